/- The law FnIfNothing's walk: it returns true. -/
import Derived.Test.YtmkehbjpnajilaaGreatDoorJ11
import Derived.Test.YtmkehbjpnajilaaGreatDoorJ10
/- The law FnIfNothing returns true, whatever comes in. -/
namespace Go.Proofs.YtmkehbjpnajilaaGreatDoor
open Go Go.RowKit Lex Go.Proofs.YtmkehbjpnajilaaGreatDoorW.PrintWords Go.Proofs.YtmkehbjpnajilaaGreatDoor.PHelp
set_option linter.unusedVariables false
set_option linter.unusedSimpArgs false

/-- The file. -/
def ifnF (cond name : Bs) (body after : List Bs) : Bs := dirN kwIfdef cond (defB name body (dirB kwEndif (textB after ++ 10 :: [])))

theorem ifn_told (y : Wy) (hy : y.bl = true) {body after : List Bs} {cond name : Bs} (hc : PName cond) (hcl : cond.length ≤ 60) (hn : PName name) (hnl : name.length ≤ 60) (hb : ∀ w ∈ body, WordL w) (haf : ∀ w ∈ after, WordL w) (hb20 : body.length ≤ 20) (ha20 : after.length ≤ 20) :
    ∃ T l s' mac mn, TL (ifnF cond name body after) 1 1 T ∧ StT y l ⟨[tzAb mainName T], 0, fun _ => none, [], true, []⟩ s' ∧ At s' mainName [] [] mac [] mn ∧ shown (l.map Fd.kx) = after ∧ l.length ≤ 1000 ∧ ∀ f ∈ l, -1000000 ≤ f.k ∧ f.k < 1000000 := by
  have hpc := pc_dirN pn_ifdef (by decide) hc hcl (tail := defB name body (dirB kwEndif (textB after ++ 10 :: []))) (by simpa using pc_def hn hnl hb (tail := dirB kwEndif (textB after ++ 10 :: [])) (pc_dirB pn_endif (by decide) (tail := textB after ++ 10 :: []) (by simpa using pc_line haf .nil [] (by intro b h; cases h))) [] (by intro b h; cases h))
  obtain ⟨T, h1, h2⟩ := hpc.tl 1 1
  have hat := at_start (nm := mainName) h2
  obtain ⟨s1, a1, a2, a3⟩ := nx_ifdef (y := y) (t := true) hat rfl hy (by simp) (by simp) rfl hcl
  obtain ⟨l1, b1, b2, _⟩ := HashTo.st (m := 0) a1.1 a1.2.1 a1.2.2 (by simp)
  obtain ⟨s2, c1, c2⟩ := nx_defoff (y := y) a2 a3 (by simp) (by simp) rfl
  obtain ⟨l2, d1, d2, _⟩ := HashTo.st (m := 0) c1.1 c1.2.1 c1.2.2 (by simp)
  have hskip : ∀ q ∈ (-2, name) :: (body.map tokW ++ [((10 : Int), ([10] : Bs))]), q.1 ≠ 35 ∧ q.1 ≠ -1 ∧ q.1 ≠ 0 ∧ q.2.length ≤ 1000 ∧ (q.1 = -2 → (fun _ : Bs => (none : Option Mc)) q.2 = none) := fun q hq => by
    rcases List.mem_cons.1 hq with rfl | hq
    · exact ⟨by show (-2 : Int) ≠ 35; decide, by show (-2 : Int) ≠ -1; decide, by show (-2 : Int) ≠ 0; decide, by show name.length ≤ 1000; omega, fun _ => rfl⟩
    · exact skip_words (mac := fun _ => none) (fun w hw => ⟨hb w hw, fun _ => rfl⟩) q hq
  obtain ⟨s3, e1, e2, _, e4⟩ := nx_skips (y := y) (nm := mainName) (rest := []) (R := (35, [35]) :: (-2, kwEndif) :: (10, [10]) :: (after.map tokW ++ [(10, [10])])) (mac := fun _ => none) (ifs := [((fun _ : Bs => (none : Option Mc)) cond).isSome == true]) (mn := 0) (by simp) (by simp) rfl _ s2 hskip (by simpa using c2)
  have e3 : s3.bol = true := by
    have := e2 (10, [10]) (by simp [List.getLast?_cons, List.getLast?_append])
    simpa using this
  obtain ⟨s4, f1, f2, f3⟩ := nx_endif (y := y) e1 e3 hy (by simp)
  obtain ⟨l3, g1, g2, _⟩ := HashTo.st (e4 0 0 35 s4 f1.1) f1.2.1 f1.2.2 (by simp)
  obtain ⟨l4, s5, i1, i2, i3, _⟩ := st_words (y := y) (rep := fun w => [w]) ⟨fun w _ => rfl, fun w m h => by cases h⟩ (by simp) (by simp) rfl after _ (fun w hw => ⟨haf w hw, fun h => by cases h⟩) f2
  obtain ⟨l5, s6, j1, j2, j3, _, _⟩ := st_nl (y := y) i3 (by simp) (by simp) rfl
  refine ⟨T, l1 ++ (l2 ++ (l3 ++ (l4 ++ l5))), s6, _, _, h1, b1.app (d1.app (g1.app (i1.app j1))), j3, ?_, ?_, ?_⟩
  · rw [List.map_append, List.map_append, List.map_append, List.map_append, b2, d2, g2, i2, j2, shown_app, shown_app, shown_app, shown_app, shown_words (ws := after.flatMap fun w => [w]) (by simpa using haf)]
    simp [shown, isShown]
  · have k1 := congrArg List.length b2
    have k2 := congrArg List.length d2
    have k3 := congrArg List.length g2
    have k4 := congrArg List.length i2
    have k5 := congrArg List.length j2
    simp at k1 k2 k3 k4 k5
    simp only [List.length_append]
    omega
  · exact (b1.app (d1.app (g1.app (i1.app j1)))).kinds

section
variable {w : World} {ev : Value} {b0 : Bs} {b1 : Bs} {l2 : List Bs} {A2 : Option Addr} {c2 : Nat} {l3 : List Bs} {A3 : Option Addr} {c3 : Nat}
set_option maxRecDepth 100000 in
set_option maxHeartbeats 4000000 in
theorem ifn_law (hr2 : Kd.C Kd.string w A2 (l2.map mkS).length (l2.map mkS)) (hc2 : (l2.map mkS).length ≤ c2) (hr3 : Kd.C Kd.string w A3 (l3.map mkS).length (l3.map mkS)) (hc3 : (l3.map mkS).length ≤ c3) (hg : Glob w ev) (hB : 21 ≤ w.heap.size) :
    Calls Tryz.prog 4 #[.string (mkS b0), .string (mkS b1), .slice A2 (l2.map mkS).length c2, .slice A3 (l3.map mkS).length c3] w (LawQ w) := by
  have Hfin := Lib.hid (lawq_drewN w)
  have Hg := Lib.hid hg
  have s0 := mkS_size b0
  obtain ⟨n0, e0⟩ : ∃ n, n = b0.length := ⟨_, rfl⟩
  rw [← e0] at s0
  have N0 := Lib.hid e0
  have s1 := mkS_size b1
  obtain ⟨n1, e1⟩ : ∃ n, n = b1.length := ⟨_, rfl⟩
  rw [← e1] at s1
  have N1 := Lib.hid e1
  obtain ⟨m2, e2⟩ : ∃ m, m = (l2.map mkS).length := ⟨_, rfl⟩
  have M2 := Lib.hid e2
  have R2 := Lib.hid hr2
  have C2 := Lib.hid hc2
  have q2 : m2 ≤ c2 := by rw [e2]; exact hc2
  rw [← e2]
  obtain ⟨m3, e3⟩ : ∃ m, m = (l3.map mkS).length := ⟨_, rfl⟩
  have M3 := Lib.hid e3
  have R3 := Lib.hid hr3
  have C3 := Lib.hid hc3
  have q3 : m3 ≤ c3 := by rw [e3]; exact hc3
  rw [← e3]
  clear hg e0 e1 e2 e3 hr2 hc2 hr3 hc3
  go_enter Tryz.func4, Tryz.ntmps4
  change Code.wp _ _ _ _ (w.drewN 0)
  rcases Nat.lt_or_ge 2147483647 n0 with hz0 | hz0
  · go_wp2
    go_ret
    exact Hfin.out _
  rcases Nat.lt_or_ge 2147483647 n1 with hz1 | hz1
  · go_wp2
    go_ret
    exact Hfin.out _
  obtain ⟨t2, z2, y2⟩ := fits_f (ws := l2)
  have g2 := gd_fits R2.out C2.out z2
  rw [← M2.out] at g2
  have G := Lib.hid g2
  have F2 := Lib.hid y2
  clear g2 z2 y2
  go_wp2_with fail
  refine (G.out _).mono ?_
  rintro e u1 ⟨rfl, j1, rfl⟩
  clear G
  cases t2 with
  | false => go_wp2; go_ret; exact Hfin.out _
  | true =>
  obtain ⟨t3, z3, y3⟩ := fits_f (ws := l3)
  have g3 := gd_fits R3.out C3.out z3
  rw [← M3.out] at g3
  have G := Lib.hid g3
  have F3 := Lib.hid y3
  clear g3 z3 y3
  go_wp2_with fail
  refine (G.out _).mono ?_
  rintro e u2 ⟨rfl, j2, rfl⟩
  clear G
  cases t3 with
  | false => go_wp2; go_ret; exact Hfin.out _
  | true =>
  obtain ⟨t2, z2, y2⟩ := line_f (F2.out (by first | rfl | trivial)).2 (F2.out (by first | rfl | trivial)).1
  have g2 := gd_line R2.out C2.out z2
  rw [← M2.out] at g2
  have G := Lib.hid g2
  have Y := Lib.hid y2
  clear g2 z2 y2
  go_wp2_with fail
  refine (G.out _).mono ?_
  rintro e u3 ⟨rfl, j3, rfl⟩
  clear G
  cases t2 with
  | false => go_wp2; go_ret; exact Hfin.out _
  | true =>
  have W2 : Hid (∀ x ∈ l2, WordL x) := Lib.hid (fun x hx => ((Y.out (by first | rfl | trivial)).1 x hx).word)
  have T2 : Hid (l2.length ≤ 20) := Lib.hid (Y.out (by first | rfl | trivial)).2
  clear Y
  obtain ⟨t3, z3, y3⟩ := line_f (F3.out (by first | rfl | trivial)).2 (F3.out (by first | rfl | trivial)).1
  have g3 := gd_line R3.out C3.out z3
  rw [← M3.out] at g3
  have G := Lib.hid g3
  have Y := Lib.hid y3
  clear g3 z3 y3
  go_wp2_with fail
  refine (G.out _).mono ?_
  rintro e u4 ⟨rfl, j4, rfl⟩
  clear G
  cases t3 with
  | false => go_wp2; go_ret; exact Hfin.out _
  | true =>
  have W3 : Hid (∀ x ∈ l3, WordL x) := Lib.hid (fun x hx => ((Y.out (by first | rfl | trivial)).1 x hx).word)
  have T3 : Hid (l3.length ≤ 20) := Lib.hid (Y.out (by first | rfl | trivial)).2
  clear Y
  rcases Nat.eq_zero_or_pos m2 with e0 | hpos2
  · subst e0
    go_wp2
    go_ret
    exact Hfin.out _
  obtain ⟨x2, r2, e0⟩ : ∃ x r, l2 = x :: r := by
    cases hc : l2 with
    | nil => have := M2.out; rw [hc] at this; simp at this; omega
    | cons x r => exact ⟨x, r, rfl⟩
  have B2 := Lib.hid e0
  obtain ⟨ad2, hA, hcell⟩ := (Kd.reads_of_C (d := ByteArray.empty) R2.out).2.2 (by rw [← M2.out]; exact hpos2)
  subst hA
  have hc2 : w.cell? ad2 = some (.string (mkS x2)) := by
    have := hcell 0 (by rw [← M2.out]; exact hpos2)
    have e : ad2.add 0 = ad2 := by simp [Addr.add]
    rw [e, e0] at this
    exact this
  have qa2 : ((m2 : Int) == 0) = false := by simp; omega
  have qb2 : (0 : Int) < (m2 : Int) := by omega
  clear hcell e0
  obtain ⟨t2, h402⟩ : ∃ r, ((mkS x2).toList == ([40] : List UInt8)) = r := ⟨_, rfl⟩
  cases t2 with
  | true => go_wp2; go_ret; exact Hfin.out _
  | false =>
  have H2 : Hid (l2.head? ≠ some [40]) := Lib.hid (fun e => by
    rw [B2.out] at e
    simp at e
    rw [e, mkS_toList] at h402
    simp at h402)
  obtain ⟨t1, z1, y1⟩ := plain_f b1 (by rw [← N1.out]; exact hz1)
  have G := Lib.hid (gd_plain (w := w) z1)
  have Y := Lib.hid y1
  clear z1 y1
  go_wp2_with fail
  refine (G.out _).mono ?_
  rintro e u5 ⟨rfl, j5, rfl⟩
  clear G
  cases t1 with
  | false => go_wp2; go_ret; exact Hfin.out _
  | true =>
  have X1 : Hid (PName b1) := Lib.hid (Y.out (by first | rfl | trivial)).2
  clear Y
  obtain ⟨t0, z0, y0⟩ := plain_f b0 (by rw [← N0.out]; exact hz0)
  have G := Lib.hid (gd_plain (w := w) z0)
  have Y := Lib.hid y0
  clear z0 y0
  go_wp2_with fail
  refine (G.out _).mono ?_
  rintro e u6 ⟨rfl, j6, rfl⟩
  clear G
  cases t0 with
  | false => go_wp2; go_ret; exact Hfin.out _
  | true =>
  have X0 : Hid (PName b0) := Lib.hid (Y.out (by first | rfl | trivial)).2
  clear Y
  obtain ⟨te, heq⟩ : ∃ r, ((mkS b0).toList == (mkS b1).toList) = r := ⟨_, rfl⟩
  cases te with
  | true => go_wp2; go_ret; exact Hfin.out _
  | false =>
  have E0_1 : Hid (b0 ≠ b1) := Lib.hid (fun e => by rw [e] at heq; simp at heq)
  have hsum : IntKind.i64.wrap ((n1 : Int) + (n0 : Int)) = (n1 : Int) + (n0 : Int) := IntWalk.i64_in _ (by omega)
  rcases Nat.lt_or_ge 60 (n1 + n0) with h60 | h60_1
  · have h60i : (60 : Int) < (n1 : Int) + (n0 : Int) := by omega
    go_wp2
    go_ret
    exact Hfin.out _
  have h60j : ¬ (60 : Int) < (n1 : Int) + (n0 : Int) := by omega
  have g3 := gd_has R3.out C3.out (has_f b0 (F3.out (by first | rfl | trivial)).2)
  rw [← M3.out] at g3
  obtain ⟨t3, ht3⟩ : ∃ r, (l3.any fun w => w == b0) = r := ⟨_, rfl⟩
  rw [ht3] at g3
  have G := Lib.hid g3
  have O := Lib.hid ht3
  clear g3 ht3
  go_wp2_with fail
  refine (G.out _).mono ?_
  rintro e u7 ⟨rfl, j7, rfl⟩
  clear G
  cases t3 with
  | true => go_wp2; go_ret; exact Hfin.out _
  | false =>
  have O3_0 : Hid (b0 ∉ l3) := Lib.hid (fun h => by
    have h2 : (l3.any fun w => w == b0) = true := List.any_eq_true.2 ⟨b0, h, by simp⟩
    rw [O.out] at h2
    cases h2)
  clear O
  have hn0 : b0.length ≤ 60 := by have := N0.out; omega
  have hn1 : b1.length ≤ 60 := by have := N1.out; omega
  have htl2 := textB_len l2 (fun x hx => (W2.out x hx).len)
  have htl3 := textB_len l3 (fun x hx => (W3.out x hx).len)
  have hT2 := T2.out
  have hT3 := T3.out
  have g2 := gd_text R2.out C2.out (text_f (by omega) (fun x hx => (W2.out x hx).len))
  have g3 := gd_text R3.out C3.out (text_f (by omega) (fun x hx => (W3.out x hx).len))
  rw [← M2.out] at g2
  rw [← M3.out] at g3
  have hx : (⟨#[35, 105, 102, 100, 101, 102, 32]⟩ ++ mkS b0 ++ ⟨#[10, 35, 100, 101, 102, 105, 110, 101, 32]⟩ ++ mkS b1 ++ ⟨#[32]⟩ ++ mkS (textB l2) ++ ⟨#[10, 35, 101, 110, 100, 105, 102, 10]⟩ ++ mkS (textB l3) ++ ⟨#[10]⟩ : ByteArray) = mkS (ifnF b0 b1 l2 l3) := by
    have e1 : (⟨#[35, 105, 102, 100, 101, 102, 32]⟩ : ByteArray) = mkS [35, 105, 102, 100, 101, 102, 32] := rfl
    have e2 : (⟨#[32]⟩ : ByteArray) = mkS [32] := rfl
    have e3 : (⟨#[10]⟩ : ByteArray) = mkS [10] := rfl
    have e4 : (⟨#[10, 35, 100, 101, 102, 105, 110, 101, 32]⟩ : ByteArray) = mkS [10, 35, 100, 101, 102, 105, 110, 101, 32] := rfl
    have e5 : (⟨#[10, 35, 101, 110, 100, 105, 102, 10]⟩ : ByteArray) = mkS [10, 35, 101, 110, 100, 105, 102, 10] := rfl
    rw [e1, e2, e3, e4, e5]
    simp only [mkS_app]
    congr 1
    simp [ifnF, dirN, dirB, defB, kwDefine, kwIfdef, kwEndif]
  have hlen : (ifnF b0 b1 l2 l3).length ≤ 5000 := by
    unfold ifnF dirN dirB defB
    simp only [List.length_cons, List.length_append, List.length_nil]
    have : kwDefine.length = 6 := rfl
    have : kwIfdef.length = 5 := rfl
    have : kwEndif.length = 5 := rfl
    omega
  have hasc : ascii (ifnF b0 b1 l2 l3) := by
    unfold ifnF dirN
    refine ascii_cons (by decide) (ascii_app (by unfold ascii; decide) (ascii_cons (by decide) (ascii_app X0.out.ascii (ascii_cons (by decide) (ascii_def X1.out W2.out ?_)))))
    unfold dirB
    exact ascii_cons (by decide) (ascii_app (by unfold ascii; decide) (ascii_cons (by decide) (ascii_app (ascii_text W3.out) (ascii_cons (by decide) (by intro b h; cases h)))))
  obtain ⟨T, fl, s', mac, mn, t1, t2, t3, t4, t5, t6⟩ := ifn_told (yExp (ifnF b0 b1 l2 l3)) rfl X0.out hn0 X1.out hn1 W2.out W3.out hT2 hT3
  have GS : Hid (∀ w', Below w.heap.size w w' → ∀ g, Files w' g 1 [(mainBs, mkS (ifnF b0 b1 l2 l3))] → Calls Tryz.prog 17 #[.slice (some ⟨g, 0, none⟩) 1 1, .slice none 0 0, .slice A3 m3 c3] w' (SQ w')) := Lib.hid (fun w' hb g hr =>
    shows_true (text := ifnF b0 b1 l2 l3) hr t1 hasc (by omega) t2 t3 (by omega) t6 (by rw [t4, M3.out]; exact Kd.C_below R3.out hb) (by rw [t4]; exact M3.out) q3 (Hg.out.only (Only.ofBelow hb) (fun k hk e => by omega)) (Nat.le_trans hB hb.size))
  obtain ⟨x2', hx2⟩ : ∃ x, x = mkS (textB l2) := ⟨_, rfl⟩
  obtain ⟨x3, hx3⟩ : ∃ x, x = mkS (textB l3) := ⟨_, rfl⟩
  have z2 : x2'.size = (textB l2).length := by rw [hx2, mkS_size]
  have z3 : x3.size = (textB l3).length := by rw [hx3, mkS_size]
  rw [← hx2] at g2 hx
  rw [← hx3] at g3 hx
  obtain ⟨p2, hp2⟩ : ∃ p, p = (textB l2).length := ⟨_, rfl⟩
  obtain ⟨p3, hp3⟩ : ∃ p, p = (textB l3).length := ⟨_, rfl⟩
  rw [← hp2] at z2 htl2
  rw [← hp3] at z3 htl3
  have hp2' : p2 ≤ 1300 := by omega
  have hp3' : p3 ≤ 1300 := by omega
  have G2 := Lib.hid g2
  have G3 := Lib.hid g3
  have HX := Lib.hid hx
  clear g2 g3 hx t1 t2 t3 t4 t5 t6 hlen hasc hx2 hx3 hp2 hp3 htl2 htl3 hT2 hT3 hn0 hn1
  go_wp2_with fail
  refine (G2.out _).mono ?_
  rintro e v2 ⟨rfl, i2, rfl⟩
  go_wp2_with fail
  refine (G3.out _).mono ?_
  rintro e v3 ⟨rfl, i3, rfl⟩
  go_wp2_with fail
  rw [HX.out]
  refine fileOf_any.mono ?_
  rintro e w9 ⟨rfl, rfl⟩
  have hbe : Below w.heap.size w ((w.drewN i3).alloc (.cells #[.string mainName, .string (mkS (ifnF b0 b1 l2 l3))] 49)) := (below_drewN (Below.refl _ _) _).alloc (Nat.le_refl _) _
  have hgs := GS.out _ hbe _ (files_one (w.drewN i3) (ifnF b0 b1 l2 l3))
  have HGS := Lib.hid hgs
  have Hbe := Lib.hid hbe
  clear hbe hgs GS
  go_wp2_with fail
  refine HGS.out.mono ?_
  rintro e w13 ⟨rfl, hb13⟩
  have Hend : Hid (LawQ w (.returned (.bool true)) w13) := Lib.hid ⟨rfl, Hbe.out.trans (hb13.mono Hbe.out.size)⟩
  clear hb13
  go_wp2
  go_ret
  exact Hend.out
end
end Go.Proofs.YtmkehbjpnajilaaGreatDoor
