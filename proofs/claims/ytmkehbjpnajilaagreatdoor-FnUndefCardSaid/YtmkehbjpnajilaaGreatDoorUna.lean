/- The law FnUndef's walk: it returns true. -/
import Derived.Test.YtmkehbjpnajilaaGreatDoorJ11
/- The law FnUndef returns true, whatever comes in. -/
namespace Go.Proofs.YtmkehbjpnajilaaGreatDoor
open Go Go.RowKit Lex Go.Proofs.YtmkehbjpnajilaaGreatDoorW.PrintWords Go.Proofs.YtmkehbjpnajilaaGreatDoor.PHelp
set_option linter.unusedVariables false
set_option linter.unusedSimpArgs false

/-- The file. -/
def undF (name : Bs) (body during after : List Bs) : Bs := defB name body (textB during ++ 10 :: undB name (textB after ++ 10 :: []))

theorem undef_told (y : Wy) {during body after : List Bs} {name : Bs} (hn : PName name) (hnl : name.length ≤ 60) (hbe : ∀ w ∈ during, WordL w) (hb : ∀ w ∈ body, WordL w) (haf : ∀ w ∈ after, WordL w) (hb0 : body ≠ []) (hbh : body.head? ≠ some [40]) (hb20 : body.length ≤ 20) (he20 : during.length ≤ 20) (ha20 : after.length ≤ 20) (hno : name ∉ body) :
    ∃ T l s' mac mn, TL (undF name body during after) 1 1 T ∧ StT y l ⟨[tzAb mainName T], 0, fun _ => none, [], true, []⟩ s' ∧ At s' mainName [] [] mac [] mn ∧ shown (l.map Fd.kx) = during.flatMap (repW name body) ++ after ∧ l.length ≤ 1000 ∧ ∀ f ∈ l, -1000000 ≤ f.k ∧ f.k < 1000000 := by
  have hpc := pc_def hn hnl hb (tail := textB during ++ 10 :: undB name (textB after ++ 10 :: [])) (by simpa using pc_line hbe (tail := undB name (textB after ++ 10 :: [])) (by simpa using pc_und hn hnl (tail := textB after ++ 10 :: []) (by simpa using pc_line haf .nil [] (by intro b h; cases h)) [] (by intro b h; cases h)) [] (by intro b h; cases h)) [] (by intro b h; cases h)
  obtain ⟨T, h1, h2⟩ := hpc.tl 1 1
  have hat := at_start (nm := mainName) h2
  obtain ⟨l1, s1, a1, a2, a3, a4, _⟩ := st_def (y := y) hat rfl (by simp) (by simp) (by simp) rfl (by decide) hnl hb hb0 hbh hb20 rfl
  have hrep : Rep (fun z => if z = name then some (⟨none, body.map tokW⟩ : Mc) else none) (repW name body) := by
    refine ⟨fun w h => ?_, fun w m h => ?_⟩
    · have : w ≠ name := fun e => by simp [e] at h
      simp [repW, this]
    · by_cases e : w = name
      · simp only [e, if_true, Option.some.injEq] at h
        subst h
        refine ⟨rfl, by simp [repW, e], by simp [repW, e, hb0], by simp [repW, e]; omega, fun b hb' => ?_⟩
        have hb2 : b ∈ body := by simpa [repW, e] using hb'
        exact ⟨hb b hb2, fun _ => by have : b ≠ name := fun e => hno (e ▸ hb2); simp [this]⟩
      · simp [e] at h
  obtain ⟨l2, s2, b1, b2, b3, _⟩ := st_words (y := y) hrep (by simp) (by simp) rfl during _ (fun w hw => ⟨hbe w hw, fun h => by
    have e : w = name := by
      by_cases e : w = name
      · exact e
      · simp [e] at h
    exact (hbe w hw).name_kind (e ▸ hn)⟩) a3
  obtain ⟨l3, s3, c1, c2, c3, c4, _⟩ := st_nl (y := y) b3 (by simp) (by simp) rfl
  obtain ⟨l4, s4, d1, d2, d3, d4, _⟩ := st_undef (y := y) c3 c4 (by simp) (by simp) rfl hnl (m := ⟨none, body.map tokW⟩) (by simp)
  have hz : ∀ w, (if w = name then none else (if w = name then some (⟨none, body.map tokW⟩ : Mc) else none)) = none := fun w => by split <;> rfl
  obtain ⟨l5, s5, e1, e2, e3, _⟩ := st_words (y := y) (rep := fun w => [w]) ⟨fun w _ => rfl, fun w m h => by rw [hz w] at h; cases h⟩ (by simp) (by simp) rfl after _ (fun w hw => ⟨haf w hw, fun h => by rw [hz w] at h; cases h⟩) d3
  obtain ⟨l6, s6, f1, f2, f3, _, _⟩ := st_nl (y := y) e3 (by simp) (by simp) rfl
  refine ⟨T, l1 ++ (l2 ++ (l3 ++ (l4 ++ (l5 ++ l6)))), s6, _, _, h1, a1.app (b1.app (c1.app (d1.app (e1.app f1)))), f3, ?_, ?_, ?_⟩
  · rw [List.map_append, List.map_append, List.map_append, List.map_append, List.map_append, a2, b2, c2, d2, e2, f2, shown_app, shown_app, shown_app, shown_app, shown_app, shown_words (ws := after.flatMap fun w => [w]) (by simpa using haf), shown_words (fun w hw => ?_)]
    · simp [shown, isShown]
    · obtain ⟨x, hx, hw⟩ := List.mem_flatMap.1 hw
      unfold repW at hw
      split at hw
      · exact hb w hw
      · simp at hw; rw [hw]; exact hbe x hx
  · have k1 := congrArg List.length a2
    have k2 := congrArg List.length b2
    have k3 := congrArg List.length c2
    have k4 := congrArg List.length d2
    have k5 := congrArg List.length e2
    have k8 := congrArg List.length f2
    have k6 := repW_len name body hb20 during
    simp at k1 k2 k3 k4 k5 k8
    simp only [List.length_append]
    have k7 : (during.flatMap (repW name body)).length = (List.map (fun a => (repW name body a).length) during).sum := by simp [List.length_flatMap]
    omega
  · exact (a1.app (b1.app (c1.app (d1.app (e1.app f1))))).kinds

section
variable {w : World} {ev : Value} {b0 : Bs} {l1 : List Bs} {A1 : Option Addr} {c1 : Nat} {l2 : List Bs} {A2 : Option Addr} {c2 : Nat} {l3 : List Bs} {A3 : Option Addr} {c3 : Nat}
set_option maxRecDepth 100000 in
set_option maxHeartbeats 4000000 in
theorem undef_law (hr1 : Kd.C Kd.string w A1 (l1.map mkS).length (l1.map mkS)) (hc1 : (l1.map mkS).length ≤ c1) (hr2 : Kd.C Kd.string w A2 (l2.map mkS).length (l2.map mkS)) (hc2 : (l2.map mkS).length ≤ c2) (hr3 : Kd.C Kd.string w A3 (l3.map mkS).length (l3.map mkS)) (hc3 : (l3.map mkS).length ≤ c3) (hg : Glob w ev) (hB : 21 ≤ w.heap.size) :
    Calls Tryz.prog 3 #[.string (mkS b0), .slice A1 (l1.map mkS).length c1, .slice A2 (l2.map mkS).length c2, .slice A3 (l3.map mkS).length c3] w (LawQ w) := by
  have Hfin := Lib.hid (lawq_drewN w)
  have Hg := Lib.hid hg
  have s0 := mkS_size b0
  obtain ⟨n0, e0⟩ : ∃ n, n = b0.length := ⟨_, rfl⟩
  rw [← e0] at s0
  have N0 := Lib.hid e0
  obtain ⟨m1, e1⟩ : ∃ m, m = (l1.map mkS).length := ⟨_, rfl⟩
  have M1 := Lib.hid e1
  have R1 := Lib.hid hr1
  have C1 := Lib.hid hc1
  have q1 : m1 ≤ c1 := by rw [e1]; exact hc1
  rw [← e1]
  obtain ⟨m2, e2⟩ : ∃ m, m = (l2.map mkS).length := ⟨_, rfl⟩
  have M2 := Lib.hid e2
  have R2 := Lib.hid hr2
  have C2 := Lib.hid hc2
  have q2 : m2 ≤ c2 := by rw [e2]; exact hc2
  rw [← e2]
  obtain ⟨m3, e3⟩ : ∃ m, m = (l3.map mkS).length := ⟨_, rfl⟩
  have M3 := Lib.hid e3
  have R3 := Lib.hid hr3
  have C3 := Lib.hid hc3
  have q3 : m3 ≤ c3 := by rw [e3]; exact hc3
  rw [← e3]
  clear hg e0 e1 e2 e3 hr1 hc1 hr2 hc2 hr3 hc3
  go_enter Tryz.func3, Tryz.ntmps3
  change Code.wp _ _ _ _ (w.drewN 0)
  rcases Nat.lt_or_ge 2147483647 n0 with hz0 | hz0
  · go_wp2
    go_ret
    exact Hfin.out _
  obtain ⟨t1, z1, y1⟩ := fits_f (ws := l1)
  have g1 := gd_fits R1.out C1.out z1
  rw [← M1.out] at g1
  have G := Lib.hid g1
  have F1 := Lib.hid y1
  clear g1 z1 y1
  go_wp2_with fail
  refine (G.out _).mono ?_
  rintro e u1 ⟨rfl, j1, rfl⟩
  clear G
  cases t1 with
  | false => go_wp2; go_ret; exact Hfin.out _
  | true =>
  obtain ⟨t2, z2, y2⟩ := fits_f (ws := l2)
  have g2 := gd_fits R2.out C2.out z2
  rw [← M2.out] at g2
  have G := Lib.hid g2
  have F2 := Lib.hid y2
  clear g2 z2 y2
  go_wp2_with fail
  refine (G.out _).mono ?_
  rintro e u2 ⟨rfl, j2, rfl⟩
  clear G
  cases t2 with
  | false => go_wp2; go_ret; exact Hfin.out _
  | true =>
  obtain ⟨t3, z3, y3⟩ := fits_f (ws := l3)
  have g3 := gd_fits R3.out C3.out z3
  rw [← M3.out] at g3
  have G := Lib.hid g3
  have F3 := Lib.hid y3
  clear g3 z3 y3
  go_wp2_with fail
  refine (G.out _).mono ?_
  rintro e u3 ⟨rfl, j3, rfl⟩
  clear G
  cases t3 with
  | false => go_wp2; go_ret; exact Hfin.out _
  | true =>
  obtain ⟨t2, z2, y2⟩ := line_f (F2.out (by first | rfl | trivial)).2 (F2.out (by first | rfl | trivial)).1
  have g2 := gd_line R2.out C2.out z2
  rw [← M2.out] at g2
  have G := Lib.hid g2
  have Y := Lib.hid y2
  clear g2 z2 y2
  go_wp2_with fail
  refine (G.out _).mono ?_
  rintro e u4 ⟨rfl, j4, rfl⟩
  clear G
  cases t2 with
  | false => go_wp2; go_ret; exact Hfin.out _
  | true =>
  have W2 : Hid (∀ x ∈ l2, WordL x) := Lib.hid (fun x hx => ((Y.out (by first | rfl | trivial)).1 x hx).word)
  have T2 : Hid (l2.length ≤ 20) := Lib.hid (Y.out (by first | rfl | trivial)).2
  clear Y
  obtain ⟨t3, z3, y3⟩ := line_f (F3.out (by first | rfl | trivial)).2 (F3.out (by first | rfl | trivial)).1
  have g3 := gd_line R3.out C3.out z3
  rw [← M3.out] at g3
  have G := Lib.hid g3
  have Y := Lib.hid y3
  clear g3 z3 y3
  go_wp2_with fail
  refine (G.out _).mono ?_
  rintro e u5 ⟨rfl, j5, rfl⟩
  clear G
  cases t3 with
  | false => go_wp2; go_ret; exact Hfin.out _
  | true =>
  have W3 : Hid (∀ x ∈ l3, WordL x) := Lib.hid (fun x hx => ((Y.out (by first | rfl | trivial)).1 x hx).word)
  have T3 : Hid (l3.length ≤ 20) := Lib.hid (Y.out (by first | rfl | trivial)).2
  clear Y
  obtain ⟨t1, z1, y1⟩ := line_f (F1.out (by first | rfl | trivial)).2 (F1.out (by first | rfl | trivial)).1
  have g1 := gd_line R1.out C1.out z1
  rw [← M1.out] at g1
  have G := Lib.hid g1
  have Y := Lib.hid y1
  clear g1 z1 y1
  go_wp2_with fail
  refine (G.out _).mono ?_
  rintro e u6 ⟨rfl, j6, rfl⟩
  clear G
  cases t1 with
  | false => go_wp2; go_ret; exact Hfin.out _
  | true =>
  have W1 : Hid (∀ x ∈ l1, WordL x) := Lib.hid (fun x hx => ((Y.out (by first | rfl | trivial)).1 x hx).word)
  have T1 : Hid (l1.length ≤ 20) := Lib.hid (Y.out (by first | rfl | trivial)).2
  clear Y
  rcases Nat.eq_zero_or_pos m1 with e0 | hpos1
  · subst e0
    go_wp2
    go_ret
    exact Hfin.out _
  obtain ⟨x1, r1, e0⟩ : ∃ x r, l1 = x :: r := by
    cases hc : l1 with
    | nil => have := M1.out; rw [hc] at this; simp at this; omega
    | cons x r => exact ⟨x, r, rfl⟩
  have B1 := Lib.hid e0
  obtain ⟨ad1, hA, hcell⟩ := (Kd.reads_of_C (d := ByteArray.empty) R1.out).2.2 (by rw [← M1.out]; exact hpos1)
  subst hA
  have hc1 : w.cell? ad1 = some (.string (mkS x1)) := by
    have := hcell 0 (by rw [← M1.out]; exact hpos1)
    have e : ad1.add 0 = ad1 := by simp [Addr.add]
    rw [e, e0] at this
    exact this
  have qa1 : ((m1 : Int) == 0) = false := by simp; omega
  have qb1 : (0 : Int) < (m1 : Int) := by omega
  clear hcell e0
  obtain ⟨t1, h401⟩ : ∃ r, ((mkS x1).toList == ([40] : List UInt8)) = r := ⟨_, rfl⟩
  cases t1 with
  | true => go_wp2; go_ret; exact Hfin.out _
  | false =>
  have H1 : Hid (l1.head? ≠ some [40]) := Lib.hid (fun e => by
    rw [B1.out] at e
    simp at e
    rw [e, mkS_toList] at h401
    simp at h401)
  obtain ⟨t0, z0, y0⟩ := plain_f b0 (by rw [← N0.out]; exact hz0)
  have G := Lib.hid (gd_plain (w := w) z0)
  have Y := Lib.hid y0
  clear z0 y0
  go_wp2_with fail
  refine (G.out _).mono ?_
  rintro e u7 ⟨rfl, j7, rfl⟩
  clear G
  cases t0 with
  | false => go_wp2; go_ret; exact Hfin.out _
  | true =>
  have X0 : Hid (PName b0) := Lib.hid (Y.out (by first | rfl | trivial)).2
  clear Y
  have g1 := gd_has R1.out C1.out (has_f b0 (F1.out (by first | rfl | trivial)).2)
  rw [← M1.out] at g1
  obtain ⟨t1, ht1⟩ : ∃ r, (l1.any fun w => w == b0) = r := ⟨_, rfl⟩
  rw [ht1] at g1
  have G := Lib.hid g1
  have O := Lib.hid ht1
  clear g1 ht1
  go_wp2_with fail
  refine (G.out _).mono ?_
  rintro e u8 ⟨rfl, j8, rfl⟩
  clear G
  cases t1 with
  | true => go_wp2; go_ret; exact Hfin.out _
  | false =>
  have O1_0 : Hid (b0 ∉ l1) := Lib.hid (fun h => by
    have h2 : (l1.any fun w => w == b0) = true := List.any_eq_true.2 ⟨b0, h, by simp⟩
    rw [O.out] at h2
    cases h2)
  clear O
  rcases Nat.lt_or_ge 60 n0 with h60 | h60_0
  · go_wp2
    go_ret
    exact Hfin.out _
  have hb2 : l1 ≠ [] := by rw [B1.out]; simp
  have hn1 : b0.length ≤ 60 := by rw [← N0.out]; exact h60_0
  have htl1 := textB_len l1 (fun x hx => (W1.out x hx).len)
  have htl2 := textB_len l2 (fun x hx => (W2.out x hx).len)
  have htl3 := textB_len l3 (fun x hx => (W3.out x hx).len)
  have hT1 := T1.out
  have hT2 := T2.out
  have hT3 := T3.out
  have g1 := gd_text R1.out C1.out (text_f (by omega) (fun x hx => (W1.out x hx).len))
  have g2 := gd_text R2.out C2.out (text_f (by omega) (fun x hx => (W2.out x hx).len))
  have g3 := gd_text R3.out C3.out (text_f (by omega) (fun x hx => (W3.out x hx).len))
  rw [← M1.out] at g1
  rw [← M2.out] at g2
  rw [← M3.out] at g3
  have hx : (⟨#[35, 100, 101, 102, 105, 110, 101, 32]⟩ ++ mkS b0 ++ ⟨#[32]⟩ ++ mkS (textB l1) ++ ⟨#[10]⟩ ++ mkS (textB l2) ++ ⟨#[10, 35, 117, 110, 100, 101, 102, 32]⟩ ++ mkS b0 ++ ⟨#[10]⟩ ++ mkS (textB l3) ++ ⟨#[10]⟩ : ByteArray) = mkS (undF b0 l1 l2 l3) := by
    have e1 : (⟨#[35, 100, 101, 102, 105, 110, 101, 32]⟩ : ByteArray) = mkS [35, 100, 101, 102, 105, 110, 101, 32] := rfl
    have e2 : (⟨#[32]⟩ : ByteArray) = mkS [32] := rfl
    have e3 : (⟨#[10]⟩ : ByteArray) = mkS [10] := rfl
    have e4 : (⟨#[10, 35, 117, 110, 100, 101, 102, 32]⟩ : ByteArray) = mkS [10, 35, 117, 110, 100, 101, 102, 32] := rfl
    rw [e1, e2, e3, e4]
    simp only [mkS_app]
    congr 1
    simp [undF, defB, undB, kwDefine, kwUndef]
  have hlen : (undF b0 l1 l2 l3).length ≤ 5000 := by
    unfold undF defB undB
    simp only [List.length_cons, List.length_append, List.length_nil]
    have : kwDefine.length = 6 := rfl
    have : kwUndef.length = 5 := rfl
    omega
  have hasc : ascii (undF b0 l1 l2 l3) := ascii_def X0.out W1.out (ascii_app (ascii_text W2.out) (ascii_cons (by decide) (ascii_cons (by decide) (ascii_app (by unfold ascii; decide) (ascii_cons (by decide) (ascii_app X0.out.ascii (ascii_cons (by decide) (ascii_app (ascii_text W3.out) (ascii_cons (by decide) (by intro b h; cases h))))))))))
  obtain ⟨T, fl, s', mac, mn, t1, t2, t3, t4, t5, t6⟩ := undef_told (yExp (undF b0 l1 l2 l3)) X0.out hn1 W2.out W1.out W3.out hb2 H1.out hT1 hT2 hT3 O1_0.out
  have hrepl := replaced_f b0 l1 (ws := l2) (by omega) hT1
  obtain ⟨kr, hkr⟩ := hrepl.rounds
  have hrl := repW_len b0 l1 hT1 l2
  have GS : Hid (∀ w' A n c, Below w.heap.size w w' → Kd.C Kd.string w' A n ((l2.flatMap (repW b0 l1) ++ l3).map mkS) → n = ((l2.flatMap (repW b0 l1) ++ l3).map mkS).length → n ≤ c → ∀ g, Files w' g 1 [(mainBs, mkS (undF b0 l1 l2 l3))] → Calls Tryz.prog 17 #[.slice (some ⟨g, 0, none⟩) 1 1, .slice none 0 0, .slice A n c] w' (SQ w')) := Lib.hid (fun w' A n c hb hC hn hnc g hr =>
    shows_true (text := undF b0 l1 l2 l3) hr t1 hasc (by omega) t2 t3 (by omega) t6 (by rw [t4]; exact hC) (by rw [t4]; exact hn) hnc (Hg.out.only (Only.ofBelow hb) (fun k hk e => by omega)) (Nat.le_trans hB hb.size))
  obtain ⟨x1', hx1⟩ : ∃ x, x = mkS (textB l1) := ⟨_, rfl⟩
  obtain ⟨x2', hx2⟩ : ∃ x, x = mkS (textB l2) := ⟨_, rfl⟩
  obtain ⟨x3, hx3⟩ : ∃ x, x = mkS (textB l3) := ⟨_, rfl⟩
  have z1 : x1'.size = (textB l1).length := by rw [hx1, mkS_size]
  have z2 : x2'.size = (textB l2).length := by rw [hx2, mkS_size]
  have z3 : x3.size = (textB l3).length := by rw [hx3, mkS_size]
  rw [← hx1] at g1 hx
  rw [← hx2] at g2 hx
  rw [← hx3] at g3 hx
  obtain ⟨p1, hp1⟩ : ∃ p, p = (textB l1).length := ⟨_, rfl⟩
  obtain ⟨p2, hp2⟩ : ∃ p, p = (textB l2).length := ⟨_, rfl⟩
  obtain ⟨p3, hp3⟩ : ∃ p, p = (textB l3).length := ⟨_, rfl⟩
  rw [← hp1] at z1 htl1
  rw [← hp2] at z2 htl2
  rw [← hp3] at z3 htl3
  have hp1' : p1 ≤ 1300 := by omega
  have hp2' : p2 ≤ 1300 := by omega
  have hp3' : p3 ≤ 1300 := by omega
  have G1 := Lib.hid g1
  have G2 := Lib.hid g2
  have G3 := Lib.hid g3
  have HX := Lib.hid hx
  have HKR := Lib.hid hkr
  have hm2 : m2 ≤ 20 := by have := M2.out; simp at this; omega
  have hm3 : m3 ≤ 20 := by have := M3.out; simp at this; omega
  have HRL := Lib.hid hrl
  clear g1 g2 g3 hx hkr hrepl t1 t2 t3 t4 t5 t6 hlen hasc hx1 hx2 hx3 hp1 hp2 hp3 htl1 htl2 htl3 hT1 hT2 hT3 hrl hb2 hn1
  go_wp2_with fail
  refine (G1.out _).mono ?_
  rintro e v1 ⟨rfl, i1, rfl⟩
  go_wp2_with fail
  refine (G2.out _).mono ?_
  rintro e v2 ⟨rfl, i2, rfl⟩
  go_wp2_with fail
  refine (G3.out _).mono ?_
  rintro e v3 ⟨rfl, i3, rfl⟩
  go_wp2_with fail
  rw [HX.out]
  refine fileOf_any.mono ?_
  rintro e w9 ⟨rfl, rfl⟩
  have hfil := files_one (w.drewN i3) (undF b0 l1 l2 l3)
  have hbe : Below w.heap.size w ((w.drewN i3).alloc (.cells #[.string mainName, .string (mkS (undF b0 l1 l2 l3))] 49)) := (below_drewN (Below.refl _ _) _).alloc (Nat.le_refl _) _
  have Hfil := Lib.hid hfil
  have Hbe := Lib.hid hbe
  have hsz9 : ((w.drewN i3).alloc (.cells #[.string mainName, .string (mkS (undF b0 l1 l2 l3))] 49)).heap.size = w.heap.size + 1 := by simp
  have Hsz9 := Lib.hid hsz9
  clear hfil hbe hsz9
  generalize (w.drewN i3).alloc (.cells #[.string mainName, .string (mkS (undF b0 l1 l2 l3))] 49) = w9 at Hfil Hbe Hsz9 ⊢
  obtain ⟨n4, hn4⟩ : ∃ n, n = ((l2.flatMap (repW b0 l1)).map mkS).length := ⟨_, rfl⟩
  have hrep : ∀ k, Calls Tryz.prog 19 #[.slice A2 m2 c2, .string (mkS b0), .slice (some ad1) m1 c1] (w9.drewN k) fun e w' => ∃ A4 c4, e = .returned (.slice A4 n4 c4) ∧ w'.ownsRow w9.heap.size 9 1 (.slice A4 n4 c4) n4 (((l2.flatMap (repW b0 l1)).map mkS).map Value.string) ∧ Below w9.heap.size w9 w' := fun k => by
    have h := laws_replaced.calls kr A2 c2 (l2.map mkS) (mkS b0) (some ad1) c1 (l1.map mkS) _ (w9.drewN k) (Kd.C_drewN (Kd.C_below R2.out Hbe.out) k) C2.out (Kd.C_drewN (Kd.C_below R1.out Hbe.out) k) C1.out HKR.out
    rw [← M2.out, ← M1.out] at h
    refine h.mono ?_
    rintro e w' ⟨v0, rfl, hR, hb2⟩
    have ho := own_of_R hR
    rw [← hn4] at ho
    obtain ⟨A2, c2, rfl, h1, h2⟩ := Kd.R_reads hR
    rw [← hn4] at ho ⊢
    exact ⟨A2, c2, rfl, ho, (below_drewN (Below.refl _ _) k).trans (hb2.mono (Nat.le_refl _))⟩
  have hn4b : n4 ≤ 500 := by
    rw [hn4, List.length_map]
    have := HRL.out
    have := M2.out
    simp at this
    omega
  have Hrep := Lib.hid hrep
  have Hn4 := Lib.hid hn4
  have hm3' : m3 = (l3.map mkS).length := M3.out
  have HM3 := Lib.hid hm3'
  have hk3 : ∀ w', Below w.heap.size w w' → Kd.C Kd.string w' A3 m3 (l3.map mkS) := fun w' hb => by have := Kd.C_below R3.out hb; rwa [← M3.out] at this
  have HK3 := Lib.hid hk3
  clear hrep hn4 hm3' hk3
  go_wp2_with fail
  refine (Hrep.out 0).mono ?_
  rintro e w11 ⟨A4, c4, rfl, hC4, hb11⟩
  have Hrow11 := Lib.hid hC4
  have Hb11 := Lib.hid hb11
  have Hbw11 : Hid (Below w.heap.size w w11) := Lib.hid (Hbe.out.trans (hb11.mono Hbe.out.size))
  clear hC4 hb11 Hrep
  go_wp2_with (at_builtin; refine wpList_append_kd rfl _ _ rfl w9.heap.size _ A3 m3 c3 rfl rfl n4 (((l2.flatMap (repW b0 l1)).map mkS).map Value.string) (l3.map mkS) ?d1 ?d2 ?d3 ?d4 ?d5 ?d6 ?_)
  case d1 => exact Hrow11.out
  case d2 => exact HK3.out _ Hbw11.out
  case d3 => exact HM3.out
  case d4 => exact q3
  case d5 => omega
  case d6 => exact Hb11.out.size
  intro v' w12 hown hgrow
  obtain ⟨a12, c12, rfl⟩ : ∃ a c, v' = .slice a (n4 + m3) c := by
    obtain ⟨_, ⟨e, h0⟩ | ⟨g, cap, cur, e, _⟩⟩ := hown
    · exact ⟨none, 0, by rw [e, h0]⟩
    · exact ⟨_, cap, e⟩
  have hlen12 : ((l2.flatMap (repW b0 l1) ++ l3).map mkS).length = n4 + m3 := by rw [List.map_append, List.length_append, ← HM3.out, ← Hn4.out]
  have hkd := kd_strs (b := w9.heap.size) (l := (l2.flatMap (repW b0 l1) ++ l3).map mkS) (a := a12) (n := n4 + m3) (c := c12) (w := w12) (by rw [hlen12, List.map_append, List.map_append]; simpa using hown)
  have hgf : (w.drewN i3).heap.size < w9.heap.size := by rw [Hsz9.out]; show w.heap.size < _; omega
  have hf11 : Files w11 (w.drewN i3).heap.size 1 [(mainBs, mkS (undF b0 l1 l2 l3))] := ownsRow_only Hfil.out (fun k hk => by cases hk; exact Hb11.out.block _ hgf)
  have ho12 := (Only.refl (fun q => (Value.slice A4 n4 c4).ownBlock = some q) w11).grown hgrow (fun k hk _ => hk)
  have hf12 : Files w12 (w.drewN i3).heap.size 1 [(mainBs, mkS (undF b0 l1 l2 l3))] := row_only hf11 ho12 (fun k e hk ht => typed_ne ht (ownBlock_row Hrow11.out k e).2 (fun T a b => by rw [a] at b; revert b; decide) rfl)
  have hb12 : Below w.heap.size w w12 := Hbw11.out.trans (ho12.below Hbw11.out.size (fun k hk e => by have := (ownBlock_row Hrow11.out k e).1; have := Hbe.out.size; omega))
  have hgs := GS.out w12 a12 (n4 + m3) c12 hb12 (by have := hkd.2.2; rwa [hlen12] at this) hlen12.symm (by have := hkd.2.1; omega) _ hf12
  have HGS := Lib.hid hgs
  have Hb12 := Lib.hid hb12
  clear hkd hgf hf11 ho12 hf12 hb12 hgs hown hgrow hlen12
  go_wp2_with fail
  refine HGS.out.mono ?_
  rintro e w13 ⟨rfl, hb13⟩
  have Hend : Hid (LawQ w (.returned (.bool true)) w13) := Lib.hid ⟨rfl, Hb12.out.trans (hb13.mono Hb12.out.size)⟩
  clear hb13
  go_wp2
  go_ret
  exact Hend.out
end
end Go.Proofs.YtmkehbjpnajilaaGreatDoor
