/- The law FnDefine's walk: it returns true. -/
import Derived.Test.YtkoeeolmbhobkaaGreatDoorJ11
/- The law FnDefine returns true, whatever comes in. -/
namespace Go.Proofs.YtkoeeolmbhobkaaGreatDoor
open Go Go.RowKit Lex Go.Proofs.YtkoeeolmbhobkaaGreatDoorW.PrintWords Go.Proofs.YtkoeeolmbhobkaaGreatDoor.PHelp
set_option linter.unusedVariables false
set_option linter.unusedSimpArgs false

/-- The file. -/
def defF (before : List Bs) (name : Bs) (body after : List Bs) : Bs := textB before ++ 10 :: defB name body (textB after ++ 10 :: [])

theorem define_told (y : Wy) {before body after : List Bs} {name : Bs} (hn : PName name) (hnl : name.length ≤ 60) (hbe : ∀ w ∈ before, WordL w) (hb : ∀ w ∈ body, WordL w) (haf : ∀ w ∈ after, WordL w) (hb0 : body ≠ []) (hbh : body.head? ≠ some [40]) (hb20 : body.length ≤ 20) (he20 : before.length ≤ 20) (ha20 : after.length ≤ 20) (hno : name ∉ body) :
    ∃ T l s' mac mn, TL (defF before name body after) 1 1 T ∧ StT y l ⟨[tzAb mainName T], 0, fun _ => none, [], true, []⟩ s' ∧ At s' mainName [] [] mac [] mn ∧ shown (l.map Fd.kx) = before ++ after.flatMap (repW name body) ∧ l.length ≤ 1000 ∧ ∀ f ∈ l, -1000000 ≤ f.k ∧ f.k < 1000000 := by
  have hpc := pc_line hbe (tail := defB name body (textB after ++ 10 :: [])) (by simpa using pc_def hn hnl hb (tail := textB after ++ 10 :: []) (by simpa using pc_line haf .nil [] (by intro b h; cases h)) [] (by intro b h; cases h)) [] (by intro b h; cases h)
  obtain ⟨T, h1, h2⟩ := hpc.tl 1 1
  have hat := at_start (nm := mainName) h2
  obtain ⟨l1, s1, a1, a2, a3, _⟩ := st_words (y := y) (rep := fun w => [w]) ⟨fun w _ => rfl, fun w m h => by cases h⟩ (by simp) (by simp) rfl before _ (fun w hw => ⟨hbe w hw, fun h => by cases h⟩) hat
  obtain ⟨l2, s2, b1, b2, b3, b4, _⟩ := st_nl (y := y) a3 (by simp) (by simp) rfl
  obtain ⟨l3, s3, c1, c2, c3, c4, _⟩ := st_def (y := y) b3 b4 (by simp) (by simp) (by simp) rfl (by decide) hnl hb hb0 hbh hb20 rfl
  have hrep : Rep (fun z => if z = name then some (⟨none, body.map tokW⟩ : Mc) else none) (repW name body) := by
    refine ⟨fun w h => ?_, fun w m h => ?_⟩
    · have : w ≠ name := fun e => by simp [e] at h
      simp [repW, this]
    · by_cases e : w = name
      · simp only [e, if_true, Option.some.injEq] at h
        subst h
        refine ⟨rfl, by simp [repW, e], by simp [repW, e, hb0], by simp [repW, e]; omega, fun b hb' => ?_⟩
        have hb2 : b ∈ body := by simpa [repW, e] using hb'
        exact ⟨hb b hb2, fun _ => by have : b ≠ name := fun e => hno (e ▸ hb2); simp [this]⟩
      · simp [e] at h
  obtain ⟨l4, s4, d1, d2, d3, _⟩ := st_words (y := y) hrep (by simp) (by simp) rfl after _ (fun w hw => ⟨haf w hw, fun h => by
    have e : w = name := by
      by_cases e : w = name
      · exact e
      · simp [e] at h
    exact (haf w hw).name_kind (e ▸ hn)⟩) c3
  obtain ⟨l5, s5, e1, e2, e3, _, _⟩ := st_nl (y := y) d3 (by simp) (by simp) rfl
  refine ⟨T, l1 ++ (l2 ++ (l3 ++ (l4 ++ l5))), s5, _, _, h1, a1.app (b1.app (c1.app (d1.app e1))), e3, ?_, ?_, ?_⟩
  · rw [List.map_append, List.map_append, List.map_append, List.map_append, a2, b2, c2, d2, e2, shown_app, shown_app, shown_app, shown_app, shown_words (by simpa using hbe), shown_words (fun w hw => ?_)]
    · simp [shown, isShown]
    · obtain ⟨x, hx, hw⟩ := List.mem_flatMap.1 hw
      unfold repW at hw
      split at hw
      · exact hb w hw
      · simp at hw; rw [hw]; exact haf x hx
  · have k1 := congrArg List.length a2
    have k2 := congrArg List.length b2
    have k3 := congrArg List.length c2
    have k4 := congrArg List.length d2
    have k5 := congrArg List.length e2
    have k6 := repW_len name body hb20 after
    simp at k1 k2 k3 k4 k5
    simp only [List.length_append]
    have k7 : (after.flatMap (repW name body)).length = (List.map (fun a => (repW name body a).length) after).sum := by simp [List.length_flatMap]
    omega
  · exact (a1.app (b1.app (c1.app (d1.app e1)))).kinds

section
variable {w : World} {ev : Value} {l0 : List Bs} {A0 : Option Addr} {c0 : Nat} {b1 : Bs} {l2 : List Bs} {A2 : Option Addr} {c2 : Nat} {l3 : List Bs} {A3 : Option Addr} {c3 : Nat}
set_option maxRecDepth 100000 in
set_option maxHeartbeats 4000000 in
theorem define_law (hr0 : Kd.C Kd.string w A0 (l0.map mkS).length (l0.map mkS)) (hc0 : (l0.map mkS).length ≤ c0) (hr2 : Kd.C Kd.string w A2 (l2.map mkS).length (l2.map mkS)) (hc2 : (l2.map mkS).length ≤ c2) (hr3 : Kd.C Kd.string w A3 (l3.map mkS).length (l3.map mkS)) (hc3 : (l3.map mkS).length ≤ c3) (hg : Glob w ev) (hB : 21 ≤ w.heap.size) :
    Calls Tryz.prog 5 #[.slice A0 (l0.map mkS).length c0, .string (mkS b1), .slice A2 (l2.map mkS).length c2, .slice A3 (l3.map mkS).length c3] w (LawQ w) := by
  have Hfin := Lib.hid (lawq_drewN w)
  have Hg := Lib.hid hg
  obtain ⟨m0, e0⟩ : ∃ m, m = (l0.map mkS).length := ⟨_, rfl⟩
  have M0 := Lib.hid e0
  have R0 := Lib.hid hr0
  have C0 := Lib.hid hc0
  have q0 : m0 ≤ c0 := by rw [e0]; exact hc0
  rw [← e0]
  have s1 := mkS_size b1
  obtain ⟨n1, e1⟩ : ∃ n, n = b1.length := ⟨_, rfl⟩
  rw [← e1] at s1
  have N1 := Lib.hid e1
  obtain ⟨m2, e2⟩ : ∃ m, m = (l2.map mkS).length := ⟨_, rfl⟩
  have M2 := Lib.hid e2
  have R2 := Lib.hid hr2
  have C2 := Lib.hid hc2
  have q2 : m2 ≤ c2 := by rw [e2]; exact hc2
  rw [← e2]
  obtain ⟨m3, e3⟩ : ∃ m, m = (l3.map mkS).length := ⟨_, rfl⟩
  have M3 := Lib.hid e3
  have R3 := Lib.hid hr3
  have C3 := Lib.hid hc3
  have q3 : m3 ≤ c3 := by rw [e3]; exact hc3
  rw [← e3]
  clear hg e0 e1 e2 e3 hr0 hc0 hr2 hc2 hr3 hc3
  go_enter Tryz.func5, Tryz.ntmps5
  change Code.wp _ _ _ _ (w.drewN 0)
  obtain ⟨t0, z0, y0⟩ := fits_f (ws := l0)
  have g0 := gd_fits R0.out C0.out z0
  rw [← M0.out] at g0
  have G := Lib.hid g0
  have F0 := Lib.hid y0
  clear g0 z0 y0
  go_wp2_with fail
  refine (G.out _).mono ?_
  rintro e u1 ⟨rfl, j1, rfl⟩
  clear G
  cases t0 with
  | false => go_wp2; go_ret; exact Hfin.out _
  | true =>
  rcases Nat.lt_or_ge 2147483647 n1 with hz1 | hz1
  · go_wp2
    go_ret
    exact Hfin.out _
  obtain ⟨t2, z2, y2⟩ := fits_f (ws := l2)
  have g2 := gd_fits R2.out C2.out z2
  rw [← M2.out] at g2
  have G := Lib.hid g2
  have F2 := Lib.hid y2
  clear g2 z2 y2
  go_wp2_with fail
  refine (G.out _).mono ?_
  rintro e u2 ⟨rfl, j2, rfl⟩
  clear G
  cases t2 with
  | false => go_wp2; go_ret; exact Hfin.out _
  | true =>
  obtain ⟨t3, z3, y3⟩ := fits_f (ws := l3)
  have g3 := gd_fits R3.out C3.out z3
  rw [← M3.out] at g3
  have G := Lib.hid g3
  have F3 := Lib.hid y3
  clear g3 z3 y3
  go_wp2_with fail
  refine (G.out _).mono ?_
  rintro e u3 ⟨rfl, j3, rfl⟩
  clear G
  cases t3 with
  | false => go_wp2; go_ret; exact Hfin.out _
  | true =>
  obtain ⟨t0, z0, y0⟩ := line_f (F0.out (by first | rfl | trivial)).2 (F0.out (by first | rfl | trivial)).1
  have g0 := gd_line R0.out C0.out z0
  rw [← M0.out] at g0
  have G := Lib.hid g0
  have Y := Lib.hid y0
  clear g0 z0 y0
  go_wp2_with fail
  refine (G.out _).mono ?_
  rintro e u4 ⟨rfl, j4, rfl⟩
  clear G
  cases t0 with
  | false => go_wp2; go_ret; exact Hfin.out _
  | true =>
  have W0 : Hid (∀ x ∈ l0, WordL x) := Lib.hid (fun x hx => ((Y.out (by first | rfl | trivial)).1 x hx).word)
  have T0 : Hid (l0.length ≤ 20) := Lib.hid (Y.out (by first | rfl | trivial)).2
  clear Y
  obtain ⟨t3, z3, y3⟩ := line_f (F3.out (by first | rfl | trivial)).2 (F3.out (by first | rfl | trivial)).1
  have g3 := gd_line R3.out C3.out z3
  rw [← M3.out] at g3
  have G := Lib.hid g3
  have Y := Lib.hid y3
  clear g3 z3 y3
  go_wp2_with fail
  refine (G.out _).mono ?_
  rintro e u5 ⟨rfl, j5, rfl⟩
  clear G
  cases t3 with
  | false => go_wp2; go_ret; exact Hfin.out _
  | true =>
  have W3 : Hid (∀ x ∈ l3, WordL x) := Lib.hid (fun x hx => ((Y.out (by first | rfl | trivial)).1 x hx).word)
  have T3 : Hid (l3.length ≤ 20) := Lib.hid (Y.out (by first | rfl | trivial)).2
  clear Y
  obtain ⟨t2, z2, y2⟩ := line_f (F2.out (by first | rfl | trivial)).2 (F2.out (by first | rfl | trivial)).1
  have g2 := gd_line R2.out C2.out z2
  rw [← M2.out] at g2
  have G := Lib.hid g2
  have Y := Lib.hid y2
  clear g2 z2 y2
  go_wp2_with fail
  refine (G.out _).mono ?_
  rintro e u6 ⟨rfl, j6, rfl⟩
  clear G
  cases t2 with
  | false => go_wp2; go_ret; exact Hfin.out _
  | true =>
  have W2 : Hid (∀ x ∈ l2, WordL x) := Lib.hid (fun x hx => ((Y.out (by first | rfl | trivial)).1 x hx).word)
  have T2 : Hid (l2.length ≤ 20) := Lib.hid (Y.out (by first | rfl | trivial)).2
  clear Y
  rcases Nat.eq_zero_or_pos m2 with e0 | hpos2
  · subst e0
    go_wp2
    go_ret
    exact Hfin.out _
  obtain ⟨x2, r2, e0⟩ : ∃ x r, l2 = x :: r := by
    cases hc : l2 with
    | nil => have := M2.out; rw [hc] at this; simp at this; omega
    | cons x r => exact ⟨x, r, rfl⟩
  have B2 := Lib.hid e0
  obtain ⟨ad2, hA, hcell⟩ := (Kd.reads_of_C (d := ByteArray.empty) R2.out).2.2 (by rw [← M2.out]; exact hpos2)
  subst hA
  have hc2 : w.cell? ad2 = some (.string (mkS x2)) := by
    have := hcell 0 (by rw [← M2.out]; exact hpos2)
    have e : ad2.add 0 = ad2 := by simp [Addr.add]
    rw [e, e0] at this
    exact this
  have qa2 : ((m2 : Int) == 0) = false := by simp; omega
  have qb2 : (0 : Int) < (m2 : Int) := by omega
  clear hcell e0
  obtain ⟨t2, h402⟩ : ∃ r, ((mkS x2).toList == ([40] : List UInt8)) = r := ⟨_, rfl⟩
  cases t2 with
  | true => go_wp2; go_ret; exact Hfin.out _
  | false =>
  have H2 : Hid (l2.head? ≠ some [40]) := Lib.hid (fun e => by
    rw [B2.out] at e
    simp at e
    rw [e, mkS_toList] at h402
    simp at h402)
  obtain ⟨t1, z1, y1⟩ := plain_f b1 (by rw [← N1.out]; exact hz1)
  have G := Lib.hid (gd_plain (w := w) z1)
  have Y := Lib.hid y1
  clear z1 y1
  go_wp2_with fail
  refine (G.out _).mono ?_
  rintro e u7 ⟨rfl, j7, rfl⟩
  clear G
  cases t1 with
  | false => go_wp2; go_ret; exact Hfin.out _
  | true =>
  have X1 : Hid (PName b1) := Lib.hid (Y.out (by first | rfl | trivial)).2
  clear Y
  have g2 := gd_has R2.out C2.out (has_f b1 (F2.out (by first | rfl | trivial)).2)
  rw [← M2.out] at g2
  obtain ⟨t2, ht2⟩ : ∃ r, (l2.any fun w => w == b1) = r := ⟨_, rfl⟩
  rw [ht2] at g2
  have G := Lib.hid g2
  have O := Lib.hid ht2
  clear g2 ht2
  go_wp2_with fail
  refine (G.out _).mono ?_
  rintro e u8 ⟨rfl, j8, rfl⟩
  clear G
  cases t2 with
  | true => go_wp2; go_ret; exact Hfin.out _
  | false =>
  have O2_1 : Hid (b1 ∉ l2) := Lib.hid (fun h => by
    have h2 : (l2.any fun w => w == b1) = true := List.any_eq_true.2 ⟨b1, h, by simp⟩
    rw [O.out] at h2
    cases h2)
  clear O
  rcases Nat.lt_or_ge 60 n1 with h60 | h60_1
  · go_wp2
    go_ret
    exact Hfin.out _
  have hb2 : l2 ≠ [] := by rw [B2.out]; simp
  have hn1 : b1.length ≤ 60 := by rw [← N1.out]; exact h60_1
  have htl0 := textB_len l0 (fun x hx => (W0.out x hx).len)
  have htl2 := textB_len l2 (fun x hx => (W2.out x hx).len)
  have htl3 := textB_len l3 (fun x hx => (W3.out x hx).len)
  have hT0 := T0.out
  have hT2 := T2.out
  have hT3 := T3.out
  have g0 := gd_text R0.out C0.out (text_f (by omega) (fun x hx => (W0.out x hx).len))
  have g2 := gd_text R2.out C2.out (text_f (by omega) (fun x hx => (W2.out x hx).len))
  have g3 := gd_text R3.out C3.out (text_f (by omega) (fun x hx => (W3.out x hx).len))
  rw [← M0.out] at g0
  rw [← M2.out] at g2
  rw [← M3.out] at g3
  have hx : (mkS (textB l0) ++ ⟨#[10, 35, 100, 101, 102, 105, 110, 101, 32]⟩ ++ mkS b1 ++ ⟨#[32]⟩ ++ mkS (textB l2) ++ ⟨#[10]⟩ ++ mkS (textB l3) ++ ⟨#[10]⟩ : ByteArray) = mkS (defF l0 b1 l2 l3) := by
    have e1 : (⟨#[10, 35, 100, 101, 102, 105, 110, 101, 32]⟩ : ByteArray) = mkS [10, 35, 100, 101, 102, 105, 110, 101, 32] := rfl
    have e2 : (⟨#[32]⟩ : ByteArray) = mkS [32] := rfl
    have e3 : (⟨#[10]⟩ : ByteArray) = mkS [10] := rfl
    rw [e1, e2, e3]
    simp only [mkS_app]
    congr 1
    simp [defF, defB, kwDefine]
  have hlen : (defF l0 b1 l2 l3).length ≤ 5000 := by
    unfold defF defB
    simp only [List.length_cons, List.length_append, List.length_nil]
    have : kwDefine.length = 6 := rfl
    omega
  have hasc : ascii (defF l0 b1 l2 l3) := ascii_app (ascii_text W0.out) (ascii_cons (by decide) (ascii_def X1.out W2.out (ascii_app (ascii_text W3.out) (ascii_cons (by decide) (by intro b h; cases h)))))
  obtain ⟨T, fl, s', mac, mn, t1, t2, t3, t4, t5, t6⟩ := define_told (yExp (defF l0 b1 l2 l3)) X1.out hn1 W0.out W2.out W3.out hb2 H2.out hT2 hT0 hT3 O2_1.out
  have hrepl := replaced_f b1 l2 (ws := l3) (by omega) hT2
  obtain ⟨kr, hkr⟩ := hrepl.rounds
  have hrl := repW_len b1 l2 hT2 l3
  have GS : Hid (∀ w' A n c, Below w.heap.size w w' → Kd.C Kd.string w' A n ((l0 ++ l3.flatMap (repW b1 l2)).map mkS) → n = ((l0 ++ l3.flatMap (repW b1 l2)).map mkS).length → n ≤ c → ∀ g, Files w' g 1 [(mainBs, mkS (defF l0 b1 l2 l3))] → Calls Tryz.prog 18 #[.slice (some ⟨g, 0, none⟩) 1 1, .slice none 0 0, .slice A n c] w' (SQ w')) := Lib.hid (fun w' A n c hb hC hn hnc g hr =>
    shows_true (text := defF l0 b1 l2 l3) hr t1 hasc (by omega) t2 t3 (by omega) t6 (by rw [t4]; exact hC) (by rw [t4]; exact hn) hnc (Hg.out.only (Only.ofBelow hb) (fun k hk e => by omega)) (Nat.le_trans hB hb.size))
  obtain ⟨x0, hx0⟩ : ∃ x, x = mkS (textB l0) := ⟨_, rfl⟩
  obtain ⟨x2', hx2⟩ : ∃ x, x = mkS (textB l2) := ⟨_, rfl⟩
  obtain ⟨x3, hx3⟩ : ∃ x, x = mkS (textB l3) := ⟨_, rfl⟩
  have z0 : x0.size = (textB l0).length := by rw [hx0, mkS_size]
  have z2 : x2'.size = (textB l2).length := by rw [hx2, mkS_size]
  have z3 : x3.size = (textB l3).length := by rw [hx3, mkS_size]
  rw [← hx0] at g0 hx
  rw [← hx2] at g2 hx
  rw [← hx3] at g3 hx
  obtain ⟨p0, hp0⟩ : ∃ p, p = (textB l0).length := ⟨_, rfl⟩
  obtain ⟨p2, hp2⟩ : ∃ p, p = (textB l2).length := ⟨_, rfl⟩
  obtain ⟨p3, hp3⟩ : ∃ p, p = (textB l3).length := ⟨_, rfl⟩
  rw [← hp0] at z0 htl0
  rw [← hp2] at z2 htl2
  rw [← hp3] at z3 htl3
  have hp0' : p0 ≤ 1300 := by omega
  have hp2' : p2 ≤ 1300 := by omega
  have hp3' : p3 ≤ 1300 := by omega
  have G0 := Lib.hid g0
  have G2 := Lib.hid g2
  have G3 := Lib.hid g3
  have HX := Lib.hid hx
  have HKR := Lib.hid hkr
  have hm0 : m0 ≤ 20 := by have := M0.out; simp at this; omega
  have hm3 : m3 ≤ 20 := by have := M3.out; simp at this; omega
  have HRL := Lib.hid hrl
  clear g0 g2 g3 hx hkr hrepl t1 t2 t3 t4 t5 t6 hlen hasc hx0 hx2 hx3 hp0 hp2 hp3 htl0 htl2 htl3 hT0 hT2 hT3 hrl hb2 hn1
  go_wp2_with fail
  refine (G0.out _).mono ?_
  rintro e v1 ⟨rfl, i1, rfl⟩
  go_wp2_with fail
  refine (G2.out _).mono ?_
  rintro e v2 ⟨rfl, i2, rfl⟩
  go_wp2_with fail
  refine (G3.out _).mono ?_
  rintro e v3 ⟨rfl, i3, rfl⟩
  go_wp2_with fail
  rw [HX.out]
  refine fileOf_any.mono ?_
  rintro e w9 ⟨rfl, rfl⟩
  have hfil := files_one (w.drewN i3) (defF l0 b1 l2 l3)
  have hbe : Below w.heap.size w ((w.drewN i3).alloc (.cells #[.string mainName, .string (mkS (defF l0 b1 l2 l3))] 51)) := (below_drewN (Below.refl _ _) _).alloc (Nat.le_refl _) _
  have Hfil := Lib.hid hfil
  have Hbe := Lib.hid hbe
  have hsz9 : ((w.drewN i3).alloc (.cells #[.string mainName, .string (mkS (defF l0 b1 l2 l3))] 51)).heap.size = w.heap.size + 1 := by simp
  have Hsz9 := Lib.hid hsz9
  clear hfil hbe hsz9
  generalize (w.drewN i3).alloc (.cells #[.string mainName, .string (mkS (defF l0 b1 l2 l3))] 51) = w9 at Hfil Hbe Hsz9 ⊢
  have hk0 : ∀ w', Below w.heap.size w w' → Kd.C Kd.string w' A0 m0 (l0.map mkS) := fun w' hb => by have := Kd.C_below R0.out hb; rwa [← M0.out] at this
  have HK0 := Lib.hid hk0
  have hm0' : m0 = (l0.map mkS).length := M0.out
  have HM0 := Lib.hid hm0'
  clear hk0 hm0'
  go_wp2_with (at_builtin; refine wpList_append_kd rfl _ _ rfl w.heap.size _ A0 m0 c0 rfl rfl 0 [] (l0.map mkS) ?d1 ?d2 ?d3 ?d4 ?d5 ?d6 ?_)
  case d1 => exact ⟨rfl, .inr ⟨w9.heap.size, 0, _, rfl, Hbe.out.size, heap_alloc_new w9 _, Nat.le_refl _, by unfold maxLen; omega, rfl, rfl⟩⟩
  case d2 => exact HK0.out _ (Hbe.out.alloc Hbe.out.size _)
  case d3 => exact HM0.out
  case d4 => exact q0
  case d5 => omega
  case d6 => have := Hbe.out.size; simp; omega
  intro v' w10 hown hgrow
  obtain ⟨a10, c10, rfl⟩ : ∃ a c, v' = .slice a m0 c := by
    obtain ⟨_, ⟨e, h0⟩ | ⟨g, cap, cur, e, _⟩⟩ := hown
    · exact ⟨none, 0, by rw [e, h0]⟩
    · exact ⟨_, cap, by simpa using e⟩
  have hb10 : Below w.heap.size w w10 := (Hbe.out.alloc Hbe.out.size _).trans ⟨hgrow.os, hgrow.tape, hgrow.output, hgrow.size, fun k hk => hgrow.block k (by have := Hbe.out.size; simp; omega) (fun e => by simp [Value.ownBlock] at e; have := Hbe.out.size; omega)⟩
  have hb9 : Below w9.heap.size w9 w10 := ((Below.refl _ _).alloc (Nat.le_refl _) _).trans ⟨hgrow.os, hgrow.tape, hgrow.output, hgrow.size, fun k hk => hgrow.block k (by simp; omega) (fun e => by simp [Value.ownBlock] at e; omega)⟩
  have hrow10 : w10.ownsRow w.heap.size 9 1 (.slice a10 m0 c10) m0 ((l0.map mkS).map Value.string) := by simpa using hown
  obtain ⟨n4, hn4⟩ : ∃ n, n = ((l3.flatMap (repW b1 l2)).map mkS).length := ⟨_, rfl⟩
  have hrep : Calls Tryz.prog 19 #[.slice A3 m3 c3, .string (mkS b1), .slice (some ad2) m2 c2] w10 fun e w' => ∃ A4 c4, e = .returned (.slice A4 n4 c4) ∧ n4 ≤ c4 ∧ Kd.C Kd.string w' A4 n4 ((l3.flatMap (repW b1 l2)).map mkS) ∧ Below w10.heap.size w10 w' := by
    have h := laws_replaced.calls kr A3 c3 (l3.map mkS) (mkS b1) (some ad2) c2 (l2.map mkS) _ w10 (Kd.C_below R3.out hb10) C3.out (Kd.C_below R2.out hb10) C2.out HKR.out
    rw [← M3.out, ← M2.out] at h
    refine h.mono ?_
    rintro e w' ⟨v0, rfl, hR, hb2⟩
    obtain ⟨A2, c2, rfl, h1, h2⟩ := Kd.R_reads hR
    exact ⟨A2, c2, by rw [hn4], by rw [hn4]; exact h1, by rw [hn4]; exact h2, hb2⟩
  have hn4b : n4 ≤ 500 := by
    rw [hn4, List.length_map]
    have := HRL.out
    have := M3.out
    simp at this
    omega
  have Hrow10 := Lib.hid hrow10
  have Hrep := Lib.hid hrep
  have Hb10 := Lib.hid hb10
  have Hb9 := Lib.hid hb9
  have Hn4 := Lib.hid hn4
  clear hown hgrow hb10 hb9 hrow10 hrep hn4
  go_wp2_with fail
  refine Hrep.out.mono ?_
  rintro e w11 ⟨A4, c4, rfl, hc4, hC4, hb11⟩
  have HC4 := Lib.hid hC4
  have Hb11 := Lib.hid hb11
  have Hrow11 : Hid (w11.ownsRow w.heap.size 9 1 (.slice a10 m0 c10) m0 ((l0.map mkS).map Value.string)) := Lib.hid (ownsRow_only Hrow10.out (fun k hk => hb11.block k (ownBlock_row Hrow10.out k hk).2.lt))
  have Hbw11 : Hid (Below w.heap.size w w11) := Lib.hid (Hb10.out.trans (hb11.mono Hb10.out.size))
  clear hC4 hb11 Hrep
  go_wp2_with (at_builtin; refine wpList_append_kd rfl _ _ rfl w.heap.size _ A4 n4 c4 rfl rfl m0 ((l0.map mkS).map Value.string) ((l3.flatMap (repW b1 l2)).map mkS) ?d1 ?d2 ?d3 ?d4 ?d5 ?d6 ?_)
  case d1 => exact Hrow11.out
  case d2 => exact HC4.out
  case d3 => exact Hn4.out
  case d4 => exact hc4
  case d5 => omega
  case d6 => exact Hbw11.out.size
  intro v' w12 hown hgrow
  obtain ⟨a12, c12, rfl⟩ : ∃ a c, v' = .slice a (m0 + n4) c := by
    obtain ⟨_, ⟨e, h0⟩ | ⟨g, cap, cur, e, _⟩⟩ := hown
    · exact ⟨none, 0, by rw [e, h0]⟩
    · exact ⟨_, cap, e⟩
  have hlen12 : ((l0 ++ l3.flatMap (repW b1 l2)).map mkS).length = m0 + n4 := by rw [List.map_append, List.length_append, ← HM0.out, ← Hn4.out]
  have hkd := kd_strs (b := w.heap.size) (l := (l0 ++ l3.flatMap (repW b1 l2)).map mkS) (a := a12) (n := m0 + n4) (c := c12) (w := w12) (by rw [hlen12, List.map_append, List.map_append]; simpa using hown)
  have hgf : (w.drewN i3).heap.size < w9.heap.size := by rw [Hsz9.out]; show w.heap.size < _; omega
  have hf10 : Files w10 (w.drewN i3).heap.size 1 [(mainBs, mkS (defF l0 b1 l2 l3))] := ownsRow_only Hfil.out (fun k hk => by cases hk; exact Hb9.out.block _ hgf)
  have hf11 : Files w11 (w.drewN i3).heap.size 1 [(mainBs, mkS (defF l0 b1 l2 l3))] := ownsRow_only hf10 (fun k hk => by cases hk; exact Hb11.out.block _ (Nat.lt_of_lt_of_le hgf Hb9.out.size))
  have ho12 := (Only.refl (fun q => (Value.slice a10 m0 c10).ownBlock = some q) w11).grown hgrow (fun k hk _ => hk)
  have hf12 : Files w12 (w.drewN i3).heap.size 1 [(mainBs, mkS (defF l0 b1 l2 l3))] := row_only hf11 ho12 (fun k e hk ht => typed_ne ht (ownBlock_row Hrow11.out k e).2 (fun T a b => by rw [a] at b; revert b; decide) rfl)
  have hb12 : Below w.heap.size w w12 := Hbw11.out.trans (ho12.below Hbw11.out.size (fun k hk e => by have := (ownBlock_row Hrow11.out k e).1; omega))
  have hgs := GS.out w12 a12 (m0 + n4) c12 hb12 (by have := hkd.2.2; rwa [hlen12] at this) hlen12.symm (by have := hkd.2.1; omega) _ hf12
  have HGS := Lib.hid hgs
  have Hb12 := Lib.hid hb12
  clear hkd hgf hf10 hf11 ho12 hf12 hb12 hgs hown hgrow hlen12
  go_wp2_with fail
  refine HGS.out.mono ?_
  rintro e w13 ⟨rfl, hb13⟩
  have Hend : Hid (LawQ w (.returned (.bool true)) w13) := Lib.hid ⟨rfl, Hb12.out.trans (hb13.mono Hb12.out.size)⟩
  clear hb13
  go_wp2
  go_ret
  exact Hend.out
end
end Go.Proofs.YtkoeeolmbhobkaaGreatDoor
