/- The law FnWrongTwice's walk: it returns true. -/
import Derived.Test.YtpoimmpdncickaaGreatDoorJ12
/- The law FnWrongTwice returns true, whatever comes in. -/
namespace Go.Proofs.YtpoimmpdncickaaGreatDoor
open Go Go.RowKit Lex Go.Proofs.YtpoimmpdncickaaGreatDoorW.PrintWords Go.Proofs.YtpoimmpdncickaaGreatDoor.PHelp
set_option linter.unusedVariables false
set_option linter.unusedSimpArgs false

section
variable {w : World} {ev : Value} {b0 : Bs} {l1 : List Bs} {A1 : Option Addr} {c1 : Nat} {l2 : List Bs} {A2 : Option Addr} {c2 : Nat}
set_option maxRecDepth 100000 in
set_option maxHeartbeats 4000000 in
theorem wrongtwice_law (hr1 : Kd.C Kd.string w A1 (l1.map mkS).length (l1.map mkS)) (hc1 : (l1.map mkS).length ≤ c1) (hr2 : Kd.C Kd.string w A2 (l2.map mkS).length (l2.map mkS)) (hc2 : (l2.map mkS).length ≤ c2) (hg : Glob w ev) (hB : 21 ≤ w.heap.size) :
    Calls Tryz.prog 9 #[.string (mkS b0), .slice A1 (l1.map mkS).length c1, .slice A2 (l2.map mkS).length c2] w (LawQ w) := by
  have Hfin := Lib.hid (lawq_drewN w)
  have Hg := Lib.hid hg
  have s0 := mkS_size b0
  obtain ⟨n0, e0⟩ : ∃ n, n = b0.length := ⟨_, rfl⟩
  rw [← e0] at s0
  have N0 := Lib.hid e0
  obtain ⟨m1, e1⟩ : ∃ m, m = (l1.map mkS).length := ⟨_, rfl⟩
  have M1 := Lib.hid e1
  have R1 := Lib.hid hr1
  have C1 := Lib.hid hc1
  have q1 : m1 ≤ c1 := by rw [e1]; exact hc1
  rw [← e1]
  obtain ⟨m2, e2⟩ : ∃ m, m = (l2.map mkS).length := ⟨_, rfl⟩
  have M2 := Lib.hid e2
  have R2 := Lib.hid hr2
  have C2 := Lib.hid hc2
  have q2 : m2 ≤ c2 := by rw [e2]; exact hc2
  rw [← e2]
  clear hg e0 e1 e2 hr1 hc1 hr2 hc2
  go_enter Tryz.func9, Tryz.ntmps9
  change Code.wp _ _ _ _ (w.drewN 0)
  rcases Nat.lt_or_ge 2147483647 n0 with hz0 | hz0
  · go_wp2
    go_ret
    exact Hfin.out _
  obtain ⟨t1, z1, y1⟩ := fits_f (ws := l1)
  have g1 := gd_fits R1.out C1.out z1
  rw [← M1.out] at g1
  have G := Lib.hid g1
  have F1 := Lib.hid y1
  clear g1 z1 y1
  go_wp2_with fail
  refine (G.out _).mono ?_
  rintro e u1 ⟨rfl, j1, rfl⟩
  clear G
  cases t1 with
  | false => go_wp2; go_ret; exact Hfin.out _
  | true =>
  obtain ⟨t2, z2, y2⟩ := fits_f (ws := l2)
  have g2 := gd_fits R2.out C2.out z2
  rw [← M2.out] at g2
  have G := Lib.hid g2
  have F2 := Lib.hid y2
  clear g2 z2 y2
  go_wp2_with fail
  refine (G.out _).mono ?_
  rintro e u2 ⟨rfl, j2, rfl⟩
  clear G
  cases t2 with
  | false => go_wp2; go_ret; exact Hfin.out _
  | true =>
  obtain ⟨t1, z1, y1⟩ := line_f (F1.out (by first | rfl | trivial)).2 (F1.out (by first | rfl | trivial)).1
  have g1 := gd_line R1.out C1.out z1
  rw [← M1.out] at g1
  have G := Lib.hid g1
  have Y := Lib.hid y1
  clear g1 z1 y1
  go_wp2_with fail
  refine (G.out _).mono ?_
  rintro e u3 ⟨rfl, j3, rfl⟩
  clear G
  cases t1 with
  | false => go_wp2; go_ret; exact Hfin.out _
  | true =>
  have W1 : Hid (∀ x ∈ l1, WordL x) := Lib.hid (fun x hx => ((Y.out (by first | rfl | trivial)).1 x hx).word)
  have T1 : Hid (l1.length ≤ 20) := Lib.hid (Y.out (by first | rfl | trivial)).2
  clear Y
  obtain ⟨t2, z2, y2⟩ := line_f (F2.out (by first | rfl | trivial)).2 (F2.out (by first | rfl | trivial)).1
  have g2 := gd_line R2.out C2.out z2
  rw [← M2.out] at g2
  have G := Lib.hid g2
  have Y := Lib.hid y2
  clear g2 z2 y2
  go_wp2_with fail
  refine (G.out _).mono ?_
  rintro e u4 ⟨rfl, j4, rfl⟩
  clear G
  cases t2 with
  | false => go_wp2; go_ret; exact Hfin.out _
  | true =>
  have W2 : Hid (∀ x ∈ l2, WordL x) := Lib.hid (fun x hx => ((Y.out (by first | rfl | trivial)).1 x hx).word)
  have T2 : Hid (l2.length ≤ 20) := Lib.hid (Y.out (by first | rfl | trivial)).2
  clear Y
  rcases Nat.eq_zero_or_pos m1 with e0 | hpos1
  · subst e0
    go_wp2
    go_ret
    exact Hfin.out _
  obtain ⟨x1, r1, e0⟩ : ∃ x r, l1 = x :: r := by
    cases hc : l1 with
    | nil => have := M1.out; rw [hc] at this; simp at this; omega
    | cons x r => exact ⟨x, r, rfl⟩
  have B1 := Lib.hid e0
  obtain ⟨ad1, hA, hcell⟩ := (Kd.reads_of_C (d := ByteArray.empty) R1.out).2.2 (by rw [← M1.out]; exact hpos1)
  subst hA
  have hc1 : w.cell? ad1 = some (.string (mkS x1)) := by
    have := hcell 0 (by rw [← M1.out]; exact hpos1)
    have e : ad1.add 0 = ad1 := by simp [Addr.add]
    rw [e, e0] at this
    exact this
  have qa1 : ((m1 : Int) == 0) = false := by simp; omega
  have qb1 : (0 : Int) < (m1 : Int) := by omega
  clear hcell e0
  rcases Nat.eq_zero_or_pos m2 with e0 | hpos2
  · subst e0
    go_wp2
    go_ret
    exact Hfin.out _
  obtain ⟨x2, r2, e0⟩ : ∃ x r, l2 = x :: r := by
    cases hc : l2 with
    | nil => have := M2.out; rw [hc] at this; simp at this; omega
    | cons x r => exact ⟨x, r, rfl⟩
  have B2 := Lib.hid e0
  obtain ⟨ad2, hA, hcell⟩ := (Kd.reads_of_C (d := ByteArray.empty) R2.out).2.2 (by rw [← M2.out]; exact hpos2)
  subst hA
  have hc2 : w.cell? ad2 = some (.string (mkS x2)) := by
    have := hcell 0 (by rw [← M2.out]; exact hpos2)
    have e : ad2.add 0 = ad2 := by simp [Addr.add]
    rw [e, e0] at this
    exact this
  have qa2 : ((m2 : Int) == 0) = false := by simp; omega
  have qb2 : (0 : Int) < (m2 : Int) := by omega
  clear hcell e0
  obtain ⟨t1, h401⟩ : ∃ r, ((mkS x1).toList == ([40] : List UInt8)) = r := ⟨_, rfl⟩
  cases t1 with
  | true => go_wp2; go_ret; exact Hfin.out _
  | false =>
  have H1 : Hid (l1.head? ≠ some [40]) := Lib.hid (fun e => by
    rw [B1.out] at e
    simp at e
    rw [e, mkS_toList] at h401
    simp at h401)
  obtain ⟨t2, h402⟩ : ∃ r, ((mkS x2).toList == ([40] : List UInt8)) = r := ⟨_, rfl⟩
  cases t2 with
  | true => go_wp2; go_ret; exact Hfin.out _
  | false =>
  have H2 : Hid (l2.head? ≠ some [40]) := Lib.hid (fun e => by
    rw [B2.out] at e
    simp at e
    rw [e, mkS_toList] at h402
    simp at h402)
  obtain ⟨t0, z0, y0⟩ := plain_f b0 (by rw [← N0.out]; exact hz0)
  have G := Lib.hid (gd_plain (w := w) z0)
  have Y := Lib.hid y0
  clear z0 y0
  go_wp2_with fail
  refine (G.out _).mono ?_
  rintro e u5 ⟨rfl, j5, rfl⟩
  clear G
  cases t0 with
  | false => go_wp2; go_ret; exact Hfin.out _
  | true =>
  have X0 : Hid (PName b0) := Lib.hid (Y.out (by first | rfl | trivial)).2
  clear Y
  rcases Nat.lt_or_ge 60 n0 with h60 | h60_0
  · go_wp2
    go_ret
    exact Hfin.out _
  have hb1 : l1 ≠ [] := by rw [B1.out]; simp
  have hb2 : l2 ≠ [] := by rw [B2.out]; simp
  have hn0 : b0.length ≤ 60 := by rw [← N0.out]; exact h60_0
  have htl1 := textB_len l1 (fun x hx => (W1.out x hx).len)
  have hT1 := T1.out
  have g1 := gd_text R1.out C1.out (text_f (by omega) (fun x hx => (W1.out x hx).len))
  rw [← M1.out] at g1
  have htl2 := textB_len l2 (fun x hx => (W2.out x hx).len)
  have hT2 := T2.out
  have g2 := gd_text R2.out C2.out (text_f (by omega) (fun x hx => (W2.out x hx).len))
  rw [← M2.out] at g2
  have hx : (⟨#[35, 100, 101, 102, 105, 110, 101, 32]⟩ ++ mkS (b0) ++ ⟨#[32]⟩ ++ mkS (textB l1) ++ ⟨#[10, 35, 100, 101, 102, 105, 110, 101, 32]⟩ ++ mkS (b0) ++ ⟨#[32]⟩ ++ mkS (textB l2) ++ ⟨#[10]⟩ : ByteArray) = mkS (twiceF b0 l1 l2) := by
    have e0 : (⟨#[35, 100, 101, 102, 105, 110, 101, 32]⟩ : ByteArray) = mkS [35, 100, 101, 102, 105, 110, 101, 32] := rfl
    have e1 : (⟨#[32]⟩ : ByteArray) = mkS [32] := rfl
    have e2 : (⟨#[10, 35, 100, 101, 102, 105, 110, 101, 32]⟩ : ByteArray) = mkS [10, 35, 100, 101, 102, 105, 110, 101, 32] := rfl
    have e3 : (⟨#[10]⟩ : ByteArray) = mkS [10] := rfl
    rw [e0, e1, e2, e3]
    simp only [mkS_app]
    congr 1
    try simp [twiceF, defB, kwDefine]
  have hlen : (twiceF b0 l1 l2).length ≤ 5000 := by
    unfold twiceF defB
    simp only [List.length_cons, List.length_append, List.length_nil]
    have : kwDefine.length = 6 := rfl
    omega
  have hasc : ascii (twiceF b0 l1 l2) := ascii_def X0.out W1.out (ascii_def X0.out W2.out (by intro b h; cases h))
  have GF : Hid (∀ k, Calls Tryz.prog 21 #[.string (mkS (twiceF b0 l1 l2))] (w.drewN k) (LawQ w)) := Lib.hid (fun k => by
    refine (fails_true (w := w.drewN k) (text := twiceF b0 l1 l2) (twice_told _ X0.out hn0 W1.out W2.out hb1 hb2 H1.out H2.out hT1 hT2) hasc (by omega) (Hg.out.only (Only.ofBelow (below_drewN (Below.refl w.heap.size w) k)) (fun k hk e => by omega)) hB).mono ?_
    rintro e w' ⟨rfl, hb⟩
    exact ⟨rfl, (below_drewN (Below.refl _ _) k).trans hb⟩)
  obtain ⟨x1', hx1⟩ : ∃ x, x = mkS (textB l1) := ⟨_, rfl⟩
  have z1 : x1'.size = (textB l1).length := by rw [hx1, mkS_size]
  rw [← hx1] at g1 hx
  obtain ⟨p1, hp1⟩ : ∃ p, p = (textB l1).length := ⟨_, rfl⟩
  rw [← hp1] at z1 htl1
  have hp1' : p1 ≤ 1300 := by omega
  have G1 := Lib.hid g1
  obtain ⟨x2', hx2⟩ : ∃ x, x = mkS (textB l2) := ⟨_, rfl⟩
  have z2 : x2'.size = (textB l2).length := by rw [hx2, mkS_size]
  rw [← hx2] at g2 hx
  obtain ⟨p2, hp2⟩ : ∃ p, p = (textB l2).length := ⟨_, rfl⟩
  rw [← hp2] at z2 htl2
  have hp2' : p2 ≤ 1300 := by omega
  have G2 := Lib.hid g2
  have HX := Lib.hid hx
  clear g1 g2 hx hlen hasc hx1 hx2 hp1 hp2 htl1 htl2 hT1 hT2 hb1 hb2 hn0
  go_wp2_with fail
  refine (G1.out _).mono ?_
  rintro e v1 ⟨rfl, i1', rfl⟩
  go_wp2_with fail
  refine (G2.out _).mono ?_
  rintro e v2 ⟨rfl, i2', rfl⟩
  go_wp2_with fail
  rw [HX.out]
  refine (GF.out _).mono ?_
  rintro e w9 ⟨rfl, hb9⟩
  have Hend : Hid (LawQ w (.returned (.bool true)) w9) := Lib.hid ⟨rfl, hb9⟩
  clear hb9
  go_wp2
  go_ret
  exact Hend.out
end
end Go.Proofs.YtpoimmpdncickaaGreatDoor
