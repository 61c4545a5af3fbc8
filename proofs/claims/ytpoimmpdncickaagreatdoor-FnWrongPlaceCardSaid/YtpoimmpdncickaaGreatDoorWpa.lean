/- The law FnWrongPlace's walk: it returns true. -/
import Derived.Test.YtpoimmpdncickaaGreatDoorJ12
/- The law FnWrongPlace returns true, whatever comes in. -/
namespace Go.Proofs.YtpoimmpdncickaaGreatDoor
open Go Go.RowKit Lex Go.Proofs.YtpoimmpdncickaaGreatDoorW.PrintWords Go.Proofs.YtpoimmpdncickaaGreatDoor.PHelp
set_option linter.unusedVariables false
set_option linter.unusedSimpArgs false

section
variable {w : World} {ev : Value} {l0 : List Bs} {A0 : Option Addr} {c0 : Nat}
set_option maxRecDepth 100000 in
set_option maxHeartbeats 4000000 in
theorem wrongplace_law (hr0 : Kd.C Kd.string w A0 (l0.map mkS).length (l0.map mkS)) (hc0 : (l0.map mkS).length ≤ c0) (hg : Glob w ev) (hB : 21 ≤ w.heap.size) :
    Calls Tryz.prog 8 #[.slice A0 (l0.map mkS).length c0] w (LawQ w) := by
  have Hfin := Lib.hid (lawq_drewN w)
  have Hg := Lib.hid hg
  obtain ⟨m0, e0⟩ : ∃ m, m = (l0.map mkS).length := ⟨_, rfl⟩
  have M0 := Lib.hid e0
  have R0 := Lib.hid hr0
  have C0 := Lib.hid hc0
  have q0 : m0 ≤ c0 := by rw [e0]; exact hc0
  rw [← e0]
  clear hg e0 hr0 hc0
  go_enter Tryz.func8, Tryz.ntmps8
  change Code.wp _ _ _ _ (w.drewN 0)
  obtain ⟨t0, z0, y0⟩ := fits_f (ws := l0)
  have g0 := gd_fits R0.out C0.out z0
  rw [← M0.out] at g0
  have G := Lib.hid g0
  have F0 := Lib.hid y0
  clear g0 z0 y0
  go_wp2_with fail
  refine (G.out _).mono ?_
  rintro e u1 ⟨rfl, j1, rfl⟩
  clear G
  cases t0 with
  | false => go_wp2; go_ret; exact Hfin.out _
  | true =>
  obtain ⟨t0, z0, y0⟩ := line_f (F0.out (by first | rfl | trivial)).2 (F0.out (by first | rfl | trivial)).1
  have g0 := gd_line R0.out C0.out z0
  rw [← M0.out] at g0
  have G := Lib.hid g0
  have Y := Lib.hid y0
  clear g0 z0 y0
  go_wp2_with fail
  refine (G.out _).mono ?_
  rintro e u2 ⟨rfl, j2, rfl⟩
  clear G
  cases t0 with
  | false => go_wp2; go_ret; exact Hfin.out _
  | true =>
  have W0 : Hid (∀ x ∈ l0, WordL x) := Lib.hid (fun x hx => ((Y.out (by first | rfl | trivial)).1 x hx).word)
  have T0 : Hid (l0.length ≤ 20) := Lib.hid (Y.out (by first | rfl | trivial)).2
  clear Y
  rcases Nat.eq_zero_or_pos m0 with e0 | hpos0
  · subst e0
    go_wp2
    go_ret
    exact Hfin.out _
  obtain ⟨x0, r0, e0⟩ : ∃ x r, l0 = x :: r := by
    cases hc : l0 with
    | nil => have := M0.out; rw [hc] at this; simp at this; omega
    | cons x r => exact ⟨x, r, rfl⟩
  have B0 := Lib.hid e0
  obtain ⟨ad0, hA, hcell⟩ := (Kd.reads_of_C (d := ByteArray.empty) R0.out).2.2 (by rw [← M0.out]; exact hpos0)
  subst hA
  have hc0 : w.cell? ad0 = some (.string (mkS x0)) := by
    have := hcell 0 (by rw [← M0.out]; exact hpos0)
    have e : ad0.add 0 = ad0 := by simp [Addr.add]
    rw [e, e0] at this
    exact this
  have qa0 : ((m0 : Int) == 0) = false := by simp; omega
  have qb0 : (0 : Int) < (m0 : Int) := by omega
  clear hcell e0
  have hb0 : l0 ≠ [] := by rw [B0.out]; simp
  have htl0 := textB_len l0 (fun x hx => (W0.out x hx).len)
  have hT0 := T0.out
  have g0 := gd_text R0.out C0.out (text_f (by omega) (fun x hx => (W0.out x hx).len))
  rw [← M0.out] at g0
  have hx : (mkS (textB l0) ++ ⟨#[35, 100, 101, 102, 105, 110, 101, 32, 95, 120, 32, 49, 10]⟩ : ByteArray) = mkS (placeF l0) := by
    have e0 : (⟨#[35, 100, 101, 102, 105, 110, 101, 32, 95, 120, 32, 49, 10]⟩ : ByteArray) = mkS [35, 100, 101, 102, 105, 110, 101, 32, 95, 120, 32, 49, 10] := rfl
    rw [e0]
    simp only [mkS_app]
    congr 1
    try simp [placeF, kwDefine]
  have hlen : (placeF l0).length ≤ 5000 := by
    unfold placeF
    simp only [List.length_cons, List.length_append, List.length_nil]
    have : kwDefine.length = 6 := rfl
    omega
  have hasc : ascii (placeF l0) := ascii_app (ascii_text W0.out) (by unfold ascii; decide)
  have GF : Hid (∀ k, Calls Tryz.prog 21 #[.string (mkS (placeF l0))] (w.drewN k) (LawQ w)) := Lib.hid (fun k => by
    refine (fails_true (w := w.drewN k) (text := placeF l0) (place_told _ W0.out hb0 hT0) hasc (by omega) (Hg.out.only (Only.ofBelow (below_drewN (Below.refl w.heap.size w) k)) (fun k hk e => by omega)) hB).mono ?_
    rintro e w' ⟨rfl, hb⟩
    exact ⟨rfl, (below_drewN (Below.refl _ _) k).trans hb⟩)
  obtain ⟨x0', hx0⟩ : ∃ x, x = mkS (textB l0) := ⟨_, rfl⟩
  have z0 : x0'.size = (textB l0).length := by rw [hx0, mkS_size]
  rw [← hx0] at g0 hx
  obtain ⟨p0, hp0⟩ : ∃ p, p = (textB l0).length := ⟨_, rfl⟩
  rw [← hp0] at z0 htl0
  have hp0' : p0 ≤ 1300 := by omega
  have G0 := Lib.hid g0
  have HX := Lib.hid hx
  clear g0 hx hlen hasc hx0 hp0 htl0 hT0 hb0
  go_wp2_with fail
  refine (G0.out _).mono ?_
  rintro e v0 ⟨rfl, i0', rfl⟩
  go_wp2_with fail
  rw [HX.out]
  refine (GF.out _).mono ?_
  rintro e w9 ⟨rfl, hb9⟩
  have Hend : Hid (LawQ w (.returned (.bool true)) w9) := Lib.hid ⟨rfl, hb9⟩
  clear hb9
  go_wp2
  go_ret
  exact Hend.out
end
end Go.Proofs.YtpoimmpdncickaaGreatDoor
