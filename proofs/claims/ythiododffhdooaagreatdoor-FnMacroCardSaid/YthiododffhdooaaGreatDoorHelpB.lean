/- The statements' helpers: files and tokens (by the kit's print, cut out by gen_help.py). -/
import Derived.Test.YthiododffhdooaaGreatDoorHelpA
namespace Go.Proofs.YthiododffhdooaaGreatDoor.PHelp
open Go.RowKit Go.Proofs.YthiododffhdooaaGreatDoorW.PrintWords Go.Proofs.YthiododffhdooaaGreatDoorW.PrintLast Go.Proofs.YthiododffhdooaaGreatDoorW.PrintMore
attribute [local go_sem] max2_int min2_int max_two min_two max_three min_three max_four min_four   -- for this text's walks alone
set_option linter.unusedVariables false
set_option linter.unusedSimpArgs false

attribute [local go_sem high] eqA56
/-! ### laws_fileOf: function 10 -/
def laws_fileOf.f (a0 : ByteArray) : Option ((List (S36))) := some (([(⟨(⟨#[109, 97, 105, 110, 46, 115]⟩ : ByteArray), a0⟩ : S36)] : List (S36)))
set_option maxHeartbeats 8000000 in
set_option maxRecDepth 100000 in
theorem laws_fileOf.calls (a0 : ByteArray) (r : List (S36)) (w : World) (h : laws_fileOf.f a0 = some r) :
    Calls Tryz.prog 10 #[.string a0] w fun e w' => ∃ v0_ : Value, e = .returned (v0_) ∧ Kd.R k36 36 w' w.heap.size (fun _ => True) v0_ r ∧ Below w.heap.size w w' := by
  have hu36 := Tryz.underlying36
  have HB := Aside0.mk (Below.refl w.heap.size w)
  have H : (some (([(⟨(⟨#[109, 97, 105, 110, 46, 115]⟩ : ByteArray), a0⟩ : S36)] : List (S36)))) = some r := h
  clear h
  obtain ⟨y270, hy270⟩ : ∃ y_ : List (S36), y_ = (([(⟨(⟨#[109, 97, 105, 110, 46, 115]⟩ : ByteArray), a0⟩ : S36)] : List (S36))) := ⟨_, rfl⟩
  replace H : (some y270) = some r := by first | (rw [hy270]; with_reducible exact H) | (have H2_ := (Option.bind_some _ _).symm.trans H; rw [hy270]; with_reducible exact H2_) | (have H2_ := (Option.bind_some _ _).symm.trans H; with_reducible exact H2_) | with_reducible exact H | (rw [hy270]; exact H) | exact H
  have Ny270 := Aside0.mk hy270
  clear hy270
  obtain rfl := Option.some.inj H
  go_enter Tryz.func10, Tryz.ntmps10
  go_wp2_with (first | ((with_reducible refine gate_dst (N := 5) rfl ?_); refine Kd.R_lit k36 _ 36 ?hg (N := 5) ?hd (xs := ([(⟨(⟨#[109, 97, 105, 110, 46, 115]⟩ : ByteArray), a0⟩ : S36)] : List (S36))) (inner := [.string (⟨#[109, 97, 105, 110, 46, 115]⟩ : ByteArray), .string a0]) (ok := fun _ => True) (okp := fun _ => True) ?hr ?hp (fun _ hk => hk) trivial (Below.refl _ _) (Nat.le_refl _) (by simp) ?_; (case hd => rfl); (case hg => rfl); (case hr => first | (go_simp; done) | (go_simp; rfl)); (case hp => exact (Reps.c2 (show Kd.M k36 _ _ _ (⟨(⟨#[109, 97, 105, 110, 46, 115]⟩ : ByteArray), a0⟩ : S36) [.string (⟨#[109, 97, 105, 110, 46, 115]⟩ : ByteArray), .string a0] from (k36_mkM _ _ _ (⟨(⟨#[109, 97, 105, 110, 46, 115]⟩ : ByteArray), a0⟩ : S36) )) (Reps.none _ _))); intro v271 w2 ho3 hb hg_ hnew_; clear hg_ hnew_; (first | rw [← Ny270.out] at ho3 | (simp only [Int.reduceToNat] at ho3; rw [← Ny270.out] at ho3)); have n0_ := Aside0.mk (Kd.R_lower ho3 (below_size (by repeat (first | (with_reducible first | exact HB.out | apply below_alloc | apply pw_below_drewN | apply below_drew1) | exact HB.out)))); have n1_ := Aside0.mk (below_step (by repeat (first | (with_reducible first | exact HB.out | apply below_alloc | apply pw_below_drewN | apply below_drew1) | exact HB.out)) hb); clear HB; have HO272 := n0_; have HB := n1_; clear n0_ n1_; clear hb ho3))
  go_ret
  exact ⟨_, by first | rfl | (simp [errW_none, errW_some] <;> rfl) | (simp [*, errW_none, errW_some] <;> rfl), by (with_reducible repeat (first | apply Kd.R_alloc | apply Kd.R_drewN | apply Kd.R_drew)); exact HO272.out, by repeat (first | (with_reducible first | exact HB.out | apply below_alloc | apply pw_below_drewN | apply below_drew1) | exact HB.out)⟩

/-! ### spec_SameTokens: function 11 -/
def spec_SameTokens.l0 : Nat → List (S56) → List (S56) → Int → Int → Option (Bool)
  | 0, _, _, _, _ => none
  | k + 1, x1, x12, x13, x14 => if x14 < x13 then (if 0 ≤ x14 then (if x14 < (x12.length : Int) then (if x14 < (x1.length : Int) then (if (!(((rd_T56 x12 x14).f0) == ((rd_T56 x1 x14).f0)) || (!((((rd_T56 x12 x14).f1).toList) == (((rd_T56 x1 x14).f1).toList)))) = true then (some false) else (spec_SameTokens.l0 k x1 x12 x13 (wrap64 (x14 + 1)))) else (none)) else (none)) else (none)) else (some true)
def spec_SameTokens.f (k : Nat) (l0 : List (S56)) (l1 : List (S56)) : Option (Bool) := if (l0.length : Int) = (l1.length : Int) then (spec_SameTokens.l0 k l1 l0 (l0.length : Int) 0) else (some false)
theorem spec_SameTokens.mono_l : ∀ k, (∀ y0 y1 y2 y3, LeO (spec_SameTokens.l0 k y0 y1 y2 y3) (spec_SameTokens.l0 (k + 1) y0 y1 y2 y3))
  | 0 => fun _ _ _ _ r h => by simp [spec_SameTokens.l0] at h
  | k + 1 => by
    have ih0 := spec_SameTokens.mono_l k
    · intro y0 y1 y2 y3
      unfold spec_SameTokens.l0
      repeat' first
      | (with_reducible exact ih0 _ _ _ _)
      | (with_reducible exact LeO.refl _)
      | (with_reducible exact LeO.none _)
      | (with_reducible refine LeO.ite ?_ ?_)
      | (with_reducible refine LeO.bind ?_ (fun _ => ?_))
      | exact ih0 _ _ _ _
      | exact LeO.none _
      | refine LeO.ite ?_ ?_
      | refine LeO.bind ?_ (fun _ => ?_)
theorem spec_SameTokens.mono : ∀ a0 a1 k, LeO (spec_SameTokens.f k a0 a1) (spec_SameTokens.f (k + 1) a0 a1) := by
  intro a0 a1 k
  have ih0 := spec_SameTokens.mono_l k
  unfold spec_SameTokens.f
  repeat' first
      | (with_reducible exact ih0 _ _ _ _)
      | (with_reducible exact LeO.refl _)
      | (with_reducible exact LeO.none _)
      | (with_reducible refine LeO.ite ?_ ?_)
      | (with_reducible refine LeO.bind ?_ (fun _ => ?_))
      | exact ih0 _ _ _ _
      | exact LeO.none _
      | refine LeO.ite ?_ ?_
      | refine LeO.bind ?_ (fun _ => ?_)
set_option maxHeartbeats 8000000 in
set_option maxRecDepth 100000 in
theorem spec_SameTokens.calls (k : Nat) (A0 : Option Addr) (c0 : Nat) (l0 : List (S56)) (A1 : Option Addr) (c1 : Nat) (l1 : List (S56)) (r : Bool) (w : World) (hr0 : Kd.C k56 w A0 l0.length l0) (hc0 : l0.length ≤ c0) (hr1 : Kd.C k56 w A1 l1.length l1) (hc1 : l1.length ≤ c1) (h : spec_SameTokens.f k l0 l1 = some r) :
    Calls Tryz.prog 11 #[.slice A0 l0.length c0, .slice A1 l1.length c1] w fun e w' => e = .returned (.bool r) ∧ Below w.heap.size w w' := by
  have hu56 := Tryz.underlying56
  have HR0 := Aside0.mk hr0
  have HC0 := Aside0.mk hc0
  clear hr0 hc0
  have HR1 := Aside0.mk hr1
  have HC1 := Aside0.mk hc1
  clear hr1 hc1
  have HB := Aside0.mk (Below.refl w.heap.size w)
  have H : (if (l0.length : Int) = (l1.length : Int) then (spec_SameTokens.l0 k l1 l0 (l0.length : Int) 0) else (some false)) = some r := h
  clear h
  by_cases c3 : (l0.length : Int) = (l1.length : Int)
  · rw [if_pos c3] at H
    have c3b0 : ((l0.length : Int) == (l1.length : Int)) = true := beq_iff_eq.mpr c3
    have c3b1 : ((l0.length : Int) != (l1.length : Int)) = false := bne_eq_false_iff_eq.mpr c3
    have c3b2 : (l0.length == l1.length) = true := by first | simpa using c3 | (simp at c3 ⊢; omega)
    clear c3
    have H' := Aside0.mk H
    clear H
    go_enter Tryz.func11, Tryz.ntmps11
    go_wp2
    repeat (go_quiet (fail); try go_wp2)
    go_loopg [14] k (fun kq v14 w' => ∃ (x14_1 : Int), v14 = .int .i64 x14_1 ∧ Aside0 (spec_SameTokens.l0 kq l1 l0 (l0.length : Int) x14_1 = some r) ∧ Aside0 (kq ≤ k) ∧ Aside0 (Below w.heap.size w w'))
    case atStart => exact ⟨(0), (by first | rfl | (simp; done) | (simp [*]; done)), H', ⟨Nat.le_refl _⟩, ⟨by repeat (first | (with_reducible first | exact HB.out | apply below_alloc | apply pw_below_drewN | apply below_drew1) | exact HB.out)⟩⟩
    case round =>
      clear H'
      try clear c1
      try clear p2
      try clear c3
      try clear c3b0
      try clear c3b1
      try clear c3b2
      obtain ⟨x14_1, rfl, HA, HK1, HB⟩ := hrel
      cases gk with
      | zero => exact absurd HA.out (by simp [spec_SameTokens.l0])
      | succ k1 =>
        have H := HA.out
        clear HA
        simp only [spec_SameTokens.l0] at H
        by_cases c4 : x14_1 < (l0.length : Int)
        · rw [if_pos c4] at H
          have c4b0 : decide (x14_1 < (l0.length : Int)) = true := decide_eq_true c4
          clear c4
          by_cases c5 : 0 ≤ x14_1
          · rw [if_pos c5] at H
            have c5b0 : decide (0 ≤ x14_1) = true := decide_eq_true c5
            clear c5
            by_cases c6 : x14_1 < (l0.length : Int)
            · rw [if_pos c6] at H
              have c6b0 : decide (x14_1 < (l0.length : Int)) = true := decide_eq_true c6
              clear c6
              by_cases c7 : x14_1 < (l1.length : Int)
              · rw [if_pos c7] at H
                have c7b0 : decide (x14_1 < (l1.length : Int)) = true := decide_eq_true c7
                clear c7
                by_cases c8 : (!(((rd_T56 l0 x14_1).f0) == ((rd_T56 l1 x14_1).f0)) || (!((((rd_T56 l0 x14_1).f1).toList) == (((rd_T56 l1 x14_1).f1).toList)))) = true
                · rw [if_pos c8] at H
                  have c8b0 : (!(((rd_T56 l0 x14_1).f0) == ((rd_T56 l1 x14_1).f0)) || (!((((rd_T56 l0 x14_1).f1).toList) == (((rd_T56 l1 x14_1).f1).toList)))) = true := c8
                  clear c8
                  obtain rfl := Option.some.inj H
                  have p273 : 0 ≤ (x14_1 : Int) := of_decide_eq_true (by first | (with_reducible assumption) | assumption)
                  have q273 : x14_1 < (l0.length : Int) := of_decide_eq_true (by first | (with_reducible assumption) | assumption)
                  obtain ⟨ad273, e273, hx273_0, hx273_1⟩ := at_T56 HR0.out x14_1 p273 q273
                  cases e273
                  replace hx273_0 := (HB.out.cell (World.block_lt_of_cell? w _ hx273_0)).trans hx273_0
                  replace hx273_1 := (HB.out.cell (World.block_lt_of_cell? w _ hx273_1)).trans hx273_1
                  replace p273 := eq_true p273
                  replace q273 := eq_true q273
                  go_wp2_with (first | ((with_reducible refine gate_dst (N := 6) rfl ?_); refine box_event ?hg (N := 6) ?hd (cs := #[.int .i64 0, .string (⟨#[]⟩ : ByteArray)]) (t := 56) ?hr ?_; (case hd => rfl); (case hg => rfl); (case hr => first | (go_simp; done) | (go_simp; rfl)); intro gb274 hg w9 hbox hb; have n0_ := Aside0.mk (below_step (by repeat (first | (with_reducible first | exact HB.out | apply below_alloc | apply pw_below_drewN | apply below_drew1) | exact HB.out)) hb); have n1_ := Aside0.mk (hbox); have n2_ := Aside0.mk ((by rw [hg]; exact (below_size (by repeat (first | (with_reducible first | exact HB.out | apply below_alloc | apply pw_below_drewN | apply below_drew1) | exact HB.out))) : w.heap.size ≤ gb274)); have n3_ := Aside0.mk ((by rw [hg]; exact (below_size (by repeat (first | (with_reducible first | exact HB.out | apply below_alloc | apply pw_below_drewN | apply below_drew1) | exact HB.out))) : w.heap.size ≤ gb274)); clear HB; have HB := n0_; have BK274 := n1_; have GW274 := n2_; have GE274 := n3_; clear n0_ n1_ n2_ n3_; clear hb hbox hg; have hcz10_0 : w9.cell? ⟨gb274, 0, none⟩ = some (.int .i64 0) := (blk_cell BK274.out 0).trans rfl; have hcz10_1 : w9.cell? ⟨gb274, 1, none⟩ = some (.string (⟨#[]⟩ : ByteArray)) := (blk_cell BK274.out 1).trans rfl; have hfz10_0 := blk_frozen BK274.out 0; have hfz10_1 := blk_frozen BK274.out 1; have p275 : 0 ≤ (x14_1 : Int) := of_decide_eq_true (by first | (with_reducible assumption) | assumption); have q275 : x14_1 < (l1.length : Int) := of_decide_eq_true (by first | (with_reducible assumption) | assumption); obtain ⟨ad275, e275, hx275_0, hx275_1⟩ := at_T56 HR1.out x14_1 p275 q275; cases e275; have hn275_0 : ad275.block ≠ gb274 := Nat.ne_of_lt (Nat.lt_of_lt_of_le (by have := World.block_lt_of_cell? _ _ hx275_0; first | rwa [add_block] at this | exact this) GW274.out); have hn275_1 : ad275.block ≠ gb274 := Nat.ne_of_lt (Nat.lt_of_lt_of_le (by have := World.block_lt_of_cell? _ _ hx275_0; first | rwa [add_block] at this | exact this) GW274.out); replace hx275_0 := (HB.out.cell (World.block_lt_of_cell? w _ hx275_0)).trans hx275_0; replace hx275_1 := (HB.out.cell (World.block_lt_of_cell? w _ hx275_1)).trans hx275_1; replace hx275_0 := (cell_far (p := ⟨gb274, 0, none⟩) (by first | (rw [add_block]; exact hn275_0) | (show (Addr.add _ _).block ≠ _; rw [add_block]; exact hn275_0) | exact hn275_0) (.int .i64 ((rd_T56 l0 x14_1).f0))).trans hx275_0; replace hx275_1 := (cell_far (p := ⟨gb274, 0, none⟩) (by first | (rw [add_block]; exact hn275_0) | (show (Addr.add _ _).block ≠ _; rw [add_block]; exact hn275_0) | exact hn275_0) (.int .i64 ((rd_T56 l0 x14_1).f0))).trans hx275_1; replace hx275_0 := (cell_far (p := ⟨gb274, 1, none⟩) (by first | (rw [add_block]; exact hn275_1) | (show (Addr.add _ _).block ≠ _; rw [add_block]; exact hn275_1) | exact hn275_1) (.string ((rd_T56 l0 x14_1).f1))).trans hx275_0; replace hx275_1 := (cell_far (p := ⟨gb274, 1, none⟩) (by first | (rw [add_block]; exact hn275_1) | (show (Addr.add _ _).block ≠ _; rw [add_block]; exact hn275_1) | exact hn275_1) (.string ((rd_T56 l0 x14_1).f1))).trans hx275_1; (try have hy275_0 := fun (n_ : Nat) => (show ((((w9.drewN n_).setCell ⟨gb274, 0, none⟩ (.int .i64 ((rd_T56 l0 x14_1).f0))).setCell ⟨gb274, 1, none⟩ (.string ((rd_T56 l0 x14_1).f1)))).cell? _ = some _ from hx275_0)); (try have hy275_1 := fun (n_ : Nat) => (show ((((w9.drewN n_).setCell ⟨gb274, 0, none⟩ (.int .i64 ((rd_T56 l0 x14_1).f0))).setCell ⟨gb274, 1, none⟩ (.string ((rd_T56 l0 x14_1).f1)))).cell? _ = some _ from hx275_1)); clear hn275_0; clear hn275_1; replace p275 := eq_true p275; replace q275 := eq_true q275))
                  repeat (go_quiet (first | ((with_reducible refine gate_dst (N := 6) rfl ?_); refine box_event ?hg (N := 6) ?hd (cs := #[.int .i64 0, .string (⟨#[]⟩ : ByteArray)]) (t := 56) ?hr ?_; (case hd => rfl); (case hg => rfl); (case hr => first | (go_simp; done) | (go_simp; rfl)); intro gb274 hg w9 hbox hb; have n0_ := Aside0.mk (below_step (by repeat (first | (with_reducible first | exact HB.out | apply below_alloc | apply pw_below_drewN | apply below_drew1) | exact HB.out)) hb); have n1_ := Aside0.mk (hbox); have n2_ := Aside0.mk ((by rw [hg]; exact (below_size (by repeat (first | (with_reducible first | exact HB.out | apply below_alloc | apply pw_below_drewN | apply below_drew1) | exact HB.out))) : w.heap.size ≤ gb274)); have n3_ := Aside0.mk ((by rw [hg]; exact (below_size (by repeat (first | (with_reducible first | exact HB.out | apply below_alloc | apply pw_below_drewN | apply below_drew1) | exact HB.out))) : w.heap.size ≤ gb274)); clear HB; have HB := n0_; have BK274 := n1_; have GW274 := n2_; have GE274 := n3_; clear n0_ n1_ n2_ n3_; clear hb hbox hg; have hcz10_0 : w9.cell? ⟨gb274, 0, none⟩ = some (.int .i64 0) := (blk_cell BK274.out 0).trans rfl; have hcz10_1 : w9.cell? ⟨gb274, 1, none⟩ = some (.string (⟨#[]⟩ : ByteArray)) := (blk_cell BK274.out 1).trans rfl; have hfz10_0 := blk_frozen BK274.out 0; have hfz10_1 := blk_frozen BK274.out 1; have p275 : 0 ≤ (x14_1 : Int) := of_decide_eq_true (by first | (with_reducible assumption) | assumption); have q275 : x14_1 < (l1.length : Int) := of_decide_eq_true (by first | (with_reducible assumption) | assumption); obtain ⟨ad275, e275, hx275_0, hx275_1⟩ := at_T56 HR1.out x14_1 p275 q275; cases e275; have hn275_0 : ad275.block ≠ gb274 := Nat.ne_of_lt (Nat.lt_of_lt_of_le (by have := World.block_lt_of_cell? _ _ hx275_0; first | rwa [add_block] at this | exact this) GW274.out); have hn275_1 : ad275.block ≠ gb274 := Nat.ne_of_lt (Nat.lt_of_lt_of_le (by have := World.block_lt_of_cell? _ _ hx275_0; first | rwa [add_block] at this | exact this) GW274.out); replace hx275_0 := (HB.out.cell (World.block_lt_of_cell? w _ hx275_0)).trans hx275_0; replace hx275_1 := (HB.out.cell (World.block_lt_of_cell? w _ hx275_1)).trans hx275_1; replace hx275_0 := (cell_far (p := ⟨gb274, 0, none⟩) (by first | (rw [add_block]; exact hn275_0) | (show (Addr.add _ _).block ≠ _; rw [add_block]; exact hn275_0) | exact hn275_0) (.int .i64 ((rd_T56 l0 x14_1).f0))).trans hx275_0; replace hx275_1 := (cell_far (p := ⟨gb274, 0, none⟩) (by first | (rw [add_block]; exact hn275_0) | (show (Addr.add _ _).block ≠ _; rw [add_block]; exact hn275_0) | exact hn275_0) (.int .i64 ((rd_T56 l0 x14_1).f0))).trans hx275_1; replace hx275_0 := (cell_far (p := ⟨gb274, 1, none⟩) (by first | (rw [add_block]; exact hn275_1) | (show (Addr.add _ _).block ≠ _; rw [add_block]; exact hn275_1) | exact hn275_1) (.string ((rd_T56 l0 x14_1).f1))).trans hx275_0; replace hx275_1 := (cell_far (p := ⟨gb274, 1, none⟩) (by first | (rw [add_block]; exact hn275_1) | (show (Addr.add _ _).block ≠ _; rw [add_block]; exact hn275_1) | exact hn275_1) (.string ((rd_T56 l0 x14_1).f1))).trans hx275_1; (try have hy275_0 := fun (n_ : Nat) => (show ((((w9.drewN n_).setCell ⟨gb274, 0, none⟩ (.int .i64 ((rd_T56 l0 x14_1).f0))).setCell ⟨gb274, 1, none⟩ (.string ((rd_T56 l0 x14_1).f1)))).cell? _ = some _ from hx275_0)); (try have hy275_1 := fun (n_ : Nat) => (show ((((w9.drewN n_).setCell ⟨gb274, 0, none⟩ (.int .i64 ((rd_T56 l0 x14_1).f0))).setCell ⟨gb274, 1, none⟩ (.string ((rd_T56 l0 x14_1).f1)))).cell? _ = some _ from hx275_1)); clear hn275_0; clear hn275_1; replace p275 := eq_true p275; replace q275 := eq_true q275)); try go_wp2_with (first | ((with_reducible refine gate_dst (N := 6) rfl ?_); refine box_event ?hg (N := 6) ?hd (cs := #[.int .i64 0, .string (⟨#[]⟩ : ByteArray)]) (t := 56) ?hr ?_; (case hd => rfl); (case hg => rfl); (case hr => first | (go_simp; done) | (go_simp; rfl)); intro gb274 hg w9 hbox hb; have n0_ := Aside0.mk (below_step (by repeat (first | (with_reducible first | exact HB.out | apply below_alloc | apply pw_below_drewN | apply below_drew1) | exact HB.out)) hb); have n1_ := Aside0.mk (hbox); have n2_ := Aside0.mk ((by rw [hg]; exact (below_size (by repeat (first | (with_reducible first | exact HB.out | apply below_alloc | apply pw_below_drewN | apply below_drew1) | exact HB.out))) : w.heap.size ≤ gb274)); have n3_ := Aside0.mk ((by rw [hg]; exact (below_size (by repeat (first | (with_reducible first | exact HB.out | apply below_alloc | apply pw_below_drewN | apply below_drew1) | exact HB.out))) : w.heap.size ≤ gb274)); clear HB; have HB := n0_; have BK274 := n1_; have GW274 := n2_; have GE274 := n3_; clear n0_ n1_ n2_ n3_; clear hb hbox hg; have hcz10_0 : w9.cell? ⟨gb274, 0, none⟩ = some (.int .i64 0) := (blk_cell BK274.out 0).trans rfl; have hcz10_1 : w9.cell? ⟨gb274, 1, none⟩ = some (.string (⟨#[]⟩ : ByteArray)) := (blk_cell BK274.out 1).trans rfl; have hfz10_0 := blk_frozen BK274.out 0; have hfz10_1 := blk_frozen BK274.out 1; have p275 : 0 ≤ (x14_1 : Int) := of_decide_eq_true (by first | (with_reducible assumption) | assumption); have q275 : x14_1 < (l1.length : Int) := of_decide_eq_true (by first | (with_reducible assumption) | assumption); obtain ⟨ad275, e275, hx275_0, hx275_1⟩ := at_T56 HR1.out x14_1 p275 q275; cases e275; have hn275_0 : ad275.block ≠ gb274 := Nat.ne_of_lt (Nat.lt_of_lt_of_le (by have := World.block_lt_of_cell? _ _ hx275_0; first | rwa [add_block] at this | exact this) GW274.out); have hn275_1 : ad275.block ≠ gb274 := Nat.ne_of_lt (Nat.lt_of_lt_of_le (by have := World.block_lt_of_cell? _ _ hx275_0; first | rwa [add_block] at this | exact this) GW274.out); replace hx275_0 := (HB.out.cell (World.block_lt_of_cell? w _ hx275_0)).trans hx275_0; replace hx275_1 := (HB.out.cell (World.block_lt_of_cell? w _ hx275_1)).trans hx275_1; replace hx275_0 := (cell_far (p := ⟨gb274, 0, none⟩) (by first | (rw [add_block]; exact hn275_0) | (show (Addr.add _ _).block ≠ _; rw [add_block]; exact hn275_0) | exact hn275_0) (.int .i64 ((rd_T56 l0 x14_1).f0))).trans hx275_0; replace hx275_1 := (cell_far (p := ⟨gb274, 0, none⟩) (by first | (rw [add_block]; exact hn275_0) | (show (Addr.add _ _).block ≠ _; rw [add_block]; exact hn275_0) | exact hn275_0) (.int .i64 ((rd_T56 l0 x14_1).f0))).trans hx275_1; replace hx275_0 := (cell_far (p := ⟨gb274, 1, none⟩) (by first | (rw [add_block]; exact hn275_1) | (show (Addr.add _ _).block ≠ _; rw [add_block]; exact hn275_1) | exact hn275_1) (.string ((rd_T56 l0 x14_1).f1))).trans hx275_0; replace hx275_1 := (cell_far (p := ⟨gb274, 1, none⟩) (by first | (rw [add_block]; exact hn275_1) | (show (Addr.add _ _).block ≠ _; rw [add_block]; exact hn275_1) | exact hn275_1) (.string ((rd_T56 l0 x14_1).f1))).trans hx275_1; (try have hy275_0 := fun (n_ : Nat) => (show ((((w9.drewN n_).setCell ⟨gb274, 0, none⟩ (.int .i64 ((rd_T56 l0 x14_1).f0))).setCell ⟨gb274, 1, none⟩ (.string ((rd_T56 l0 x14_1).f1)))).cell? _ = some _ from hx275_0)); (try have hy275_1 := fun (n_ : Nat) => (show ((((w9.drewN n_).setCell ⟨gb274, 0, none⟩ (.int .i64 ((rd_T56 l0 x14_1).f0))).setCell ⟨gb274, 1, none⟩ (.string ((rd_T56 l0 x14_1).f1)))).cell? _ = some _ from hx275_1)); clear hn275_0; clear hn275_1; replace p275 := eq_true p275; replace q275 := eq_true q275)))
                  go_ret
                  exact ⟨by first | rfl | (simp [errW_none, errW_some] <;> rfl) | (simp [*, errW_none, errW_some] <;> rfl), by repeat (first | (with_reducible first | exact HB.out | apply below_alloc | apply pw_below_drewN | apply below_drew1 | refine below_set ?_ GE274.out) | exact HB.out)⟩
                · rw [if_neg c8] at H
                  have c8b0 : (!(((rd_T56 l0 x14_1).f0) == ((rd_T56 l1 x14_1).f0)) || (!((((rd_T56 l0 x14_1).f1).toList) == (((rd_T56 l1 x14_1).f1).toList)))) = false := by simpa using c8
                  clear c8
                  have H' := Aside0.mk H
                  clear H
                  have p273 : 0 ≤ (x14_1 : Int) := of_decide_eq_true (by first | (with_reducible assumption) | assumption)
                  have q273 : x14_1 < (l0.length : Int) := of_decide_eq_true (by first | (with_reducible assumption) | assumption)
                  obtain ⟨ad273, e273, hx273_0, hx273_1⟩ := at_T56 HR0.out x14_1 p273 q273
                  cases e273
                  replace hx273_0 := (HB.out.cell (World.block_lt_of_cell? w _ hx273_0)).trans hx273_0
                  replace hx273_1 := (HB.out.cell (World.block_lt_of_cell? w _ hx273_1)).trans hx273_1
                  replace p273 := eq_true p273
                  replace q273 := eq_true q273
                  go_wp2_with (first | ((with_reducible refine gate_dst (N := 6) rfl ?_); refine box_event ?hg (N := 6) ?hd (cs := #[.int .i64 0, .string (⟨#[]⟩ : ByteArray)]) (t := 56) ?hr ?_; (case hd => rfl); (case hg => rfl); (case hr => first | (go_simp; done) | (go_simp; rfl)); intro gb274 hg w11 hbox hb; have n0_ := Aside0.mk (below_step (by repeat (first | (with_reducible first | exact HB.out | apply below_alloc | apply pw_below_drewN | apply below_drew1) | exact HB.out)) hb); have n1_ := Aside0.mk (hbox); have n2_ := Aside0.mk ((by rw [hg]; exact (below_size (by repeat (first | (with_reducible first | exact HB.out | apply below_alloc | apply pw_below_drewN | apply below_drew1) | exact HB.out))) : w.heap.size ≤ gb274)); have n3_ := Aside0.mk ((by rw [hg]; exact (below_size (by repeat (first | (with_reducible first | exact HB.out | apply below_alloc | apply pw_below_drewN | apply below_drew1) | exact HB.out))) : w.heap.size ≤ gb274)); clear HB; have HB := n0_; have BK274 := n1_; have GW274 := n2_; have GE274 := n3_; clear n0_ n1_ n2_ n3_; clear hb hbox hg; have hcz12_0 : w11.cell? ⟨gb274, 0, none⟩ = some (.int .i64 0) := (blk_cell BK274.out 0).trans rfl; have hcz12_1 : w11.cell? ⟨gb274, 1, none⟩ = some (.string (⟨#[]⟩ : ByteArray)) := (blk_cell BK274.out 1).trans rfl; have hfz12_0 := blk_frozen BK274.out 0; have hfz12_1 := blk_frozen BK274.out 1; have p275 : 0 ≤ (x14_1 : Int) := of_decide_eq_true (by first | (with_reducible assumption) | assumption); have q275 : x14_1 < (l1.length : Int) := of_decide_eq_true (by first | (with_reducible assumption) | assumption); obtain ⟨ad275, e275, hx275_0, hx275_1⟩ := at_T56 HR1.out x14_1 p275 q275; cases e275; have hn275_0 : ad275.block ≠ gb274 := Nat.ne_of_lt (Nat.lt_of_lt_of_le (by have := World.block_lt_of_cell? _ _ hx275_0; first | rwa [add_block] at this | exact this) GW274.out); have hn275_1 : ad275.block ≠ gb274 := Nat.ne_of_lt (Nat.lt_of_lt_of_le (by have := World.block_lt_of_cell? _ _ hx275_0; first | rwa [add_block] at this | exact this) GW274.out); replace hx275_0 := (HB.out.cell (World.block_lt_of_cell? w _ hx275_0)).trans hx275_0; replace hx275_1 := (HB.out.cell (World.block_lt_of_cell? w _ hx275_1)).trans hx275_1; replace hx275_0 := (cell_far (p := ⟨gb274, 0, none⟩) (by first | (rw [add_block]; exact hn275_0) | (show (Addr.add _ _).block ≠ _; rw [add_block]; exact hn275_0) | exact hn275_0) (.int .i64 ((rd_T56 l0 x14_1).f0))).trans hx275_0; replace hx275_1 := (cell_far (p := ⟨gb274, 0, none⟩) (by first | (rw [add_block]; exact hn275_0) | (show (Addr.add _ _).block ≠ _; rw [add_block]; exact hn275_0) | exact hn275_0) (.int .i64 ((rd_T56 l0 x14_1).f0))).trans hx275_1; replace hx275_0 := (cell_far (p := ⟨gb274, 1, none⟩) (by first | (rw [add_block]; exact hn275_1) | (show (Addr.add _ _).block ≠ _; rw [add_block]; exact hn275_1) | exact hn275_1) (.string ((rd_T56 l0 x14_1).f1))).trans hx275_0; replace hx275_1 := (cell_far (p := ⟨gb274, 1, none⟩) (by first | (rw [add_block]; exact hn275_1) | (show (Addr.add _ _).block ≠ _; rw [add_block]; exact hn275_1) | exact hn275_1) (.string ((rd_T56 l0 x14_1).f1))).trans hx275_1; (try have hy275_0 := fun (n_ : Nat) => (show ((((w11.drewN n_).setCell ⟨gb274, 0, none⟩ (.int .i64 ((rd_T56 l0 x14_1).f0))).setCell ⟨gb274, 1, none⟩ (.string ((rd_T56 l0 x14_1).f1)))).cell? _ = some _ from hx275_0)); (try have hy275_1 := fun (n_ : Nat) => (show ((((w11.drewN n_).setCell ⟨gb274, 0, none⟩ (.int .i64 ((rd_T56 l0 x14_1).f0))).setCell ⟨gb274, 1, none⟩ (.string ((rd_T56 l0 x14_1).f1)))).cell? _ = some _ from hx275_1)); clear hn275_0; clear hn275_1; replace p275 := eq_true p275; replace q275 := eq_true q275))
                  repeat (go_quiet (first | ((with_reducible refine gate_dst (N := 6) rfl ?_); refine box_event ?hg (N := 6) ?hd (cs := #[.int .i64 0, .string (⟨#[]⟩ : ByteArray)]) (t := 56) ?hr ?_; (case hd => rfl); (case hg => rfl); (case hr => first | (go_simp; done) | (go_simp; rfl)); intro gb274 hg w11 hbox hb; have n0_ := Aside0.mk (below_step (by repeat (first | (with_reducible first | exact HB.out | apply below_alloc | apply pw_below_drewN | apply below_drew1) | exact HB.out)) hb); have n1_ := Aside0.mk (hbox); have n2_ := Aside0.mk ((by rw [hg]; exact (below_size (by repeat (first | (with_reducible first | exact HB.out | apply below_alloc | apply pw_below_drewN | apply below_drew1) | exact HB.out))) : w.heap.size ≤ gb274)); have n3_ := Aside0.mk ((by rw [hg]; exact (below_size (by repeat (first | (with_reducible first | exact HB.out | apply below_alloc | apply pw_below_drewN | apply below_drew1) | exact HB.out))) : w.heap.size ≤ gb274)); clear HB; have HB := n0_; have BK274 := n1_; have GW274 := n2_; have GE274 := n3_; clear n0_ n1_ n2_ n3_; clear hb hbox hg; have hcz12_0 : w11.cell? ⟨gb274, 0, none⟩ = some (.int .i64 0) := (blk_cell BK274.out 0).trans rfl; have hcz12_1 : w11.cell? ⟨gb274, 1, none⟩ = some (.string (⟨#[]⟩ : ByteArray)) := (blk_cell BK274.out 1).trans rfl; have hfz12_0 := blk_frozen BK274.out 0; have hfz12_1 := blk_frozen BK274.out 1; have p275 : 0 ≤ (x14_1 : Int) := of_decide_eq_true (by first | (with_reducible assumption) | assumption); have q275 : x14_1 < (l1.length : Int) := of_decide_eq_true (by first | (with_reducible assumption) | assumption); obtain ⟨ad275, e275, hx275_0, hx275_1⟩ := at_T56 HR1.out x14_1 p275 q275; cases e275; have hn275_0 : ad275.block ≠ gb274 := Nat.ne_of_lt (Nat.lt_of_lt_of_le (by have := World.block_lt_of_cell? _ _ hx275_0; first | rwa [add_block] at this | exact this) GW274.out); have hn275_1 : ad275.block ≠ gb274 := Nat.ne_of_lt (Nat.lt_of_lt_of_le (by have := World.block_lt_of_cell? _ _ hx275_0; first | rwa [add_block] at this | exact this) GW274.out); replace hx275_0 := (HB.out.cell (World.block_lt_of_cell? w _ hx275_0)).trans hx275_0; replace hx275_1 := (HB.out.cell (World.block_lt_of_cell? w _ hx275_1)).trans hx275_1; replace hx275_0 := (cell_far (p := ⟨gb274, 0, none⟩) (by first | (rw [add_block]; exact hn275_0) | (show (Addr.add _ _).block ≠ _; rw [add_block]; exact hn275_0) | exact hn275_0) (.int .i64 ((rd_T56 l0 x14_1).f0))).trans hx275_0; replace hx275_1 := (cell_far (p := ⟨gb274, 0, none⟩) (by first | (rw [add_block]; exact hn275_0) | (show (Addr.add _ _).block ≠ _; rw [add_block]; exact hn275_0) | exact hn275_0) (.int .i64 ((rd_T56 l0 x14_1).f0))).trans hx275_1; replace hx275_0 := (cell_far (p := ⟨gb274, 1, none⟩) (by first | (rw [add_block]; exact hn275_1) | (show (Addr.add _ _).block ≠ _; rw [add_block]; exact hn275_1) | exact hn275_1) (.string ((rd_T56 l0 x14_1).f1))).trans hx275_0; replace hx275_1 := (cell_far (p := ⟨gb274, 1, none⟩) (by first | (rw [add_block]; exact hn275_1) | (show (Addr.add _ _).block ≠ _; rw [add_block]; exact hn275_1) | exact hn275_1) (.string ((rd_T56 l0 x14_1).f1))).trans hx275_1; (try have hy275_0 := fun (n_ : Nat) => (show ((((w11.drewN n_).setCell ⟨gb274, 0, none⟩ (.int .i64 ((rd_T56 l0 x14_1).f0))).setCell ⟨gb274, 1, none⟩ (.string ((rd_T56 l0 x14_1).f1)))).cell? _ = some _ from hx275_0)); (try have hy275_1 := fun (n_ : Nat) => (show ((((w11.drewN n_).setCell ⟨gb274, 0, none⟩ (.int .i64 ((rd_T56 l0 x14_1).f0))).setCell ⟨gb274, 1, none⟩ (.string ((rd_T56 l0 x14_1).f1)))).cell? _ = some _ from hx275_1)); clear hn275_0; clear hn275_1; replace p275 := eq_true p275; replace q275 := eq_true q275)); try go_wp2_with (first | ((with_reducible refine gate_dst (N := 6) rfl ?_); refine box_event ?hg (N := 6) ?hd (cs := #[.int .i64 0, .string (⟨#[]⟩ : ByteArray)]) (t := 56) ?hr ?_; (case hd => rfl); (case hg => rfl); (case hr => first | (go_simp; done) | (go_simp; rfl)); intro gb274 hg w11 hbox hb; have n0_ := Aside0.mk (below_step (by repeat (first | (with_reducible first | exact HB.out | apply below_alloc | apply pw_below_drewN | apply below_drew1) | exact HB.out)) hb); have n1_ := Aside0.mk (hbox); have n2_ := Aside0.mk ((by rw [hg]; exact (below_size (by repeat (first | (with_reducible first | exact HB.out | apply below_alloc | apply pw_below_drewN | apply below_drew1) | exact HB.out))) : w.heap.size ≤ gb274)); have n3_ := Aside0.mk ((by rw [hg]; exact (below_size (by repeat (first | (with_reducible first | exact HB.out | apply below_alloc | apply pw_below_drewN | apply below_drew1) | exact HB.out))) : w.heap.size ≤ gb274)); clear HB; have HB := n0_; have BK274 := n1_; have GW274 := n2_; have GE274 := n3_; clear n0_ n1_ n2_ n3_; clear hb hbox hg; have hcz12_0 : w11.cell? ⟨gb274, 0, none⟩ = some (.int .i64 0) := (blk_cell BK274.out 0).trans rfl; have hcz12_1 : w11.cell? ⟨gb274, 1, none⟩ = some (.string (⟨#[]⟩ : ByteArray)) := (blk_cell BK274.out 1).trans rfl; have hfz12_0 := blk_frozen BK274.out 0; have hfz12_1 := blk_frozen BK274.out 1; have p275 : 0 ≤ (x14_1 : Int) := of_decide_eq_true (by first | (with_reducible assumption) | assumption); have q275 : x14_1 < (l1.length : Int) := of_decide_eq_true (by first | (with_reducible assumption) | assumption); obtain ⟨ad275, e275, hx275_0, hx275_1⟩ := at_T56 HR1.out x14_1 p275 q275; cases e275; have hn275_0 : ad275.block ≠ gb274 := Nat.ne_of_lt (Nat.lt_of_lt_of_le (by have := World.block_lt_of_cell? _ _ hx275_0; first | rwa [add_block] at this | exact this) GW274.out); have hn275_1 : ad275.block ≠ gb274 := Nat.ne_of_lt (Nat.lt_of_lt_of_le (by have := World.block_lt_of_cell? _ _ hx275_0; first | rwa [add_block] at this | exact this) GW274.out); replace hx275_0 := (HB.out.cell (World.block_lt_of_cell? w _ hx275_0)).trans hx275_0; replace hx275_1 := (HB.out.cell (World.block_lt_of_cell? w _ hx275_1)).trans hx275_1; replace hx275_0 := (cell_far (p := ⟨gb274, 0, none⟩) (by first | (rw [add_block]; exact hn275_0) | (show (Addr.add _ _).block ≠ _; rw [add_block]; exact hn275_0) | exact hn275_0) (.int .i64 ((rd_T56 l0 x14_1).f0))).trans hx275_0; replace hx275_1 := (cell_far (p := ⟨gb274, 0, none⟩) (by first | (rw [add_block]; exact hn275_0) | (show (Addr.add _ _).block ≠ _; rw [add_block]; exact hn275_0) | exact hn275_0) (.int .i64 ((rd_T56 l0 x14_1).f0))).trans hx275_1; replace hx275_0 := (cell_far (p := ⟨gb274, 1, none⟩) (by first | (rw [add_block]; exact hn275_1) | (show (Addr.add _ _).block ≠ _; rw [add_block]; exact hn275_1) | exact hn275_1) (.string ((rd_T56 l0 x14_1).f1))).trans hx275_0; replace hx275_1 := (cell_far (p := ⟨gb274, 1, none⟩) (by first | (rw [add_block]; exact hn275_1) | (show (Addr.add _ _).block ≠ _; rw [add_block]; exact hn275_1) | exact hn275_1) (.string ((rd_T56 l0 x14_1).f1))).trans hx275_1; (try have hy275_0 := fun (n_ : Nat) => (show ((((w11.drewN n_).setCell ⟨gb274, 0, none⟩ (.int .i64 ((rd_T56 l0 x14_1).f0))).setCell ⟨gb274, 1, none⟩ (.string ((rd_T56 l0 x14_1).f1)))).cell? _ = some _ from hx275_0)); (try have hy275_1 := fun (n_ : Nat) => (show ((((w11.drewN n_).setCell ⟨gb274, 0, none⟩ (.int .i64 ((rd_T56 l0 x14_1).f0))).setCell ⟨gb274, 1, none⟩ (.string ((rd_T56 l0 x14_1).f1)))).cell? _ = some _ from hx275_1)); clear hn275_0; clear hn275_1; replace p275 := eq_true p275; replace q275 := eq_true q275)))
                  go_roundg k1
                  case measure => have := HK1.out; omega
                  case rel => exact ⟨(wrap64 (x14_1 + 1)), (by first | rfl | (simp; done) | (simp [*]; done)), H', ⟨by have := HK1.out; omega⟩, ⟨by repeat (first | (with_reducible first | exact HB.out | apply below_alloc | apply pw_below_drewN | apply below_drew1 | refine below_set ?_ GE274.out) | exact HB.out)⟩⟩
              · rw [if_neg c7] at H
                exact absurd H (by simp)
            · rw [if_neg c6] at H
              exact absurd H (by simp)
          · rw [if_neg c5] at H
            exact absurd H (by simp)
        · rw [if_neg c4] at H
          have c4b0 : decide (x14_1 < (l0.length : Int)) = false := decide_eq_false c4
          clear c4
          obtain rfl := Option.some.inj H
          go_wp2
          repeat (go_quiet (fail); try go_wp2)
          go_ret
          exact ⟨by first | rfl | (simp [errW_none, errW_some] <;> rfl) | (simp [*, errW_none, errW_some] <;> rfl), by repeat (first | (with_reducible first | exact HB.out | apply below_alloc | apply pw_below_drewN | apply below_drew1) | exact HB.out)⟩
  · rw [if_neg c3] at H
    have c3b0 : ((l0.length : Int) == (l1.length : Int)) = false := beq_eq_false_iff_ne.mpr c3
    have c3b1 : ((l0.length : Int) != (l1.length : Int)) = true := bne_iff_ne.mpr c3
    have c3b2 : (l0.length == l1.length) = false := by first | simpa using c3 | (simp at c3 ⊢; omega)
    obtain rfl := Option.some.inj H
    go_enter Tryz.func11, Tryz.ntmps11
    go_wp2
    repeat (go_quiet (fail); try go_wp2)
    go_ret
    exact ⟨by first | rfl | (simp [errW_none, errW_some] <;> rfl) | (simp [*, errW_none, errW_some] <;> rfl), by repeat (first | (with_reducible first | exact HB.out | apply below_alloc | apply pw_below_drewN | apply below_drew1) | exact HB.out)⟩

/-! ### spec_Told: function 35 -/
mutual
def spec_Told.l0 : Nat → ByteArray → List Int → Int → Option (ByteArray)
  | 0, _, _, _ => none
  | k + 1, x0, x3, x4 => if x4 < (x0.size : Int) then (if (wrap64 ((x0.size : Int) - x4)) ≥ 2 then (if 0 ≤ x4 then (if x4 ≤ (wrap64 (x4 + 2)) then (if (wrap64 (x4 + 2)) ≤ (x0.size : Int) then (spec_Told.j1 k x0 x3 x4 ((x0.extract (x4 : Int).toNat ((wrap64 (x4 + 2)) : Int).toNat).toList == ([194, 183] : List UInt8))) else (none)) else (none)) else (none)) else (spec_Told.j1 k x0 x3 x4 false)) else (some (strOfNums x3))
def spec_Told.j1 : Nat → ByteArray → List Int → Int → Bool → Option (ByteArray)
  | 0, _, _, _, _ => none
  | k + 1, x0, x3, x4, x18 => if x18 = true then (if x3.length < 140737488355328 then (spec_Told.l0 k x0 (x3 ++ [46]) (wrap64 (x4 + 2))) else (none)) else (if (wrap64 ((x0.size : Int) - x4)) ≥ 3 then (if 0 ≤ x4 then (if x4 ≤ (wrap64 (x4 + 3)) then (if (wrap64 (x4 + 3)) ≤ (x0.size : Int) then (if (x0.extract (x4 : Int).toNat ((wrap64 (x4 + 3)) : Int).toNat).toList = ([226, 136, 149] : List UInt8) then (if x3.length < 140737488355328 then (spec_Told.l0 k x0 (x3 ++ [47]) (wrap64 (x4 + 3))) else (none)) else (if x4 < (x0.size : Int) then (if x3.length < 140737488355328 then (spec_Told.l0 k x0 (x3 ++ [bt x0 x4]) (wrap64 (x4 + 1))) else (none)) else (none))) else (none)) else (none)) else (none)) else (if 0 ≤ x4 then (if x4 < (x0.size : Int) then (if x3.length < 140737488355328 then (spec_Told.l0 k x0 (x3 ++ [bt x0 x4]) (wrap64 (x4 + 1))) else (none)) else (none)) else (none)))
end
def spec_Told.f (k : Nat) (a0 : ByteArray) : Option (ByteArray) := spec_Told.l0 k a0 (([] : List Int)) 0
theorem spec_Told.mono_l : ∀ k, (∀ y0 y1 y2, LeO (spec_Told.l0 k y0 y1 y2) (spec_Told.l0 (k + 1) y0 y1 y2)) ∧ (∀ y0 y1 y2 y3, LeO (spec_Told.j1 k y0 y1 y2 y3) (spec_Told.j1 (k + 1) y0 y1 y2 y3))
  | 0 => ⟨fun _ _ _ r h => by simp [spec_Told.l0] at h, fun _ _ _ _ r h => by simp [spec_Told.j1] at h⟩
  | k + 1 => by
    obtain ⟨ih0, ih1⟩ := spec_Told.mono_l k
    refine ⟨?_, ?_⟩
    · intro y0 y1 y2
      unfold spec_Told.l0
      repeat' first
      | (with_reducible exact ih0 _ _ _)
      | (with_reducible exact ih1 _ _ _ _)
      | (with_reducible exact LeO.refl _)
      | (with_reducible exact LeO.none _)
      | (with_reducible refine LeO.ite ?_ ?_)
      | (with_reducible refine LeO.bind ?_ (fun _ => ?_))
      | exact ih0 _ _ _
      | exact ih1 _ _ _ _
      | exact LeO.none _
      | refine LeO.ite ?_ ?_
      | refine LeO.bind ?_ (fun _ => ?_)
    · intro y0 y1 y2 y3
      unfold spec_Told.j1
      repeat' first
      | (with_reducible exact ih0 _ _ _)
      | (with_reducible exact ih1 _ _ _ _)
      | (with_reducible exact LeO.refl _)
      | (with_reducible exact LeO.none _)
      | (with_reducible refine LeO.ite ?_ ?_)
      | (with_reducible refine LeO.bind ?_ (fun _ => ?_))
      | exact ih0 _ _ _
      | exact ih1 _ _ _ _
      | exact LeO.none _
      | refine LeO.ite ?_ ?_
      | refine LeO.bind ?_ (fun _ => ?_)
theorem spec_Told.mono : ∀ a0 k, LeO (spec_Told.f k a0) (spec_Told.f (k + 1) a0) := by
  intro a0 k
  obtain ⟨ih0, ih1⟩ := spec_Told.mono_l k
  unfold spec_Told.f
  repeat' first
      | (with_reducible exact ih0 _ _ _)
      | (with_reducible exact ih1 _ _ _ _)
      | (with_reducible exact LeO.refl _)
      | (with_reducible exact LeO.none _)
      | (with_reducible refine LeO.ite ?_ ?_)
      | (with_reducible refine LeO.bind ?_ (fun _ => ?_))
      | exact ih0 _ _ _
      | exact ih1 _ _ _ _
      | exact LeO.none _
      | refine LeO.ite ?_ ?_
      | refine LeO.bind ?_ (fun _ => ?_)
set_option maxHeartbeats 8000000 in
set_option maxRecDepth 100000 in
theorem spec_Told.calls (k : Nat) (a0 : ByteArray) (r : ByteArray) (w : World) (h : spec_Told.f k a0 = some r) :
    Calls Tryz.prog 35 #[.string a0] w fun e w' => e = .returned (.string r) ∧ Below w.heap.size w w' := by
  have HB := Aside0.mk (Below.refl w.heap.size w)
  have H : (spec_Told.l0 k a0 (([] : List Int)) 0) = some r := h
  clear h
  obtain ⟨y276, hy276⟩ : ∃ y_ : List Int, y_ = (([] : List Int)) := ⟨_, rfl⟩
  replace H : (spec_Told.l0 k a0 y276 0) = some r := by first | (rw [hy276]; with_reducible exact H) | (have H2_ := (Option.bind_some _ _).symm.trans H; rw [hy276]; with_reducible exact H2_) | (have H2_ := (Option.bind_some _ _).symm.trans H; with_reducible exact H2_) | with_reducible exact H | (rw [hy276]; exact H) | exact H
  have Ny276 := Aside0.mk hy276
  clear hy276
  have H' := Aside0.mk H
  clear H
  go_enter Tryz.func35, Tryz.ntmps35
  go_wp2_with (first | ((with_reducible refine gate_dst (N := 5) rfl ?_); refine Kd.R_lit (Kd.int .u8) _ 5 ?hg (N := 5) ?hd (xs := ([] : List Int)) (inner := []) (ok := fun _ => True) (okp := fun _ => True) ?hr ?hp (fun _ hk => hk) trivial (Below.refl _ _) (Nat.le_refl _) (by simp) ?_; (case hd => rfl); (case hg => rfl); (case hr => first | (go_simp; done) | (go_simp; rfl)); (case hp => exact (Reps.none _ _)); intro v277 w2 ho3 hb hg_ hnew_; clear hg_ hnew_; (first | rw [← Ny276.out] at ho3 | (simp only [Int.reduceToNat] at ho3; rw [← Ny276.out] at ho3)); have n0_ := Aside0.mk (Kd.R_lower ho3 (below_size (by repeat (first | (with_reducible first | exact HB.out | apply below_alloc | apply pw_below_drewN | apply below_drew1) | exact HB.out)))); have n1_ := Aside0.mk (below_step (by repeat (first | (with_reducible first | exact HB.out | apply below_alloc | apply pw_below_drewN | apply below_drew1) | exact HB.out)) hb); clear HB; have HO278 := n0_; have HB := n1_; clear n0_ n1_; clear hb ho3))
  go_loopg [3, 4] k (fun kq v3 v4 w' => ∃ (x3_1 : List Int) (x4_1 : Int), v4 = .int .i64 x4_1 ∧ Aside0 (spec_Told.l0 kq a0 x3_1 x4_1 = some r) ∧ Aside0 (kq ≤ k) ∧ Aside0 (Kd.R (Kd.int .u8) 5 w' w.heap.size (fun _ => True) v3 x3_1) ∧ Aside0 (Below w.heap.size w w'))
  case atStart => exact ⟨(y276), (0), (by first | rfl | (simp; done) | (simp [*]; done)), H', ⟨Nat.le_refl _⟩, ⟨by (with_reducible repeat (first | apply Kd.R_alloc | apply Kd.R_drewN | apply Kd.R_drew)); exact HO278.out⟩, ⟨by repeat (first | (with_reducible first | exact HB.out | apply below_alloc | apply pw_below_drewN | apply below_drew1) | exact HB.out)⟩⟩
  case round =>
    clear H'
    try clear p2
    try clear c3
    obtain ⟨x3_1, x4_1, rfl, HA, HK1, HO_3, HB⟩ := hrel
    cases gk with
    | zero => exact absurd HA.out (by simp [spec_Told.l0])
    | succ k1 =>
      have H := HA.out
      clear HA
      simp only [spec_Told.l0] at H
      by_cases c4 : x4_1 < (a0.size : Int)
      · rw [if_pos c4] at H
        have c4b0 : decide (x4_1 < (a0.size : Int)) = true := decide_eq_true c4
        clear c4
        have HC5 := Aside0.mk H
        clear H
        go_upto_region 6 with (fail)
        go_cut [18] (fun v18 wc => ∃ (kq : Nat) (x18_4 : Bool), v18 = .bool x18_4 ∧ Aside0 (spec_Told.j1 kq a0 x3_1 x4_1 x18_4 = some r) ∧ Aside0 (kq ≤ k1) ∧ Aside0 (Kd.R (Kd.int .u8) 5 wc w.heap.size (fun _ => True) u3 x3_1) ∧ Aside0 (Below w.heap.size w wc))
        case first =>
          have H := HC5.out
          clear HC5
          by_cases c6 : (wrap64 ((a0.size : Int) - x4_1)) ≥ 2
          · rw [if_pos c6] at H
            have c6b0 : decide (2 ≤ (wrap64 ((a0.size : Int) - x4_1))) = true := decide_eq_true c6
            clear c6
            (first | rw [c6b0] | (simp only [i64_w, i32_w]; rw [c6b0]) | skip)
            by_cases c7 : 0 ≤ x4_1
            · rw [if_pos c7] at H
              have c7b0 := eq_true c7
              have c7b1 : decide (0 ≤ x4_1) = true := decide_eq_true c7
              clear c7
              by_cases c8 : x4_1 ≤ (wrap64 (x4_1 + 2))
              · rw [if_pos c8] at H
                have c8b0 := eq_true c8
                have c8b1 : decide (x4_1 ≤ (wrap64 (x4_1 + 2))) = true := decide_eq_true c8
                by_cases c9 : (wrap64 (x4_1 + 2)) ≤ (a0.size : Int)
                · rw [if_pos c9] at H
                  have c9b0 := eq_true c9
                  have c9b1 : decide ((wrap64 (x4_1 + 2)) ≤ (a0.size : Int)) = true := decide_eq_true c9
                  have H' := Aside0.mk H
                  clear H
                  go_wp2
                  go_meet
                  case rel => exact ⟨_, (((a0.extract (x4_1 : Int).toNat ((wrap64 (x4_1 + 2)) : Int).toNat).toList == ([194, 183] : List UInt8))), (by first | rfl | (simp; done) | (simp [*]; done)), H', ⟨by have := HK1.out; first | omega | exact Nat.le_refl _⟩, ⟨by (with_reducible repeat (first | apply Kd.R_alloc | apply Kd.R_drewN | apply Kd.R_drew)); exact HO_3.out⟩, ⟨by repeat (first | (with_reducible first | exact HB.out | apply below_alloc | apply pw_below_drewN | apply below_drew1) | exact HB.out)⟩⟩
                · rw [if_neg c9] at H
                  exact absurd H (by simp)
              · rw [if_neg c8] at H
                exact absurd H (by simp)
            · rw [if_neg c7] at H
              exact absurd H (by simp)
          · rw [if_neg c6] at H
            have c6b0 : decide (2 ≤ (wrap64 ((a0.size : Int) - x4_1))) = false := decide_eq_false c6
            clear c6
            (first | rw [c6b0] | (simp only [i64_w, i32_w]; rw [c6b0]) | skip)
            have H' := Aside0.mk H
            clear H
            go_wp2
            go_meet
            case rel => exact ⟨_, (false), (by first | rfl | (simp; done) | (simp [*]; done)), H', ⟨by have := HK1.out; first | omega | exact Nat.le_refl _⟩, ⟨by (with_reducible repeat (first | apply Kd.R_alloc | apply Kd.R_drewN | apply Kd.R_drew)); exact HO_3.out⟩, ⟨by repeat (first | (with_reducible first | exact HB.out | apply below_alloc | apply pw_below_drewN | apply below_drew1) | exact HB.out)⟩⟩
        case rest =>
          clear HC5
          try clear p2
          try clear c3
          try clear c4
          try clear c4b0
          try clear c6
          try clear c6b0
          try clear p6
          try clear c7
          try clear c7b0
          try clear c7b1
          try clear c8
          try clear c8b0
          try clear c8b1
          try clear c9
          try clear c9b0
          try clear c9b1
          try clear p2
          obtain ⟨kq, x18_4, rfl, HA, HJ4, HO_3, HB⟩ := hcut
          cases kq with
          | zero => exact absurd HA.out (by simp [spec_Told.j1])
          | succ kj4 =>
            have H := HA.out
            clear HA
            simp only [spec_Told.j1] at H
            by_cases c10 : x18_4 = true
            · subst c10
              have H1 : (if x3_1.length < 140737488355328 then (spec_Told.l0 kj4 a0 (x3_1 ++ [46]) (wrap64 (x4_1 + 2))) else (none)) = some r := by rw [if_pos rfl] at H; exact H
              clear H
              have H := H1
              clear H1
              by_cases c11 : x3_1.length < 140737488355328
              · rw [if_pos c11] at H
                have LMc11 := Aside0.mk c11
                clear c11
                obtain ⟨y279, hy279⟩ : ∃ y_ : List Int, y_ = (x3_1 ++ [46]) := ⟨_, rfl⟩
                replace H : (spec_Told.l0 kj4 a0 y279 (wrap64 (x4_1 + 2))) = some r := by first | (rw [hy279]; with_reducible exact H) | (have H2_ := (Option.bind_some _ _).symm.trans H; rw [hy279]; with_reducible exact H2_) | (have H2_ := (Option.bind_some _ _).symm.trans H; with_reducible exact H2_) | with_reducible exact H | (rw [hy279]; exact H) | exact H
                have Ny279 := Aside0.mk hy279
                clear hy279
                have H' := Aside0.mk H
                clear H
                go_wp2_with (first | ((with_reducible refine gate_builtin (b := .append) (xs := #[.tmp 32, .tmp 33]) rfl ?_); at_builtin; refine Kd.R_append (Kd.int .u8) (w0 := w) w.heap.size rfl (.tmp 32) (.tmp 33) 75 5 (.int .u8 0) 1 rfl Tryz.underlying75 info5 rfl (by decide) (by omega) u3 x3_1 46 [.int .u8 46] (fun _ => True) (fun _ => False) rfl rfl ?aP (fun _ hk => hk.elim) ?aF ?aO ?aB ?aS ?aL ?_; (case aP => exact rfl); (case aB => exact (by repeat (first | (with_reducible first | exact HB.out | apply below_alloc | apply pw_below_drewN | apply below_drew1) | exact HB.out))); (case aF => exact (fun _ _ => trivial)); (case aO => exact (by (with_reducible repeat (first | apply Kd.R_alloc | apply Kd.R_drewN | apply Kd.R_drew)); exact HO_3.out)); (case aS => exact (below_size (by repeat (first | (with_reducible first | exact HB.out | apply below_alloc | apply pw_below_drewN | apply below_drew1) | exact HB.out)))); (case aL => have := LMc11.out; omega); intro v280 w12 ho hb hg hat; rw [← Ny279.out] at ho; have n0_ := Aside0.mk (hb); have n1_ := Aside0.mk (ho); clear HB; clear HO_3; have HB := n0_; have HO281 := n1_; clear n0_ n1_; clear ho hb hg hat))
                go_roundg kj4
                case measure => have := HK1.out; have := HJ4.out; omega
                case rel => exact ⟨(y279), (wrap64 (x4_1 + 2)), (by first | rfl | (simp; done) | (simp [*]; done)), H', ⟨by have := HK1.out; have := HJ4.out; omega⟩, ⟨by (with_reducible repeat (first | apply Kd.R_alloc | apply Kd.R_drewN | apply Kd.R_drew)); exact HO281.out⟩, ⟨by repeat (first | (with_reducible first | exact HB.out | apply below_alloc | apply pw_below_drewN | apply below_drew1) | exact HB.out)⟩⟩
              · rw [if_neg c11] at H
                exact absurd H (by simp)
            · replace c10 := Bool.eq_false_iff.mpr c10
              subst c10
              have H1 : (if (wrap64 ((a0.size : Int) - x4_1)) ≥ 3 then (if 0 ≤ x4_1 then (if x4_1 ≤ (wrap64 (x4_1 + 3)) then (if (wrap64 (x4_1 + 3)) ≤ (a0.size : Int) then (if (a0.extract (x4_1 : Int).toNat ((wrap64 (x4_1 + 3)) : Int).toNat).toList = ([226, 136, 149] : List UInt8) then (if x3_1.length < 140737488355328 then (spec_Told.l0 kj4 a0 (x3_1 ++ [47]) (wrap64 (x4_1 + 3))) else (none)) else (if x4_1 < (a0.size : Int) then (if x3_1.length < 140737488355328 then (spec_Told.l0 kj4 a0 (x3_1 ++ [bt a0 x4_1]) (wrap64 (x4_1 + 1))) else (none)) else (none))) else (none)) else (none)) else (none)) else (if 0 ≤ x4_1 then (if x4_1 < (a0.size : Int) then (if x3_1.length < 140737488355328 then (spec_Told.l0 kj4 a0 (x3_1 ++ [bt a0 x4_1]) (wrap64 (x4_1 + 1))) else (none)) else (none)) else (none))) = some r := by rw [if_neg (show ¬ (false = true) by decide)] at H; exact H
              clear H
              have H := H1
              clear H1
              by_cases c13 : (wrap64 ((a0.size : Int) - x4_1)) ≥ 3
              · rw [if_pos c13] at H
                have c13b0 : decide (3 ≤ (wrap64 ((a0.size : Int) - x4_1))) = true := decide_eq_true c13
                clear c13
                by_cases c14 : 0 ≤ x4_1
                · rw [if_pos c14] at H
                  have c14b0 := eq_true c14
                  have c14b1 : decide (0 ≤ x4_1) = true := decide_eq_true c14
                  clear c14
                  by_cases c15 : x4_1 ≤ (wrap64 (x4_1 + 3))
                  · rw [if_pos c15] at H
                    have c15b0 := eq_true c15
                    have c15b1 : decide (x4_1 ≤ (wrap64 (x4_1 + 3))) = true := decide_eq_true c15
                    by_cases c16 : (wrap64 (x4_1 + 3)) ≤ (a0.size : Int)
                    · rw [if_pos c16] at H
                      have c16b0 := eq_true c16
                      have c16b1 : decide ((wrap64 (x4_1 + 3)) ≤ (a0.size : Int)) = true := decide_eq_true c16
                      by_cases c17 : (a0.extract (x4_1 : Int).toNat ((wrap64 (x4_1 + 3)) : Int).toNat).toList = ([226, 136, 149] : List UInt8)
                      · rw [if_pos c17] at H
                        have c17b0 : ((a0.extract (x4_1 : Int).toNat ((wrap64 (x4_1 + 3)) : Int).toNat).toList == ([226, 136, 149] : List UInt8)) = true := beq_iff_eq.mpr c17
                        have c17b1 : ((a0.extract (x4_1 : Int).toNat ((wrap64 (x4_1 + 3)) : Int).toNat).toList != ([226, 136, 149] : List UInt8)) = false := bne_eq_false_iff_eq.mpr c17
                        clear c17
                        by_cases c18 : x3_1.length < 140737488355328
                        · rw [if_pos c18] at H
                          have LMc18 := Aside0.mk c18
                          clear c18
                          obtain ⟨y282, hy282⟩ : ∃ y_ : List Int, y_ = (x3_1 ++ [47]) := ⟨_, rfl⟩
                          replace H : (spec_Told.l0 kj4 a0 y282 (wrap64 (x4_1 + 3))) = some r := by first | (rw [hy282]; with_reducible exact H) | (have H2_ := (Option.bind_some _ _).symm.trans H; rw [hy282]; with_reducible exact H2_) | (have H2_ := (Option.bind_some _ _).symm.trans H; with_reducible exact H2_) | with_reducible exact H | (rw [hy282]; exact H) | exact H
                          have Ny282 := Aside0.mk hy282
                          clear hy282
                          have H' := Aside0.mk H
                          clear H
                          go_wp2_with (first | ((with_reducible refine gate_builtin (b := .append) (xs := #[.tmp 51, .tmp 52]) rfl ?_); at_builtin; refine Kd.R_append (Kd.int .u8) (w0 := w) w.heap.size rfl (.tmp 51) (.tmp 52) 75 5 (.int .u8 0) 1 rfl Tryz.underlying75 info5 rfl (by decide) (by omega) u3 x3_1 47 [.int .u8 47] (fun _ => True) (fun _ => False) rfl rfl ?aP (fun _ hk => hk.elim) ?aF ?aO ?aB ?aS ?aL ?_; (case aP => exact rfl); (case aB => exact (by repeat (first | (with_reducible first | exact HB.out | apply below_alloc | apply pw_below_drewN | apply below_drew1) | exact HB.out))); (case aF => exact (fun _ _ => trivial)); (case aO => exact (by (with_reducible repeat (first | apply Kd.R_alloc | apply Kd.R_drewN | apply Kd.R_drew)); exact HO_3.out)); (case aS => exact (below_size (by repeat (first | (with_reducible first | exact HB.out | apply below_alloc | apply pw_below_drewN | apply below_drew1) | exact HB.out)))); (case aL => have := LMc18.out; omega); intro v283 w19 ho hb hg hat; rw [← Ny282.out] at ho; have n0_ := Aside0.mk (hb); have n1_ := Aside0.mk (ho); clear HB; clear HO_3; have HB := n0_; have HO284 := n1_; clear n0_ n1_; clear ho hb hg hat))
                          go_roundg kj4
                          case measure => have := HK1.out; have := HJ4.out; omega
                          case rel => exact ⟨(y282), (wrap64 (x4_1 + 3)), (by first | rfl | (simp; done) | (simp [*]; done)), H', ⟨by have := HK1.out; have := HJ4.out; omega⟩, ⟨by (with_reducible repeat (first | apply Kd.R_alloc | apply Kd.R_drewN | apply Kd.R_drew)); exact HO284.out⟩, ⟨by repeat (first | (with_reducible first | exact HB.out | apply below_alloc | apply pw_below_drewN | apply below_drew1) | exact HB.out)⟩⟩
                        · rw [if_neg c18] at H
                          exact absurd H (by simp)
                      · rw [if_neg c17] at H
                        have c17b0 : ((a0.extract (x4_1 : Int).toNat ((wrap64 (x4_1 + 3)) : Int).toNat).toList == ([226, 136, 149] : List UInt8)) = false := beq_eq_false_iff_ne.mpr c17
                        have c17b1 : ((a0.extract (x4_1 : Int).toNat ((wrap64 (x4_1 + 3)) : Int).toNat).toList != ([226, 136, 149] : List UInt8)) = true := bne_iff_ne.mpr c17
                        by_cases c20 : x4_1 < (a0.size : Int)
                        · rw [if_pos c20] at H
                          have c20b0 : decide (x4_1 < (a0.size : Int)) = true := decide_eq_true c20
                          clear c20
                          by_cases c22 : x3_1.length < 140737488355328
                          · rw [if_pos c22] at H
                            have LMc22 := Aside0.mk c22
                            clear c22
                            obtain ⟨y285, hy285⟩ : ∃ y_ : List Int, y_ = (x3_1 ++ [bt a0 x4_1]) := ⟨_, rfl⟩
                            replace H : (spec_Told.l0 kj4 a0 y285 (wrap64 (x4_1 + 1))) = some r := by first | (rw [hy285]; with_reducible exact H) | (have H2_ := (Option.bind_some _ _).symm.trans H; rw [hy285]; with_reducible exact H2_) | (have H2_ := (Option.bind_some _ _).symm.trans H; with_reducible exact H2_) | with_reducible exact H | (rw [hy285]; exact H) | exact H
                            have Ny285 := Aside0.mk hy285
                            clear hy285
                            have H' := Aside0.mk H
                            clear H
                            have p21 : 0 ≤ (x4_1 : Int) := of_decide_eq_true (by first | (with_reducible assumption) | assumption)
                            have q21 : x4_1 < (a0.size : Int) := of_decide_eq_true (by first | (with_reducible assumption) | assumption)
                            have hx21 := bt_at a0 x4_1
                            replace p21 := eq_true p21
                            replace q21 := eq_true q21
                            go_wp2_with (first | ((with_reducible refine gate_builtin (b := .append) (xs := #[.tmp 10, .tmp 14]) rfl ?_); at_builtin; refine Kd.R_append (Kd.int .u8) (w0 := w) w.heap.size rfl (.tmp 10) (.tmp 14) 75 5 (.int .u8 0) 1 rfl Tryz.underlying75 info5 rfl (by decide) (by omega) u3 x3_1 (bt a0 x4_1) [.int .u8 (bt a0 x4_1)] (fun _ => True) (fun _ => False) rfl rfl ?aP (fun _ hk => hk.elim) ?aF ?aO ?aB ?aS ?aL ?_; (case aP => exact rfl); (case aB => exact (by repeat (first | (with_reducible first | exact HB.out | apply below_alloc | apply pw_below_drewN | apply below_drew1) | exact HB.out))); (case aF => exact (fun _ _ => trivial)); (case aO => exact (by (with_reducible repeat (first | apply Kd.R_alloc | apply Kd.R_drewN | apply Kd.R_drew)); exact HO_3.out)); (case aS => exact (below_size (by repeat (first | (with_reducible first | exact HB.out | apply below_alloc | apply pw_below_drewN | apply below_drew1) | exact HB.out)))); (case aL => have := LMc22.out; omega); intro v286 w23 ho hb hg hat; rw [← Ny285.out] at ho; have n0_ := Aside0.mk (hb); have n1_ := Aside0.mk (ho); clear HB; clear HO_3; have HB := n0_; have HO287 := n1_; clear n0_ n1_; clear ho hb hg hat))
                            go_roundg kj4
                            case measure => have := HK1.out; have := HJ4.out; omega
                            case rel => exact ⟨(y285), (wrap64 (x4_1 + 1)), (by first | rfl | (simp; done) | (simp [*]; done)), H', ⟨by have := HK1.out; have := HJ4.out; omega⟩, ⟨by (with_reducible repeat (first | apply Kd.R_alloc | apply Kd.R_drewN | apply Kd.R_drew)); exact HO287.out⟩, ⟨by repeat (first | (with_reducible first | exact HB.out | apply below_alloc | apply pw_below_drewN | apply below_drew1) | exact HB.out)⟩⟩
                          · rw [if_neg c22] at H
                            exact absurd H (by simp)
                        · rw [if_neg c20] at H
                          exact absurd H (by simp)
                    · rw [if_neg c16] at H
                      exact absurd H (by simp)
                  · rw [if_neg c15] at H
                    exact absurd H (by simp)
                · rw [if_neg c14] at H
                  exact absurd H (by simp)
              · rw [if_neg c13] at H
                have c13b0 : decide (3 ≤ (wrap64 ((a0.size : Int) - x4_1))) = false := decide_eq_false c13
                clear c13
                by_cases c24 : 0 ≤ x4_1
                · rw [if_pos c24] at H
                  have c24b0 : decide (0 ≤ x4_1) = true := decide_eq_true c24
                  clear c24
                  by_cases c25 : x4_1 < (a0.size : Int)
                  · rw [if_pos c25] at H
                    have c25b0 : decide (x4_1 < (a0.size : Int)) = true := decide_eq_true c25
                    clear c25
                    by_cases c27 : x3_1.length < 140737488355328
                    · rw [if_pos c27] at H
                      have LMc27 := Aside0.mk c27
                      clear c27
                      obtain ⟨y288, hy288⟩ : ∃ y_ : List Int, y_ = (x3_1 ++ [bt a0 x4_1]) := ⟨_, rfl⟩
                      replace H : (spec_Told.l0 kj4 a0 y288 (wrap64 (x4_1 + 1))) = some r := by first | (rw [hy288]; with_reducible exact H) | (have H2_ := (Option.bind_some _ _).symm.trans H; rw [hy288]; with_reducible exact H2_) | (have H2_ := (Option.bind_some _ _).symm.trans H; with_reducible exact H2_) | with_reducible exact H | (rw [hy288]; exact H) | exact H
                      have Ny288 := Aside0.mk hy288
                      clear hy288
                      have H' := Aside0.mk H
                      clear H
                      have p26 : 0 ≤ (x4_1 : Int) := of_decide_eq_true (by first | (with_reducible assumption) | assumption)
                      have q26 : x4_1 < (a0.size : Int) := of_decide_eq_true (by first | (with_reducible assumption) | assumption)
                      have hx26 := bt_at a0 x4_1
                      replace p26 := eq_true p26
                      replace q26 := eq_true q26
                      go_wp2_with (first | ((with_reducible refine gate_builtin (b := .append) (xs := #[.tmp 10, .tmp 14]) rfl ?_); at_builtin; refine Kd.R_append (Kd.int .u8) (w0 := w) w.heap.size rfl (.tmp 10) (.tmp 14) 75 5 (.int .u8 0) 1 rfl Tryz.underlying75 info5 rfl (by decide) (by omega) u3 x3_1 (bt a0 x4_1) [.int .u8 (bt a0 x4_1)] (fun _ => True) (fun _ => False) rfl rfl ?aP (fun _ hk => hk.elim) ?aF ?aO ?aB ?aS ?aL ?_; (case aP => exact rfl); (case aB => exact (by repeat (first | (with_reducible first | exact HB.out | apply below_alloc | apply pw_below_drewN | apply below_drew1) | exact HB.out))); (case aF => exact (fun _ _ => trivial)); (case aO => exact (by (with_reducible repeat (first | apply Kd.R_alloc | apply Kd.R_drewN | apply Kd.R_drew)); exact HO_3.out)); (case aS => exact (below_size (by repeat (first | (with_reducible first | exact HB.out | apply below_alloc | apply pw_below_drewN | apply below_drew1) | exact HB.out)))); (case aL => have := LMc27.out; omega); intro v289 w28 ho hb hg hat; rw [← Ny288.out] at ho; have n0_ := Aside0.mk (hb); have n1_ := Aside0.mk (ho); clear HB; clear HO_3; have HB := n0_; have HO290 := n1_; clear n0_ n1_; clear ho hb hg hat))
                      go_roundg kj4
                      case measure => have := HK1.out; have := HJ4.out; omega
                      case rel => exact ⟨(y288), (wrap64 (x4_1 + 1)), (by first | rfl | (simp; done) | (simp [*]; done)), H', ⟨by have := HK1.out; have := HJ4.out; omega⟩, ⟨by (with_reducible repeat (first | apply Kd.R_alloc | apply Kd.R_drewN | apply Kd.R_drew)); exact HO290.out⟩, ⟨by repeat (first | (with_reducible first | exact HB.out | apply below_alloc | apply pw_below_drewN | apply below_drew1) | exact HB.out)⟩⟩
                    · rw [if_neg c27] at H
                      exact absurd H (by simp)
                  · rw [if_neg c25] at H
                    exact absurd H (by simp)
                · rw [if_neg c24] at H
                  exact absurd H (by simp)
      · rw [if_neg c4] at H
        have c4b0 : decide (x4_1 < (a0.size : Int)) = false := decide_eq_false c4
        clear c4
        obtain rfl := Option.some.inj H
        have hcv29 := own_string (P := Tryz.prog) Tryz.underlying75 Tryz.underlying5 Tryz.underlying9 (Kd.own_of_R HO_3.out)
        go_wp2
        go_ret
        exact ⟨by first | rfl | (simp [errW_none, errW_some] <;> rfl) | (simp [*, errW_none, errW_some] <;> rfl), by repeat (first | (with_reducible first | exact HB.out | apply below_alloc | apply pw_below_drewN | apply below_drew1) | exact HB.out)⟩

/-! ### spec_TokenOf: function 23 -/
def spec_TokenOf.f (k : Nat) (a0 : ByteArray) : Option (Int × ByteArray) := (spec_KindOf.f k a0).bind fun t292 => ((spec_Told.f k a0).bind fun t293 => (some (t292, t293)))
theorem spec_TokenOf.mono : ∀ a0 k, LeO (spec_TokenOf.f k a0) (spec_TokenOf.f (k + 1) a0) := by
  intro a0 k
  unfold spec_TokenOf.f
  repeat' first
      | (with_reducible exact spec_KindOf.mono _ _)
      | (with_reducible exact spec_Told.mono _ _)
      | (with_reducible exact LeO.refl _)
      | (with_reducible exact LeO.none _)
      | (with_reducible refine LeO.ite ?_ ?_)
      | (with_reducible refine LeO.bind ?_ (fun _ => ?_))
      | exact spec_KindOf.mono _ _
      | exact spec_Told.mono _ _
      | exact LeO.none _
      | refine LeO.ite ?_ ?_
      | refine LeO.bind ?_ (fun _ => ?_)
set_option maxHeartbeats 8000000 in
set_option maxRecDepth 100000 in
theorem spec_TokenOf.calls (k : Nat) (a0 : ByteArray) (r1 : Int) (r2 : ByteArray) (w : World) (h : spec_TokenOf.f k a0 = some (r1, r2)) :
    Calls Tryz.prog 23 #[.string a0] w fun e w' => e = .returned (.agg #[.int .i64 r1, .string r2]) ∧ Below w.heap.size w w' := by
  have hu56 := Tryz.underlying56
  have HB := Aside0.mk (Below.refl w.heap.size w)
  have H : ((spec_KindOf.f k a0).bind fun t292 => ((spec_Told.f k a0).bind fun t293 => (some (t292, t293)))) = some (r1, r2) := h
  clear h
  replace H := Option.bind_eq_some_iff.mp H
  obtain ⟨t292, A20, H⟩ := H
  replace H : ((spec_Told.f k a0).bind fun t293 => (some (t292, t293))) = some (r1, r2) := H
  have A2 := Aside0.mk A20
  clear A20
  replace H := Option.bind_eq_some_iff.mp H
  obtain ⟨t293, A30, H⟩ := H
  replace H : (some (t292, t293)) = some (r1, r2) := H
  have A3 := Aside0.mk A30
  clear A30
  simp only [Option.some.injEq, Prod.mk.injEq] at H
  obtain ⟨rfl, rfl⟩ := H
  go_enter Tryz.func23, Tryz.ntmps23
  go_wp2_with (first | ((with_reducible refine gate_dst (N := 2) rfl ?_); refine box_event ?hg (N := 2) ?hd (cs := #[.int .i64 0, .string (⟨#[]⟩ : ByteArray)]) (t := 56) ?hr ?_; (case hd => rfl); (case hg => rfl); (case hr => first | (go_simp; done) | (go_simp; rfl)); intro gb291 hg w4 hbox hb; have n0_ := Aside0.mk (below_step (by repeat (first | (with_reducible first | exact HB.out | apply below_alloc | apply pw_below_drewN | apply below_drew1) | exact HB.out)) hb); have n1_ := Aside0.mk (hbox); have n2_ := Aside0.mk ((by rw [hg]; exact (below_size (by repeat (first | (with_reducible first | exact HB.out | apply below_alloc | apply pw_below_drewN | apply below_drew1) | exact HB.out))) : w.heap.size ≤ gb291)); have n3_ := Aside0.mk ((by rw [hg]; exact (below_size (by repeat (first | (with_reducible first | exact HB.out | apply below_alloc | apply pw_below_drewN | apply below_drew1) | exact HB.out))) : w.heap.size ≤ gb291)); clear HB; have HB := n0_; have BK291 := n1_; have GW291 := n2_; have GE291 := n3_; clear n0_ n1_ n2_ n3_; clear hb hbox hg) | ((with_reducible refine gate_callee (f := 24) rfl ?_); refine goesL_ (some 4) rfl rfl Tryz.func24 (by kernel_rfl) rfl #[.string a0] rfl (by (try simp only [List.map_toArray, List.map_cons, List.map_nil]); first | done | rfl | (simp only [List.length_drop, List.length_take]; rfl)) ?_; (with_reducible refine (spec_KindOf.calls k a0 t292 _ A2.out).mono ?_); rintro e w' ⟨rfl, ⟨nd, rfl⟩⟩; refine ⟨_, rfl, ?_⟩; (try (rw [drewN_self w4]; generalize hq_ : World.drewN w4 _ = w4; have n0_ : Aside0 (w4.heap[gb291]? = some (.cells #[.int .i64 0, .string (⟨#[]⟩ : ByteArray)] 56 (0, 0))) := ⟨by rw [← hq_]; exact (by (with_reducible repeat (first | refine blk_drewN ?_ _ | refine blk_drew ?_ | refine blk_alloc ?_ _)); exact BK291.out)⟩; have n1_ : Aside0 (Below w.heap.size w w4) := ⟨by rw [← hq_]; exact (by repeat (first | (with_reducible first | exact HB.out | apply below_alloc | apply pw_below_drewN | apply below_drew1 | refine below_set ?_ GE291.out) | exact HB.out))⟩; clear BK291 HB hq_; have BK291 := n0_; have HB := n1_; clear n0_ n1_))) | ((with_reducible refine gate_callee (f := 35) rfl ?_); refine goesL_ (some 6) rfl rfl Tryz.func35 (by kernel_rfl) rfl #[.string a0] rfl (by (try simp only [List.map_toArray, List.map_cons, List.map_nil]); first | done | rfl | (simp only [List.length_drop, List.length_take]; rfl)) ?_; (with_reducible refine (spec_Told.calls k a0 t293 _ A3.out).mono ?_); rintro e w5 ⟨rfl, hb⟩; refine ⟨_, rfl, ?_⟩; have n0_ := Aside0.mk (blk_below (g := gb291) (o := .cells #[.int .i64 0, .string (⟨#[]⟩ : ByteArray)] 56 (0, 0)) (by (with_reducible repeat (first | refine blk_drewN ?_ _ | refine blk_drew ?_ | refine blk_alloc ?_ _)); exact BK291.out) hb); have n1_ := Aside0.mk (below_step (by repeat (first | (with_reducible first | exact HB.out | apply below_alloc | apply pw_below_drewN | apply below_drew1 | refine below_set ?_ GE291.out) | exact HB.out)) hb); clear BK291; clear HB; have BK291 := n0_; have HB := n1_; clear n0_ n1_; (try clear hb); (try clear hb2); (try clear hk); (try clear hi); have hcz6_0 : w5.cell? ⟨gb291, 0, none⟩ = some (.int .i64 0) := (blk_cell BK291.out 0).trans rfl; have hcz6_1 : w5.cell? ⟨gb291, 1, none⟩ = some (.string (⟨#[]⟩ : ByteArray)) := (blk_cell BK291.out 1).trans rfl; have hfz6_0 := blk_frozen BK291.out 0; have hfz6_1 := blk_frozen BK291.out 1))
  refine bodyPost_ret (results_cell_row rfl _ _ gb291 56 #[.int .i64 t292, .string t293] (0, 0) _ rfl (by (with_reducible repeat (first | refine blk_drewN ?_ _ | refine blk_drew ?_ | refine blk_alloc ?_ _)); refine blk_put (cs := #[.int .i64 t292, .string (⟨#[]⟩ : ByteArray)]) ?_ 1 _ rfl; (with_reducible repeat (first | refine blk_drewN ?_ _ | refine blk_drew ?_ | refine blk_alloc ?_ _)); refine blk_put (cs := #[.int .i64 0, .string (⟨#[]⟩ : ByteArray)]) ?_ 0 _ rfl; (with_reducible repeat (first | refine blk_drewN ?_ _ | refine blk_drew ?_ | refine blk_alloc ?_ _)); exact BK291.out) Tryz.underlying56 rfl (by kernel_rfl)) rfl ?_
  exact ⟨by first | rfl | (simp [errW_none, errW_some] <;> rfl) | (simp [*, errW_none, errW_some] <;> rfl), by repeat (first | (with_reducible first | exact HB.out | apply below_alloc | apply pw_below_drewN | apply below_drew1 | refine below_set ?_ GE291.out) | exact HB.out)⟩


/-! ### laws_tokensOf: function 12 -/
def laws_tokensOf.l0 : Nat → List (S56) → List ByteArray → Int → Int → Option ((List (S56)))
  | 0, _, _, _, _ => none
  | k + 1, x3, x7, x8, x9 => if x9 < x8 then (if 0 ≤ x9 then (if x9 < (x7.length : Int) then ((spec_TokenOf.f k (rdOf ByteArray.empty x7 x9)).bind fun bt298 => (if x3.length < 5864062014805 then (laws_tokensOf.l0 k (x3 ++ [(⟨bt298.1, bt298.2⟩ : S56)]) x7 x8 (wrap64 (x9 + 1))) else (none))) else (none)) else (none)) else (some x3)
def laws_tokensOf.f (k : Nat) (l0 : List ByteArray) : Option ((List (S56))) := laws_tokensOf.l0 k (([] : List (S56))) l0 (l0.length : Int) 0
theorem laws_tokensOf.mono_l : ∀ k, (∀ y0 y1 y2 y3, LeO (laws_tokensOf.l0 k y0 y1 y2 y3) (laws_tokensOf.l0 (k + 1) y0 y1 y2 y3))
  | 0 => fun _ _ _ _ r h => by simp [laws_tokensOf.l0] at h
  | k + 1 => by
    have ih0 := laws_tokensOf.mono_l k
    · intro y0 y1 y2 y3
      unfold laws_tokensOf.l0
      repeat' first
      | (with_reducible exact ih0 _ _ _ _)
      | (with_reducible exact spec_TokenOf.mono _ _)
      | (with_reducible exact LeO.refl _)
      | (with_reducible exact LeO.none _)
      | (with_reducible refine LeO.ite ?_ ?_)
      | (with_reducible refine LeO.bind ?_ (fun _ => ?_))
      | exact ih0 _ _ _ _
      | exact spec_TokenOf.mono _ _
      | exact LeO.none _
      | refine LeO.ite ?_ ?_
      | refine LeO.bind ?_ (fun _ => ?_)
theorem laws_tokensOf.mono : ∀ a0 k, LeO (laws_tokensOf.f k a0) (laws_tokensOf.f (k + 1) a0) := by
  intro a0 k
  have ih0 := laws_tokensOf.mono_l k
  unfold laws_tokensOf.f
  repeat' first
      | (with_reducible exact ih0 _ _ _ _)
      | (with_reducible exact spec_TokenOf.mono _ _)
      | (with_reducible exact LeO.refl _)
      | (with_reducible exact LeO.none _)
      | (with_reducible refine LeO.ite ?_ ?_)
      | (with_reducible refine LeO.bind ?_ (fun _ => ?_))
      | exact ih0 _ _ _ _
      | exact spec_TokenOf.mono _ _
      | exact LeO.none _
      | refine LeO.ite ?_ ?_
      | refine LeO.bind ?_ (fun _ => ?_)
set_option maxHeartbeats 8000000 in
set_option maxRecDepth 100000 in
theorem laws_tokensOf.calls (k : Nat) (A0 : Option Addr) (c0 : Nat) (l0 : List ByteArray) (r : List (S56)) (w : World) (hr0 : Kd.C Kd.string w A0 l0.length l0) (hc0 : l0.length ≤ c0) (h : laws_tokensOf.f k l0 = some r) :
    Calls Tryz.prog 12 #[.slice A0 l0.length c0] w fun e w' => ∃ v0_ : Value, e = .returned (v0_) ∧ Kd.R k56 56 w' w.heap.size (fun _ => True) v0_ r ∧ Below w.heap.size w w' := by
  have HR0 := Aside0.mk hr0
  have HC0 := Aside0.mk hc0
  clear hr0 hc0
  have HB := Aside0.mk (Below.refl w.heap.size w)
  have H : (laws_tokensOf.l0 k (([] : List (S56))) l0 (l0.length : Int) 0) = some r := h
  clear h
  obtain ⟨y294, hy294⟩ : ∃ y_ : List (S56), y_ = (([] : List (S56))) := ⟨_, rfl⟩
  replace H : (laws_tokensOf.l0 k y294 l0 (l0.length : Int) 0) = some r := by first | (rw [hy294]; with_reducible exact H) | (have H2_ := (Option.bind_some _ _).symm.trans H; rw [hy294]; with_reducible exact H2_) | (have H2_ := (Option.bind_some _ _).symm.trans H; with_reducible exact H2_) | with_reducible exact H | (rw [hy294]; exact H) | exact H
  have Ny294 := Aside0.mk hy294
  clear hy294
  have H' := Aside0.mk H
  clear H
  go_enter Tryz.func12, Tryz.ntmps12
  go_wp2_with (first | ((with_reducible refine gate_dst (N := 6) rfl ?_); refine Kd.R_lit k56 _ 56 ?hg (N := 6) ?hd (xs := ([] : List (S56))) (inner := []) (ok := fun _ => True) (okp := fun _ => True) ?hr ?hp (fun _ hk => hk) trivial (Below.refl _ _) (Nat.le_refl _) (by simp) ?_; (case hd => rfl); (case hg => rfl); (case hr => first | (go_simp; done) | (go_simp; rfl)); (case hp => exact (Reps.none _ _)); intro v295 w2 ho3 hb hg_ hnew_; clear hg_ hnew_; (first | rw [← Ny294.out] at ho3 | (simp only [Int.reduceToNat] at ho3; rw [← Ny294.out] at ho3)); have n0_ := Aside0.mk (Kd.R_lower ho3 (below_size (by repeat (first | (with_reducible first | exact HB.out | apply below_alloc | apply pw_below_drewN | apply below_drew1) | exact HB.out)))); have n1_ := Aside0.mk (below_step (by repeat (first | (with_reducible first | exact HB.out | apply below_alloc | apply pw_below_drewN | apply below_drew1) | exact HB.out)) hb); clear HB; have HO296 := n0_; have HB := n1_; clear n0_ n1_; clear hb ho3))
  go_loopg [3, 9] k (fun kq v3 v9 w' => ∃ (x3_1 : List (S56)) (x9_1 : Int), v9 = .int .i64 x9_1 ∧ Aside0 (laws_tokensOf.l0 kq x3_1 l0 (l0.length : Int) x9_1 = some r) ∧ Aside0 (kq ≤ k) ∧ Aside0 (Kd.R k56 56 w' w.heap.size (fun _ => True) v3 x3_1) ∧ Aside0 (Below w.heap.size w w'))
  case atStart => exact ⟨(y294), (0), (by first | rfl | (simp; done) | (simp [*]; done)), H', ⟨Nat.le_refl _⟩, ⟨by (with_reducible repeat (first | apply Kd.R_alloc | apply Kd.R_drewN | apply Kd.R_drew)); exact HO296.out⟩, ⟨by repeat (first | (with_reducible first | exact HB.out | apply below_alloc | apply pw_below_drewN | apply below_drew1) | exact HB.out)⟩⟩
  case round =>
    clear H'
    try clear c1
    try clear p2
    obtain ⟨x3_1, x9_1, rfl, HA, HK1, HO_3, HB⟩ := hrel
    cases gk with
    | zero => exact absurd HA.out (by simp [laws_tokensOf.l0])
    | succ k1 =>
      have H := HA.out
      clear HA
      simp only [laws_tokensOf.l0] at H
      by_cases c4 : x9_1 < (l0.length : Int)
      · rw [if_pos c4] at H
        have c4b0 : decide (x9_1 < (l0.length : Int)) = true := decide_eq_true c4
        clear c4
        by_cases c5 : 0 ≤ x9_1
        · rw [if_pos c5] at H
          have c5b0 : decide (0 ≤ x9_1) = true := decide_eq_true c5
          clear c5
          by_cases c6 : x9_1 < (l0.length : Int)
          · rw [if_pos c6] at H
            have c6b0 : decide (x9_1 < (l0.length : Int)) = true := decide_eq_true c6
            clear c6
            replace H := Option.bind_eq_some_iff.mp H
            obtain ⟨⟨t298, t299⟩, A70, H⟩ := H
            replace H : (if x3_1.length < 5864062014805 then (laws_tokensOf.l0 k1 (x3_1 ++ [(⟨t298, t299⟩ : S56)]) l0 (l0.length : Int) (wrap64 (x9_1 + 1))) else (none)) = some r := H
            have A7 := Aside0.mk A70
            clear A70
            by_cases c8 : x3_1.length < 5864062014805
            · rw [if_pos c8] at H
              have LMc8 := Aside0.mk c8
              clear c8
              obtain ⟨y300, hy300⟩ : ∃ y_ : List (S56), y_ = (x3_1 ++ [(⟨t298, t299⟩ : S56)]) := ⟨_, rfl⟩
              replace H : (laws_tokensOf.l0 k1 y300 l0 (l0.length : Int) (wrap64 (x9_1 + 1))) = some r := by first | (rw [hy300]; with_reducible exact H) | (have H2_ := (Option.bind_some _ _).symm.trans H; rw [hy300]; with_reducible exact H2_) | (have H2_ := (Option.bind_some _ _).symm.trans H; with_reducible exact H2_) | with_reducible exact H | (rw [hy300]; exact H) | exact H
              have Ny300 := Aside0.mk hy300
              clear hy300
              have H' := Aside0.mk H
              clear H
              have p297 : 0 ≤ (x9_1 : Int) := of_decide_eq_true (by first | (with_reducible assumption) | assumption)
              have q297 : x9_1 < (l0.length : Int) := of_decide_eq_true (by first | (with_reducible assumption) | assumption)
              obtain ⟨ad297, e297, hx297_0⟩ := Kd.at_string HR0.out x9_1 p297 q297
              cases e297
              replace hx297_0 := (HB.out.cell (World.block_lt_of_cell? w _ hx297_0)).trans hx297_0
              replace p297 := eq_true p297
              replace q297 := eq_true q297
              go_wp2_with (first | ((with_reducible refine gate_callee (f := 23) rfl ?_); refine goesL_ (some 15) rfl rfl Tryz.func23 (by kernel_rfl) rfl #[.string (rdOf ByteArray.empty l0 x9_1)] rfl (by (try simp only [List.map_toArray, List.map_cons, List.map_nil]); first | done | rfl | (simp only [List.length_drop, List.length_take]; rfl)) ?_; (with_reducible refine (spec_TokenOf.calls k1 (rdOf ByteArray.empty l0 x9_1) t298 t299 _ A7.out).mono ?_); rintro e w9 ⟨rfl, hb⟩; refine ⟨_, rfl, ?_⟩; have n0_ := Aside0.mk (Kd.R_below (by (with_reducible repeat (first | apply Kd.R_alloc | apply Kd.R_drewN | apply Kd.R_drew)); exact HO_3.out) hb); have n1_ := Aside0.mk (below_step (by repeat (first | (with_reducible first | exact HB.out | apply below_alloc | apply pw_below_drewN | apply below_drew1) | exact HB.out)) hb); clear HO_3; clear HB; have HO_3 := n0_; have HB := n1_; clear n0_ n1_; (try clear hb); (try clear hb2); (try clear hk); (try clear hi)) | ((with_reducible refine gate_builtin (b := .append) (xs := #[.tmp 13, .tmp 16]) rfl ?_); at_builtin; refine Kd.R_append k56 (w0 := w) w.heap.size rfl (.tmp 13) (.tmp 16) 27 56 (.agg #[(.int .i64 0), (.string ⟨#[]⟩)]) 24 rfl Tryz.underlying27 info56 rfl (by decide) (by omega) u3 x3_1 (⟨t298, t299⟩ : S56) [.int .i64 t298, .string t299] (fun _ => True) (fun _ => False) rfl rfl ?aP (fun _ hk => hk.elim) ?aF ?aO ?aB ?aS ?aL ?_; (case aP => exact k56_mkM _ _ _ (⟨t298, t299⟩ : S56)); (case aB => exact (by repeat (first | (with_reducible first | exact HB.out | apply below_alloc | apply pw_below_drewN | apply below_drew1) | exact HB.out))); (case aF => exact (fun _ _ => trivial)); (case aO => exact (by (with_reducible repeat (first | apply Kd.R_alloc | apply Kd.R_drewN | apply Kd.R_drew)); exact HO_3.out)); (case aS => exact (below_size (by repeat (first | (with_reducible first | exact HB.out | apply below_alloc | apply pw_below_drewN | apply below_drew1) | exact HB.out)))); (case aL => have := LMc8.out; omega); intro v301 w10 ho hb hg hat; rw [← Ny300.out] at ho; have n0_ := Aside0.mk (hb); have n1_ := Aside0.mk (ho); clear HB; clear HO_3; have HB := n0_; have HO302 := n1_; clear n0_ n1_; clear ho hb hg hat))
              go_roundg k1
              case measure => have := HK1.out; omega
              case rel => exact ⟨(y300), (wrap64 (x9_1 + 1)), (by first | rfl | (simp; done) | (simp [*]; done)), H', ⟨by have := HK1.out; omega⟩, ⟨by (with_reducible repeat (first | apply Kd.R_alloc | apply Kd.R_drewN | apply Kd.R_drew)); exact HO302.out⟩, ⟨by repeat (first | (with_reducible first | exact HB.out | apply below_alloc | apply pw_below_drewN | apply below_drew1) | exact HB.out)⟩⟩
            · rw [if_neg c8] at H
              exact absurd H (by simp)
          · rw [if_neg c6] at H
            exact absurd H (by simp)
        · rw [if_neg c5] at H
          exact absurd H (by simp)
      · rw [if_neg c4] at H
        have c4b0 : decide (x9_1 < (l0.length : Int)) = false := decide_eq_false c4
        clear c4
        obtain rfl := Option.some.inj H
        go_wp2
        go_ret
        exact ⟨_, by first | rfl | (simp [errW_none, errW_some] <;> rfl) | (simp [*, errW_none, errW_some] <;> rfl), by (with_reducible repeat (first | apply Kd.R_alloc | apply Kd.R_drewN | apply Kd.R_drew)); exact HO_3.out, by repeat (first | (with_reducible first | exact HB.out | apply below_alloc | apply pw_below_drewN | apply below_drew1) | exact HB.out)⟩



end Go.Proofs.YthiododffhdooaaGreatDoor.PHelp
