/- The statements' helpers: files and tokens (by the kit's print, cut out by gen_help.py). -/
import Derived.Test.YtkoeeolmbhobkaaGreatDoorHelpA
namespace Go.Proofs.YtkoeeolmbhobkaaGreatDoor.PHelp
open Go.RowKit Go.Proofs.YtkoeeolmbhobkaaGreatDoorW.PrintWords Go.Proofs.YtkoeeolmbhobkaaGreatDoorW.PrintLast Go.Proofs.YtkoeeolmbhobkaaGreatDoorW.PrintMore
attribute [local go_sem] max2_int min2_int max_two min_two max_three min_three max_four min_four   -- for this text's walks alone
set_option linter.unusedVariables false
set_option linter.unusedSimpArgs false

attribute [local go_sem high] eqA71
/-! ### laws_fileOf: function 10 -/
def laws_fileOf.f (a0 : ByteArray) : Option ((List (S51))) := some (([(⟨(⟨#[109, 97, 105, 110, 46, 115]⟩ : ByteArray), a0⟩ : S51)] : List (S51)))
set_option maxHeartbeats 8000000 in
set_option maxRecDepth 100000 in
theorem laws_fileOf.calls (a0 : ByteArray) (r : List (S51)) (w : World) (h : laws_fileOf.f a0 = some r) :
    Calls Tryz.prog 10 #[.string a0] w fun e w' => ∃ v0_ : Value, e = .returned (v0_) ∧ Kd.R k51 51 w' w.heap.size (fun _ => True) v0_ r ∧ Below w.heap.size w w' := by
  have hu51 := Tryz.underlying51
  have HB := Aside0.mk (Below.refl w.heap.size w)
  have H : (some (([(⟨(⟨#[109, 97, 105, 110, 46, 115]⟩ : ByteArray), a0⟩ : S51)] : List (S51)))) = some r := h
  clear h
  obtain ⟨y299, hy299⟩ : ∃ y_ : List (S51), y_ = (([(⟨(⟨#[109, 97, 105, 110, 46, 115]⟩ : ByteArray), a0⟩ : S51)] : List (S51))) := ⟨_, rfl⟩
  replace H : (some y299) = some r := by first | (rw [hy299]; with_reducible exact H) | (have H2_ := (Option.bind_some _ _).symm.trans H; rw [hy299]; with_reducible exact H2_) | (have H2_ := (Option.bind_some _ _).symm.trans H; with_reducible exact H2_) | with_reducible exact H | (rw [hy299]; exact H) | exact H
  have Ny299 := Aside0.mk hy299
  clear hy299
  obtain rfl := Option.some.inj H
  go_enter Tryz.func10, Tryz.ntmps10
  go_wp2_with (first | ((with_reducible refine gate_dst (N := 5) rfl ?_); refine Kd.R_lit k51 _ 51 ?hg (N := 5) ?hd (xs := ([(⟨(⟨#[109, 97, 105, 110, 46, 115]⟩ : ByteArray), a0⟩ : S51)] : List (S51))) (inner := [.string (⟨#[109, 97, 105, 110, 46, 115]⟩ : ByteArray), .string a0]) (ok := fun _ => True) (okp := fun _ => True) ?hr ?hp (fun _ hk => hk) trivial (Below.refl _ _) (Nat.le_refl _) (by simp) ?_; (case hd => rfl); (case hg => rfl); (case hr => first | (go_simp; done) | (go_simp; rfl)); (case hp => exact (Reps.c2 (show Kd.M k51 _ _ _ (⟨(⟨#[109, 97, 105, 110, 46, 115]⟩ : ByteArray), a0⟩ : S51) [.string (⟨#[109, 97, 105, 110, 46, 115]⟩ : ByteArray), .string a0] from (k51_mkM _ _ _ (⟨(⟨#[109, 97, 105, 110, 46, 115]⟩ : ByteArray), a0⟩ : S51) )) (Reps.none _ _))); intro v300 w2 ho3 hb hg_ hnew_; clear hg_ hnew_; (first | rw [← Ny299.out] at ho3 | (simp only [Int.reduceToNat] at ho3; rw [← Ny299.out] at ho3)); have n0_ := Aside0.mk (Kd.R_lower ho3 (below_size (by repeat (first | (with_reducible first | exact HB.out | apply below_alloc | apply pw_below_drewN | apply below_drew1) | exact HB.out)))); have n1_ := Aside0.mk (below_step (by repeat (first | (with_reducible first | exact HB.out | apply below_alloc | apply pw_below_drewN | apply below_drew1) | exact HB.out)) hb); clear HB; have HO301 := n0_; have HB := n1_; clear n0_ n1_; clear hb ho3))
  go_ret
  exact ⟨_, by first | rfl | (simp [errW_none, errW_some] <;> rfl) | (simp [*, errW_none, errW_some] <;> rfl), by (with_reducible repeat (first | apply Kd.R_alloc | apply Kd.R_drewN | apply Kd.R_drew)); exact HO301.out, by repeat (first | (with_reducible first | exact HB.out | apply below_alloc | apply pw_below_drewN | apply below_drew1) | exact HB.out)⟩

/-! ### spec_SameTokens: function 13 -/
def spec_SameTokens.l0 : Nat → List (S71) → List (S71) → Int → Int → Option (Bool)
  | 0, _, _, _, _ => none
  | k + 1, x1, x12, x13, x14 => if x14 < x13 then (if 0 ≤ x14 then (if x14 < (x12.length : Int) then (if x14 < (x1.length : Int) then (if (!(((rd_T71 x12 x14).f0) == ((rd_T71 x1 x14).f0)) || (!((((rd_T71 x12 x14).f1).toList) == (((rd_T71 x1 x14).f1).toList)))) = true then (some false) else (spec_SameTokens.l0 k x1 x12 x13 (wrap64 (x14 + 1)))) else (none)) else (none)) else (none)) else (some true)
def spec_SameTokens.f (k : Nat) (l0 : List (S71)) (l1 : List (S71)) : Option (Bool) := if (l0.length : Int) = (l1.length : Int) then (spec_SameTokens.l0 k l1 l0 (l0.length : Int) 0) else (some false)
theorem spec_SameTokens.mono_l : ∀ k, (∀ y0 y1 y2 y3, LeO (spec_SameTokens.l0 k y0 y1 y2 y3) (spec_SameTokens.l0 (k + 1) y0 y1 y2 y3))
  | 0 => fun _ _ _ _ r h => by simp [spec_SameTokens.l0] at h
  | k + 1 => by
    have ih0 := spec_SameTokens.mono_l k
    · intro y0 y1 y2 y3
      unfold spec_SameTokens.l0
      repeat' first
      | (with_reducible exact ih0 _ _ _ _)
      | (with_reducible exact LeO.refl _)
      | (with_reducible exact LeO.none _)
      | (with_reducible refine LeO.ite ?_ ?_)
      | (with_reducible refine LeO.bind ?_ (fun _ => ?_))
      | exact ih0 _ _ _ _
      | exact LeO.none _
      | refine LeO.ite ?_ ?_
      | refine LeO.bind ?_ (fun _ => ?_)
theorem spec_SameTokens.mono : ∀ a0 a1 k, LeO (spec_SameTokens.f k a0 a1) (spec_SameTokens.f (k + 1) a0 a1) := by
  intro a0 a1 k
  have ih0 := spec_SameTokens.mono_l k
  unfold spec_SameTokens.f
  repeat' first
      | (with_reducible exact ih0 _ _ _ _)
      | (with_reducible exact LeO.refl _)
      | (with_reducible exact LeO.none _)
      | (with_reducible refine LeO.ite ?_ ?_)
      | (with_reducible refine LeO.bind ?_ (fun _ => ?_))
      | exact ih0 _ _ _ _
      | exact LeO.none _
      | refine LeO.ite ?_ ?_
      | refine LeO.bind ?_ (fun _ => ?_)
set_option maxHeartbeats 8000000 in
set_option maxRecDepth 100000 in
theorem spec_SameTokens.calls (k : Nat) (A0 : Option Addr) (c0 : Nat) (l0 : List (S71)) (A1 : Option Addr) (c1 : Nat) (l1 : List (S71)) (r : Bool) (w : World) (hr0 : Kd.C k71 w A0 l0.length l0) (hc0 : l0.length ≤ c0) (hr1 : Kd.C k71 w A1 l1.length l1) (hc1 : l1.length ≤ c1) (h : spec_SameTokens.f k l0 l1 = some r) :
    Calls Tryz.prog 13 #[.slice A0 l0.length c0, .slice A1 l1.length c1] w fun e w' => e = .returned (.bool r) ∧ Below w.heap.size w w' := by
  have hu71 := Tryz.underlying71
  have HR0 := Aside0.mk hr0
  have HC0 := Aside0.mk hc0
  clear hr0 hc0
  have HR1 := Aside0.mk hr1
  have HC1 := Aside0.mk hc1
  clear hr1 hc1
  have HB := Aside0.mk (Below.refl w.heap.size w)
  have H : (if (l0.length : Int) = (l1.length : Int) then (spec_SameTokens.l0 k l1 l0 (l0.length : Int) 0) else (some false)) = some r := h
  clear h
  by_cases c3 : (l0.length : Int) = (l1.length : Int)
  · rw [if_pos c3] at H
    have c3b0 : ((l0.length : Int) == (l1.length : Int)) = true := beq_iff_eq.mpr c3
    have c3b1 : ((l0.length : Int) != (l1.length : Int)) = false := bne_eq_false_iff_eq.mpr c3
    have c3b2 : (l0.length == l1.length) = true := by first | simpa using c3 | (simp at c3 ⊢; omega)
    clear c3
    have H' := Aside0.mk H
    clear H
    go_enter Tryz.func13, Tryz.ntmps13
    go_wp2
    repeat (go_quiet (fail); try go_wp2)
    go_loopg [14] k (fun kq v14 w' => ∃ (x14_1 : Int), v14 = .int .i64 x14_1 ∧ Aside0 (spec_SameTokens.l0 kq l1 l0 (l0.length : Int) x14_1 = some r) ∧ Aside0 (kq ≤ k) ∧ Aside0 (Below w.heap.size w w'))
    case atStart => exact ⟨(0), (by first | rfl | (simp; done) | (simp [*]; done)), H', ⟨Nat.le_refl _⟩, ⟨by repeat (first | (with_reducible first | exact HB.out | apply below_alloc | apply pw_below_drewN | apply below_drew1) | exact HB.out)⟩⟩
    case round =>
      clear H'
      try clear c1
      try clear p2
      try clear c3
      try clear c3b0
      try clear c3b1
      try clear c3b2
      obtain ⟨x14_1, rfl, HA, HK1, HB⟩ := hrel
      cases gk with
      | zero => exact absurd HA.out (by simp [spec_SameTokens.l0])
      | succ k1 =>
        have H := HA.out
        clear HA
        simp only [spec_SameTokens.l0] at H
        by_cases c4 : x14_1 < (l0.length : Int)
        · rw [if_pos c4] at H
          have c4b0 : decide (x14_1 < (l0.length : Int)) = true := decide_eq_true c4
          clear c4
          by_cases c5 : 0 ≤ x14_1
          · rw [if_pos c5] at H
            have c5b0 : decide (0 ≤ x14_1) = true := decide_eq_true c5
            clear c5
            by_cases c6 : x14_1 < (l0.length : Int)
            · rw [if_pos c6] at H
              have c6b0 : decide (x14_1 < (l0.length : Int)) = true := decide_eq_true c6
              clear c6
              by_cases c7 : x14_1 < (l1.length : Int)
              · rw [if_pos c7] at H
                have c7b0 : decide (x14_1 < (l1.length : Int)) = true := decide_eq_true c7
                clear c7
                by_cases c8 : (!(((rd_T71 l0 x14_1).f0) == ((rd_T71 l1 x14_1).f0)) || (!((((rd_T71 l0 x14_1).f1).toList) == (((rd_T71 l1 x14_1).f1).toList)))) = true
                · rw [if_pos c8] at H
                  have c8b0 : (!(((rd_T71 l0 x14_1).f0) == ((rd_T71 l1 x14_1).f0)) || (!((((rd_T71 l0 x14_1).f1).toList) == (((rd_T71 l1 x14_1).f1).toList)))) = true := c8
                  clear c8
                  obtain rfl := Option.some.inj H
                  have p318 : 0 ≤ (x14_1 : Int) := of_decide_eq_true (by first | (with_reducible assumption) | assumption)
                  have q318 : x14_1 < (l0.length : Int) := of_decide_eq_true (by first | (with_reducible assumption) | assumption)
                  obtain ⟨ad318, e318, hx318_0, hx318_1⟩ := at_T71 HR0.out x14_1 p318 q318
                  cases e318
                  replace hx318_0 := (HB.out.cell (World.block_lt_of_cell? w _ hx318_0)).trans hx318_0
                  replace hx318_1 := (HB.out.cell (World.block_lt_of_cell? w _ hx318_1)).trans hx318_1
                  replace p318 := eq_true p318
                  replace q318 := eq_true q318
                  go_wp2_with (first | ((with_reducible refine gate_dst (N := 6) rfl ?_); refine box_event ?hg (N := 6) ?hd (cs := #[.int .i64 0, .string (⟨#[]⟩ : ByteArray)]) (t := 71) ?hr ?_; (case hd => rfl); (case hg => rfl); (case hr => first | (go_simp; done) | (go_simp; rfl)); intro gb319 hg w9 hbox hb; have n0_ := Aside0.mk (below_step (by repeat (first | (with_reducible first | exact HB.out | apply below_alloc | apply pw_below_drewN | apply below_drew1) | exact HB.out)) hb); have n1_ := Aside0.mk (hbox); have n2_ := Aside0.mk ((by rw [hg]; exact (below_size (by repeat (first | (with_reducible first | exact HB.out | apply below_alloc | apply pw_below_drewN | apply below_drew1) | exact HB.out))) : w.heap.size ≤ gb319)); have n3_ := Aside0.mk ((by rw [hg]; exact (below_size (by repeat (first | (with_reducible first | exact HB.out | apply below_alloc | apply pw_below_drewN | apply below_drew1) | exact HB.out))) : w.heap.size ≤ gb319)); clear HB; have HB := n0_; have BK319 := n1_; have GW319 := n2_; have GE319 := n3_; clear n0_ n1_ n2_ n3_; clear hb hbox hg; have hcz10_0 : w9.cell? ⟨gb319, 0, none⟩ = some (.int .i64 0) := (blk_cell BK319.out 0).trans rfl; have hcz10_1 : w9.cell? ⟨gb319, 1, none⟩ = some (.string (⟨#[]⟩ : ByteArray)) := (blk_cell BK319.out 1).trans rfl; have hfz10_0 := blk_frozen BK319.out 0; have hfz10_1 := blk_frozen BK319.out 1; have p320 : 0 ≤ (x14_1 : Int) := of_decide_eq_true (by first | (with_reducible assumption) | assumption); have q320 : x14_1 < (l1.length : Int) := of_decide_eq_true (by first | (with_reducible assumption) | assumption); obtain ⟨ad320, e320, hx320_0, hx320_1⟩ := at_T71 HR1.out x14_1 p320 q320; cases e320; have hn320_0 : ad320.block ≠ gb319 := Nat.ne_of_lt (Nat.lt_of_lt_of_le (by have := World.block_lt_of_cell? _ _ hx320_0; first | rwa [add_block] at this | exact this) GW319.out); have hn320_1 : ad320.block ≠ gb319 := Nat.ne_of_lt (Nat.lt_of_lt_of_le (by have := World.block_lt_of_cell? _ _ hx320_0; first | rwa [add_block] at this | exact this) GW319.out); replace hx320_0 := (HB.out.cell (World.block_lt_of_cell? w _ hx320_0)).trans hx320_0; replace hx320_1 := (HB.out.cell (World.block_lt_of_cell? w _ hx320_1)).trans hx320_1; replace hx320_0 := (cell_far (p := ⟨gb319, 0, none⟩) (by first | (rw [add_block]; exact hn320_0) | (show (Addr.add _ _).block ≠ _; rw [add_block]; exact hn320_0) | exact hn320_0) (.int .i64 ((rd_T71 l0 x14_1).f0))).trans hx320_0; replace hx320_1 := (cell_far (p := ⟨gb319, 0, none⟩) (by first | (rw [add_block]; exact hn320_0) | (show (Addr.add _ _).block ≠ _; rw [add_block]; exact hn320_0) | exact hn320_0) (.int .i64 ((rd_T71 l0 x14_1).f0))).trans hx320_1; replace hx320_0 := (cell_far (p := ⟨gb319, 1, none⟩) (by first | (rw [add_block]; exact hn320_1) | (show (Addr.add _ _).block ≠ _; rw [add_block]; exact hn320_1) | exact hn320_1) (.string ((rd_T71 l0 x14_1).f1))).trans hx320_0; replace hx320_1 := (cell_far (p := ⟨gb319, 1, none⟩) (by first | (rw [add_block]; exact hn320_1) | (show (Addr.add _ _).block ≠ _; rw [add_block]; exact hn320_1) | exact hn320_1) (.string ((rd_T71 l0 x14_1).f1))).trans hx320_1; (try have hy320_0 := fun (n_ : Nat) => (show ((((w9.drewN n_).setCell ⟨gb319, 0, none⟩ (.int .i64 ((rd_T71 l0 x14_1).f0))).setCell ⟨gb319, 1, none⟩ (.string ((rd_T71 l0 x14_1).f1)))).cell? _ = some _ from hx320_0)); (try have hy320_1 := fun (n_ : Nat) => (show ((((w9.drewN n_).setCell ⟨gb319, 0, none⟩ (.int .i64 ((rd_T71 l0 x14_1).f0))).setCell ⟨gb319, 1, none⟩ (.string ((rd_T71 l0 x14_1).f1)))).cell? _ = some _ from hx320_1)); clear hn320_0; clear hn320_1; replace p320 := eq_true p320; replace q320 := eq_true q320))
                  repeat (go_quiet (first | ((with_reducible refine gate_dst (N := 6) rfl ?_); refine box_event ?hg (N := 6) ?hd (cs := #[.int .i64 0, .string (⟨#[]⟩ : ByteArray)]) (t := 71) ?hr ?_; (case hd => rfl); (case hg => rfl); (case hr => first | (go_simp; done) | (go_simp; rfl)); intro gb319 hg w9 hbox hb; have n0_ := Aside0.mk (below_step (by repeat (first | (with_reducible first | exact HB.out | apply below_alloc | apply pw_below_drewN | apply below_drew1) | exact HB.out)) hb); have n1_ := Aside0.mk (hbox); have n2_ := Aside0.mk ((by rw [hg]; exact (below_size (by repeat (first | (with_reducible first | exact HB.out | apply below_alloc | apply pw_below_drewN | apply below_drew1) | exact HB.out))) : w.heap.size ≤ gb319)); have n3_ := Aside0.mk ((by rw [hg]; exact (below_size (by repeat (first | (with_reducible first | exact HB.out | apply below_alloc | apply pw_below_drewN | apply below_drew1) | exact HB.out))) : w.heap.size ≤ gb319)); clear HB; have HB := n0_; have BK319 := n1_; have GW319 := n2_; have GE319 := n3_; clear n0_ n1_ n2_ n3_; clear hb hbox hg; have hcz10_0 : w9.cell? ⟨gb319, 0, none⟩ = some (.int .i64 0) := (blk_cell BK319.out 0).trans rfl; have hcz10_1 : w9.cell? ⟨gb319, 1, none⟩ = some (.string (⟨#[]⟩ : ByteArray)) := (blk_cell BK319.out 1).trans rfl; have hfz10_0 := blk_frozen BK319.out 0; have hfz10_1 := blk_frozen BK319.out 1; have p320 : 0 ≤ (x14_1 : Int) := of_decide_eq_true (by first | (with_reducible assumption) | assumption); have q320 : x14_1 < (l1.length : Int) := of_decide_eq_true (by first | (with_reducible assumption) | assumption); obtain ⟨ad320, e320, hx320_0, hx320_1⟩ := at_T71 HR1.out x14_1 p320 q320; cases e320; have hn320_0 : ad320.block ≠ gb319 := Nat.ne_of_lt (Nat.lt_of_lt_of_le (by have := World.block_lt_of_cell? _ _ hx320_0; first | rwa [add_block] at this | exact this) GW319.out); have hn320_1 : ad320.block ≠ gb319 := Nat.ne_of_lt (Nat.lt_of_lt_of_le (by have := World.block_lt_of_cell? _ _ hx320_0; first | rwa [add_block] at this | exact this) GW319.out); replace hx320_0 := (HB.out.cell (World.block_lt_of_cell? w _ hx320_0)).trans hx320_0; replace hx320_1 := (HB.out.cell (World.block_lt_of_cell? w _ hx320_1)).trans hx320_1; replace hx320_0 := (cell_far (p := ⟨gb319, 0, none⟩) (by first | (rw [add_block]; exact hn320_0) | (show (Addr.add _ _).block ≠ _; rw [add_block]; exact hn320_0) | exact hn320_0) (.int .i64 ((rd_T71 l0 x14_1).f0))).trans hx320_0; replace hx320_1 := (cell_far (p := ⟨gb319, 0, none⟩) (by first | (rw [add_block]; exact hn320_0) | (show (Addr.add _ _).block ≠ _; rw [add_block]; exact hn320_0) | exact hn320_0) (.int .i64 ((rd_T71 l0 x14_1).f0))).trans hx320_1; replace hx320_0 := (cell_far (p := ⟨gb319, 1, none⟩) (by first | (rw [add_block]; exact hn320_1) | (show (Addr.add _ _).block ≠ _; rw [add_block]; exact hn320_1) | exact hn320_1) (.string ((rd_T71 l0 x14_1).f1))).trans hx320_0; replace hx320_1 := (cell_far (p := ⟨gb319, 1, none⟩) (by first | (rw [add_block]; exact hn320_1) | (show (Addr.add _ _).block ≠ _; rw [add_block]; exact hn320_1) | exact hn320_1) (.string ((rd_T71 l0 x14_1).f1))).trans hx320_1; (try have hy320_0 := fun (n_ : Nat) => (show ((((w9.drewN n_).setCell ⟨gb319, 0, none⟩ (.int .i64 ((rd_T71 l0 x14_1).f0))).setCell ⟨gb319, 1, none⟩ (.string ((rd_T71 l0 x14_1).f1)))).cell? _ = some _ from hx320_0)); (try have hy320_1 := fun (n_ : Nat) => (show ((((w9.drewN n_).setCell ⟨gb319, 0, none⟩ (.int .i64 ((rd_T71 l0 x14_1).f0))).setCell ⟨gb319, 1, none⟩ (.string ((rd_T71 l0 x14_1).f1)))).cell? _ = some _ from hx320_1)); clear hn320_0; clear hn320_1; replace p320 := eq_true p320; replace q320 := eq_true q320)); try go_wp2_with (first | ((with_reducible refine gate_dst (N := 6) rfl ?_); refine box_event ?hg (N := 6) ?hd (cs := #[.int .i64 0, .string (⟨#[]⟩ : ByteArray)]) (t := 71) ?hr ?_; (case hd => rfl); (case hg => rfl); (case hr => first | (go_simp; done) | (go_simp; rfl)); intro gb319 hg w9 hbox hb; have n0_ := Aside0.mk (below_step (by repeat (first | (with_reducible first | exact HB.out | apply below_alloc | apply pw_below_drewN | apply below_drew1) | exact HB.out)) hb); have n1_ := Aside0.mk (hbox); have n2_ := Aside0.mk ((by rw [hg]; exact (below_size (by repeat (first | (with_reducible first | exact HB.out | apply below_alloc | apply pw_below_drewN | apply below_drew1) | exact HB.out))) : w.heap.size ≤ gb319)); have n3_ := Aside0.mk ((by rw [hg]; exact (below_size (by repeat (first | (with_reducible first | exact HB.out | apply below_alloc | apply pw_below_drewN | apply below_drew1) | exact HB.out))) : w.heap.size ≤ gb319)); clear HB; have HB := n0_; have BK319 := n1_; have GW319 := n2_; have GE319 := n3_; clear n0_ n1_ n2_ n3_; clear hb hbox hg; have hcz10_0 : w9.cell? ⟨gb319, 0, none⟩ = some (.int .i64 0) := (blk_cell BK319.out 0).trans rfl; have hcz10_1 : w9.cell? ⟨gb319, 1, none⟩ = some (.string (⟨#[]⟩ : ByteArray)) := (blk_cell BK319.out 1).trans rfl; have hfz10_0 := blk_frozen BK319.out 0; have hfz10_1 := blk_frozen BK319.out 1; have p320 : 0 ≤ (x14_1 : Int) := of_decide_eq_true (by first | (with_reducible assumption) | assumption); have q320 : x14_1 < (l1.length : Int) := of_decide_eq_true (by first | (with_reducible assumption) | assumption); obtain ⟨ad320, e320, hx320_0, hx320_1⟩ := at_T71 HR1.out x14_1 p320 q320; cases e320; have hn320_0 : ad320.block ≠ gb319 := Nat.ne_of_lt (Nat.lt_of_lt_of_le (by have := World.block_lt_of_cell? _ _ hx320_0; first | rwa [add_block] at this | exact this) GW319.out); have hn320_1 : ad320.block ≠ gb319 := Nat.ne_of_lt (Nat.lt_of_lt_of_le (by have := World.block_lt_of_cell? _ _ hx320_0; first | rwa [add_block] at this | exact this) GW319.out); replace hx320_0 := (HB.out.cell (World.block_lt_of_cell? w _ hx320_0)).trans hx320_0; replace hx320_1 := (HB.out.cell (World.block_lt_of_cell? w _ hx320_1)).trans hx320_1; replace hx320_0 := (cell_far (p := ⟨gb319, 0, none⟩) (by first | (rw [add_block]; exact hn320_0) | (show (Addr.add _ _).block ≠ _; rw [add_block]; exact hn320_0) | exact hn320_0) (.int .i64 ((rd_T71 l0 x14_1).f0))).trans hx320_0; replace hx320_1 := (cell_far (p := ⟨gb319, 0, none⟩) (by first | (rw [add_block]; exact hn320_0) | (show (Addr.add _ _).block ≠ _; rw [add_block]; exact hn320_0) | exact hn320_0) (.int .i64 ((rd_T71 l0 x14_1).f0))).trans hx320_1; replace hx320_0 := (cell_far (p := ⟨gb319, 1, none⟩) (by first | (rw [add_block]; exact hn320_1) | (show (Addr.add _ _).block ≠ _; rw [add_block]; exact hn320_1) | exact hn320_1) (.string ((rd_T71 l0 x14_1).f1))).trans hx320_0; replace hx320_1 := (cell_far (p := ⟨gb319, 1, none⟩) (by first | (rw [add_block]; exact hn320_1) | (show (Addr.add _ _).block ≠ _; rw [add_block]; exact hn320_1) | exact hn320_1) (.string ((rd_T71 l0 x14_1).f1))).trans hx320_1; (try have hy320_0 := fun (n_ : Nat) => (show ((((w9.drewN n_).setCell ⟨gb319, 0, none⟩ (.int .i64 ((rd_T71 l0 x14_1).f0))).setCell ⟨gb319, 1, none⟩ (.string ((rd_T71 l0 x14_1).f1)))).cell? _ = some _ from hx320_0)); (try have hy320_1 := fun (n_ : Nat) => (show ((((w9.drewN n_).setCell ⟨gb319, 0, none⟩ (.int .i64 ((rd_T71 l0 x14_1).f0))).setCell ⟨gb319, 1, none⟩ (.string ((rd_T71 l0 x14_1).f1)))).cell? _ = some _ from hx320_1)); clear hn320_0; clear hn320_1; replace p320 := eq_true p320; replace q320 := eq_true q320)))
                  go_ret
                  exact ⟨by first | rfl | (simp [errW_none, errW_some] <;> rfl) | (simp [*, errW_none, errW_some] <;> rfl), by repeat (first | (with_reducible first | exact HB.out | apply below_alloc | apply pw_below_drewN | apply below_drew1 | refine below_set ?_ GE319.out) | exact HB.out)⟩
                · rw [if_neg c8] at H
                  have c8b0 : (!(((rd_T71 l0 x14_1).f0) == ((rd_T71 l1 x14_1).f0)) || (!((((rd_T71 l0 x14_1).f1).toList) == (((rd_T71 l1 x14_1).f1).toList)))) = false := by simpa using c8
                  clear c8
                  have H' := Aside0.mk H
                  clear H
                  have p318 : 0 ≤ (x14_1 : Int) := of_decide_eq_true (by first | (with_reducible assumption) | assumption)
                  have q318 : x14_1 < (l0.length : Int) := of_decide_eq_true (by first | (with_reducible assumption) | assumption)
                  obtain ⟨ad318, e318, hx318_0, hx318_1⟩ := at_T71 HR0.out x14_1 p318 q318
                  cases e318
                  replace hx318_0 := (HB.out.cell (World.block_lt_of_cell? w _ hx318_0)).trans hx318_0
                  replace hx318_1 := (HB.out.cell (World.block_lt_of_cell? w _ hx318_1)).trans hx318_1
                  replace p318 := eq_true p318
                  replace q318 := eq_true q318
                  go_wp2_with (first | ((with_reducible refine gate_dst (N := 6) rfl ?_); refine box_event ?hg (N := 6) ?hd (cs := #[.int .i64 0, .string (⟨#[]⟩ : ByteArray)]) (t := 71) ?hr ?_; (case hd => rfl); (case hg => rfl); (case hr => first | (go_simp; done) | (go_simp; rfl)); intro gb319 hg w11 hbox hb; have n0_ := Aside0.mk (below_step (by repeat (first | (with_reducible first | exact HB.out | apply below_alloc | apply pw_below_drewN | apply below_drew1) | exact HB.out)) hb); have n1_ := Aside0.mk (hbox); have n2_ := Aside0.mk ((by rw [hg]; exact (below_size (by repeat (first | (with_reducible first | exact HB.out | apply below_alloc | apply pw_below_drewN | apply below_drew1) | exact HB.out))) : w.heap.size ≤ gb319)); have n3_ := Aside0.mk ((by rw [hg]; exact (below_size (by repeat (first | (with_reducible first | exact HB.out | apply below_alloc | apply pw_below_drewN | apply below_drew1) | exact HB.out))) : w.heap.size ≤ gb319)); clear HB; have HB := n0_; have BK319 := n1_; have GW319 := n2_; have GE319 := n3_; clear n0_ n1_ n2_ n3_; clear hb hbox hg; have hcz12_0 : w11.cell? ⟨gb319, 0, none⟩ = some (.int .i64 0) := (blk_cell BK319.out 0).trans rfl; have hcz12_1 : w11.cell? ⟨gb319, 1, none⟩ = some (.string (⟨#[]⟩ : ByteArray)) := (blk_cell BK319.out 1).trans rfl; have hfz12_0 := blk_frozen BK319.out 0; have hfz12_1 := blk_frozen BK319.out 1; have p320 : 0 ≤ (x14_1 : Int) := of_decide_eq_true (by first | (with_reducible assumption) | assumption); have q320 : x14_1 < (l1.length : Int) := of_decide_eq_true (by first | (with_reducible assumption) | assumption); obtain ⟨ad320, e320, hx320_0, hx320_1⟩ := at_T71 HR1.out x14_1 p320 q320; cases e320; have hn320_0 : ad320.block ≠ gb319 := Nat.ne_of_lt (Nat.lt_of_lt_of_le (by have := World.block_lt_of_cell? _ _ hx320_0; first | rwa [add_block] at this | exact this) GW319.out); have hn320_1 : ad320.block ≠ gb319 := Nat.ne_of_lt (Nat.lt_of_lt_of_le (by have := World.block_lt_of_cell? _ _ hx320_0; first | rwa [add_block] at this | exact this) GW319.out); replace hx320_0 := (HB.out.cell (World.block_lt_of_cell? w _ hx320_0)).trans hx320_0; replace hx320_1 := (HB.out.cell (World.block_lt_of_cell? w _ hx320_1)).trans hx320_1; replace hx320_0 := (cell_far (p := ⟨gb319, 0, none⟩) (by first | (rw [add_block]; exact hn320_0) | (show (Addr.add _ _).block ≠ _; rw [add_block]; exact hn320_0) | exact hn320_0) (.int .i64 ((rd_T71 l0 x14_1).f0))).trans hx320_0; replace hx320_1 := (cell_far (p := ⟨gb319, 0, none⟩) (by first | (rw [add_block]; exact hn320_0) | (show (Addr.add _ _).block ≠ _; rw [add_block]; exact hn320_0) | exact hn320_0) (.int .i64 ((rd_T71 l0 x14_1).f0))).trans hx320_1; replace hx320_0 := (cell_far (p := ⟨gb319, 1, none⟩) (by first | (rw [add_block]; exact hn320_1) | (show (Addr.add _ _).block ≠ _; rw [add_block]; exact hn320_1) | exact hn320_1) (.string ((rd_T71 l0 x14_1).f1))).trans hx320_0; replace hx320_1 := (cell_far (p := ⟨gb319, 1, none⟩) (by first | (rw [add_block]; exact hn320_1) | (show (Addr.add _ _).block ≠ _; rw [add_block]; exact hn320_1) | exact hn320_1) (.string ((rd_T71 l0 x14_1).f1))).trans hx320_1; (try have hy320_0 := fun (n_ : Nat) => (show ((((w11.drewN n_).setCell ⟨gb319, 0, none⟩ (.int .i64 ((rd_T71 l0 x14_1).f0))).setCell ⟨gb319, 1, none⟩ (.string ((rd_T71 l0 x14_1).f1)))).cell? _ = some _ from hx320_0)); (try have hy320_1 := fun (n_ : Nat) => (show ((((w11.drewN n_).setCell ⟨gb319, 0, none⟩ (.int .i64 ((rd_T71 l0 x14_1).f0))).setCell ⟨gb319, 1, none⟩ (.string ((rd_T71 l0 x14_1).f1)))).cell? _ = some _ from hx320_1)); clear hn320_0; clear hn320_1; replace p320 := eq_true p320; replace q320 := eq_true q320))
                  repeat (go_quiet (first | ((with_reducible refine gate_dst (N := 6) rfl ?_); refine box_event ?hg (N := 6) ?hd (cs := #[.int .i64 0, .string (⟨#[]⟩ : ByteArray)]) (t := 71) ?hr ?_; (case hd => rfl); (case hg => rfl); (case hr => first | (go_simp; done) | (go_simp; rfl)); intro gb319 hg w11 hbox hb; have n0_ := Aside0.mk (below_step (by repeat (first | (with_reducible first | exact HB.out | apply below_alloc | apply pw_below_drewN | apply below_drew1) | exact HB.out)) hb); have n1_ := Aside0.mk (hbox); have n2_ := Aside0.mk ((by rw [hg]; exact (below_size (by repeat (first | (with_reducible first | exact HB.out | apply below_alloc | apply pw_below_drewN | apply below_drew1) | exact HB.out))) : w.heap.size ≤ gb319)); have n3_ := Aside0.mk ((by rw [hg]; exact (below_size (by repeat (first | (with_reducible first | exact HB.out | apply below_alloc | apply pw_below_drewN | apply below_drew1) | exact HB.out))) : w.heap.size ≤ gb319)); clear HB; have HB := n0_; have BK319 := n1_; have GW319 := n2_; have GE319 := n3_; clear n0_ n1_ n2_ n3_; clear hb hbox hg; have hcz12_0 : w11.cell? ⟨gb319, 0, none⟩ = some (.int .i64 0) := (blk_cell BK319.out 0).trans rfl; have hcz12_1 : w11.cell? ⟨gb319, 1, none⟩ = some (.string (⟨#[]⟩ : ByteArray)) := (blk_cell BK319.out 1).trans rfl; have hfz12_0 := blk_frozen BK319.out 0; have hfz12_1 := blk_frozen BK319.out 1; have p320 : 0 ≤ (x14_1 : Int) := of_decide_eq_true (by first | (with_reducible assumption) | assumption); have q320 : x14_1 < (l1.length : Int) := of_decide_eq_true (by first | (with_reducible assumption) | assumption); obtain ⟨ad320, e320, hx320_0, hx320_1⟩ := at_T71 HR1.out x14_1 p320 q320; cases e320; have hn320_0 : ad320.block ≠ gb319 := Nat.ne_of_lt (Nat.lt_of_lt_of_le (by have := World.block_lt_of_cell? _ _ hx320_0; first | rwa [add_block] at this | exact this) GW319.out); have hn320_1 : ad320.block ≠ gb319 := Nat.ne_of_lt (Nat.lt_of_lt_of_le (by have := World.block_lt_of_cell? _ _ hx320_0; first | rwa [add_block] at this | exact this) GW319.out); replace hx320_0 := (HB.out.cell (World.block_lt_of_cell? w _ hx320_0)).trans hx320_0; replace hx320_1 := (HB.out.cell (World.block_lt_of_cell? w _ hx320_1)).trans hx320_1; replace hx320_0 := (cell_far (p := ⟨gb319, 0, none⟩) (by first | (rw [add_block]; exact hn320_0) | (show (Addr.add _ _).block ≠ _; rw [add_block]; exact hn320_0) | exact hn320_0) (.int .i64 ((rd_T71 l0 x14_1).f0))).trans hx320_0; replace hx320_1 := (cell_far (p := ⟨gb319, 0, none⟩) (by first | (rw [add_block]; exact hn320_0) | (show (Addr.add _ _).block ≠ _; rw [add_block]; exact hn320_0) | exact hn320_0) (.int .i64 ((rd_T71 l0 x14_1).f0))).trans hx320_1; replace hx320_0 := (cell_far (p := ⟨gb319, 1, none⟩) (by first | (rw [add_block]; exact hn320_1) | (show (Addr.add _ _).block ≠ _; rw [add_block]; exact hn320_1) | exact hn320_1) (.string ((rd_T71 l0 x14_1).f1))).trans hx320_0; replace hx320_1 := (cell_far (p := ⟨gb319, 1, none⟩) (by first | (rw [add_block]; exact hn320_1) | (show (Addr.add _ _).block ≠ _; rw [add_block]; exact hn320_1) | exact hn320_1) (.string ((rd_T71 l0 x14_1).f1))).trans hx320_1; (try have hy320_0 := fun (n_ : Nat) => (show ((((w11.drewN n_).setCell ⟨gb319, 0, none⟩ (.int .i64 ((rd_T71 l0 x14_1).f0))).setCell ⟨gb319, 1, none⟩ (.string ((rd_T71 l0 x14_1).f1)))).cell? _ = some _ from hx320_0)); (try have hy320_1 := fun (n_ : Nat) => (show ((((w11.drewN n_).setCell ⟨gb319, 0, none⟩ (.int .i64 ((rd_T71 l0 x14_1).f0))).setCell ⟨gb319, 1, none⟩ (.string ((rd_T71 l0 x14_1).f1)))).cell? _ = some _ from hx320_1)); clear hn320_0; clear hn320_1; replace p320 := eq_true p320; replace q320 := eq_true q320)); try go_wp2_with (first | ((with_reducible refine gate_dst (N := 6) rfl ?_); refine box_event ?hg (N := 6) ?hd (cs := #[.int .i64 0, .string (⟨#[]⟩ : ByteArray)]) (t := 71) ?hr ?_; (case hd => rfl); (case hg => rfl); (case hr => first | (go_simp; done) | (go_simp; rfl)); intro gb319 hg w11 hbox hb; have n0_ := Aside0.mk (below_step (by repeat (first | (with_reducible first | exact HB.out | apply below_alloc | apply pw_below_drewN | apply below_drew1) | exact HB.out)) hb); have n1_ := Aside0.mk (hbox); have n2_ := Aside0.mk ((by rw [hg]; exact (below_size (by repeat (first | (with_reducible first | exact HB.out | apply below_alloc | apply pw_below_drewN | apply below_drew1) | exact HB.out))) : w.heap.size ≤ gb319)); have n3_ := Aside0.mk ((by rw [hg]; exact (below_size (by repeat (first | (with_reducible first | exact HB.out | apply below_alloc | apply pw_below_drewN | apply below_drew1) | exact HB.out))) : w.heap.size ≤ gb319)); clear HB; have HB := n0_; have BK319 := n1_; have GW319 := n2_; have GE319 := n3_; clear n0_ n1_ n2_ n3_; clear hb hbox hg; have hcz12_0 : w11.cell? ⟨gb319, 0, none⟩ = some (.int .i64 0) := (blk_cell BK319.out 0).trans rfl; have hcz12_1 : w11.cell? ⟨gb319, 1, none⟩ = some (.string (⟨#[]⟩ : ByteArray)) := (blk_cell BK319.out 1).trans rfl; have hfz12_0 := blk_frozen BK319.out 0; have hfz12_1 := blk_frozen BK319.out 1; have p320 : 0 ≤ (x14_1 : Int) := of_decide_eq_true (by first | (with_reducible assumption) | assumption); have q320 : x14_1 < (l1.length : Int) := of_decide_eq_true (by first | (with_reducible assumption) | assumption); obtain ⟨ad320, e320, hx320_0, hx320_1⟩ := at_T71 HR1.out x14_1 p320 q320; cases e320; have hn320_0 : ad320.block ≠ gb319 := Nat.ne_of_lt (Nat.lt_of_lt_of_le (by have := World.block_lt_of_cell? _ _ hx320_0; first | rwa [add_block] at this | exact this) GW319.out); have hn320_1 : ad320.block ≠ gb319 := Nat.ne_of_lt (Nat.lt_of_lt_of_le (by have := World.block_lt_of_cell? _ _ hx320_0; first | rwa [add_block] at this | exact this) GW319.out); replace hx320_0 := (HB.out.cell (World.block_lt_of_cell? w _ hx320_0)).trans hx320_0; replace hx320_1 := (HB.out.cell (World.block_lt_of_cell? w _ hx320_1)).trans hx320_1; replace hx320_0 := (cell_far (p := ⟨gb319, 0, none⟩) (by first | (rw [add_block]; exact hn320_0) | (show (Addr.add _ _).block ≠ _; rw [add_block]; exact hn320_0) | exact hn320_0) (.int .i64 ((rd_T71 l0 x14_1).f0))).trans hx320_0; replace hx320_1 := (cell_far (p := ⟨gb319, 0, none⟩) (by first | (rw [add_block]; exact hn320_0) | (show (Addr.add _ _).block ≠ _; rw [add_block]; exact hn320_0) | exact hn320_0) (.int .i64 ((rd_T71 l0 x14_1).f0))).trans hx320_1; replace hx320_0 := (cell_far (p := ⟨gb319, 1, none⟩) (by first | (rw [add_block]; exact hn320_1) | (show (Addr.add _ _).block ≠ _; rw [add_block]; exact hn320_1) | exact hn320_1) (.string ((rd_T71 l0 x14_1).f1))).trans hx320_0; replace hx320_1 := (cell_far (p := ⟨gb319, 1, none⟩) (by first | (rw [add_block]; exact hn320_1) | (show (Addr.add _ _).block ≠ _; rw [add_block]; exact hn320_1) | exact hn320_1) (.string ((rd_T71 l0 x14_1).f1))).trans hx320_1; (try have hy320_0 := fun (n_ : Nat) => (show ((((w11.drewN n_).setCell ⟨gb319, 0, none⟩ (.int .i64 ((rd_T71 l0 x14_1).f0))).setCell ⟨gb319, 1, none⟩ (.string ((rd_T71 l0 x14_1).f1)))).cell? _ = some _ from hx320_0)); (try have hy320_1 := fun (n_ : Nat) => (show ((((w11.drewN n_).setCell ⟨gb319, 0, none⟩ (.int .i64 ((rd_T71 l0 x14_1).f0))).setCell ⟨gb319, 1, none⟩ (.string ((rd_T71 l0 x14_1).f1)))).cell? _ = some _ from hx320_1)); clear hn320_0; clear hn320_1; replace p320 := eq_true p320; replace q320 := eq_true q320)))
                  go_roundg k1
                  case measure => have := HK1.out; omega
                  case rel => exact ⟨(wrap64 (x14_1 + 1)), (by first | rfl | (simp; done) | (simp [*]; done)), H', ⟨by have := HK1.out; omega⟩, ⟨by repeat (first | (with_reducible first | exact HB.out | apply below_alloc | apply pw_below_drewN | apply below_drew1 | refine below_set ?_ GE319.out) | exact HB.out)⟩⟩
              · rw [if_neg c7] at H
                exact absurd H (by simp)
            · rw [if_neg c6] at H
              exact absurd H (by simp)
          · rw [if_neg c5] at H
            exact absurd H (by simp)
        · rw [if_neg c4] at H
          have c4b0 : decide (x14_1 < (l0.length : Int)) = false := decide_eq_false c4
          clear c4
          obtain rfl := Option.some.inj H
          go_wp2
          repeat (go_quiet (fail); try go_wp2)
          go_ret
          exact ⟨by first | rfl | (simp [errW_none, errW_some] <;> rfl) | (simp [*, errW_none, errW_some] <;> rfl), by repeat (first | (with_reducible first | exact HB.out | apply below_alloc | apply pw_below_drewN | apply below_drew1) | exact HB.out)⟩
  · rw [if_neg c3] at H
    have c3b0 : ((l0.length : Int) == (l1.length : Int)) = false := beq_eq_false_iff_ne.mpr c3
    have c3b1 : ((l0.length : Int) != (l1.length : Int)) = true := bne_iff_ne.mpr c3
    have c3b2 : (l0.length == l1.length) = false := by first | simpa using c3 | (simp at c3 ⊢; omega)
    obtain rfl := Option.some.inj H
    go_enter Tryz.func13, Tryz.ntmps13
    go_wp2
    repeat (go_quiet (fail); try go_wp2)
    go_ret
    exact ⟨by first | rfl | (simp [errW_none, errW_some] <;> rfl) | (simp [*, errW_none, errW_some] <;> rfl), by repeat (first | (with_reducible first | exact HB.out | apply below_alloc | apply pw_below_drewN | apply below_drew1) | exact HB.out)⟩

/-! ### spec_Told: function 54 -/
mutual
def spec_Told.l0 : Nat → ByteArray → List Int → Int → Option (ByteArray)
  | 0, _, _, _ => none
  | k + 1, x0, x3, x4 => if x4 < (x0.size : Int) then (if (wrap64 ((x0.size : Int) - x4)) ≥ 2 then (if 0 ≤ x4 then (if x4 ≤ (wrap64 (x4 + 2)) then (if (wrap64 (x4 + 2)) ≤ (x0.size : Int) then (spec_Told.j1 k x0 x3 x4 ((x0.extract (x4 : Int).toNat ((wrap64 (x4 + 2)) : Int).toNat).toList == ([194, 183] : List UInt8))) else (none)) else (none)) else (none)) else (spec_Told.j1 k x0 x3 x4 false)) else (some (strOfNums x3))
def spec_Told.j1 : Nat → ByteArray → List Int → Int → Bool → Option (ByteArray)
  | 0, _, _, _, _ => none
  | k + 1, x0, x3, x4, x18 => if x18 = true then (if x3.length < 140737488355328 then (spec_Told.l0 k x0 (x3 ++ [46]) (wrap64 (x4 + 2))) else (none)) else (if (wrap64 ((x0.size : Int) - x4)) ≥ 3 then (if 0 ≤ x4 then (if x4 ≤ (wrap64 (x4 + 3)) then (if (wrap64 (x4 + 3)) ≤ (x0.size : Int) then (if (x0.extract (x4 : Int).toNat ((wrap64 (x4 + 3)) : Int).toNat).toList = ([226, 136, 149] : List UInt8) then (if x3.length < 140737488355328 then (spec_Told.l0 k x0 (x3 ++ [47]) (wrap64 (x4 + 3))) else (none)) else (if x4 < (x0.size : Int) then (if x3.length < 140737488355328 then (spec_Told.l0 k x0 (x3 ++ [bt x0 x4]) (wrap64 (x4 + 1))) else (none)) else (none))) else (none)) else (none)) else (none)) else (if 0 ≤ x4 then (if x4 < (x0.size : Int) then (if x3.length < 140737488355328 then (spec_Told.l0 k x0 (x3 ++ [bt x0 x4]) (wrap64 (x4 + 1))) else (none)) else (none)) else (none)))
end
def spec_Told.f (k : Nat) (a0 : ByteArray) : Option (ByteArray) := spec_Told.l0 k a0 (([] : List Int)) 0
theorem spec_Told.mono_l : ∀ k, (∀ y0 y1 y2, LeO (spec_Told.l0 k y0 y1 y2) (spec_Told.l0 (k + 1) y0 y1 y2)) ∧ (∀ y0 y1 y2 y3, LeO (spec_Told.j1 k y0 y1 y2 y3) (spec_Told.j1 (k + 1) y0 y1 y2 y3))
  | 0 => ⟨fun _ _ _ r h => by simp [spec_Told.l0] at h, fun _ _ _ _ r h => by simp [spec_Told.j1] at h⟩
  | k + 1 => by
    obtain ⟨ih0, ih1⟩ := spec_Told.mono_l k
    refine ⟨?_, ?_⟩
    · intro y0 y1 y2
      unfold spec_Told.l0
      repeat' first
      | (with_reducible exact ih0 _ _ _)
      | (with_reducible exact ih1 _ _ _ _)
      | (with_reducible exact LeO.refl _)
      | (with_reducible exact LeO.none _)
      | (with_reducible refine LeO.ite ?_ ?_)
      | (with_reducible refine LeO.bind ?_ (fun _ => ?_))
      | exact ih0 _ _ _
      | exact ih1 _ _ _ _
      | exact LeO.none _
      | refine LeO.ite ?_ ?_
      | refine LeO.bind ?_ (fun _ => ?_)
    · intro y0 y1 y2 y3
      unfold spec_Told.j1
      repeat' first
      | (with_reducible exact ih0 _ _ _)
      | (with_reducible exact ih1 _ _ _ _)
      | (with_reducible exact LeO.refl _)
      | (with_reducible exact LeO.none _)
      | (with_reducible refine LeO.ite ?_ ?_)
      | (with_reducible refine LeO.bind ?_ (fun _ => ?_))
      | exact ih0 _ _ _
      | exact ih1 _ _ _ _
      | exact LeO.none _
      | refine LeO.ite ?_ ?_
      | refine LeO.bind ?_ (fun _ => ?_)
theorem spec_Told.mono : ∀ a0 k, LeO (spec_Told.f k a0) (spec_Told.f (k + 1) a0) := by
  intro a0 k
  obtain ⟨ih0, ih1⟩ := spec_Told.mono_l k
  unfold spec_Told.f
  repeat' first
      | (with_reducible exact ih0 _ _ _)
      | (with_reducible exact ih1 _ _ _ _)
      | (with_reducible exact LeO.refl _)
      | (with_reducible exact LeO.none _)
      | (with_reducible refine LeO.ite ?_ ?_)
      | (with_reducible refine LeO.bind ?_ (fun _ => ?_))
      | exact ih0 _ _ _
      | exact ih1 _ _ _ _
      | exact LeO.none _
      | refine LeO.ite ?_ ?_
      | refine LeO.bind ?_ (fun _ => ?_)
set_option maxHeartbeats 8000000 in
set_option maxRecDepth 100000 in
theorem spec_Told.calls (k : Nat) (a0 : ByteArray) (r : ByteArray) (w : World) (h : spec_Told.f k a0 = some r) :
    Calls Tryz.prog 54 #[.string a0] w fun e w' => e = .returned (.string r) ∧ Below w.heap.size w w' := by
  have HB := Aside0.mk (Below.refl w.heap.size w)
  have H : (spec_Told.l0 k a0 (([] : List Int)) 0) = some r := h
  clear h
  obtain ⟨y321, hy321⟩ : ∃ y_ : List Int, y_ = (([] : List Int)) := ⟨_, rfl⟩
  replace H : (spec_Told.l0 k a0 y321 0) = some r := by first | (rw [hy321]; with_reducible exact H) | (have H2_ := (Option.bind_some _ _).symm.trans H; rw [hy321]; with_reducible exact H2_) | (have H2_ := (Option.bind_some _ _).symm.trans H; with_reducible exact H2_) | with_reducible exact H | (rw [hy321]; exact H) | exact H
  have Ny321 := Aside0.mk hy321
  clear hy321
  have H' := Aside0.mk H
  clear H
  go_enter Tryz.func54, Tryz.ntmps54
  go_wp2_with (first | ((with_reducible refine gate_dst (N := 5) rfl ?_); refine Kd.R_lit (Kd.int .u8) _ 5 ?hg (N := 5) ?hd (xs := ([] : List Int)) (inner := []) (ok := fun _ => True) (okp := fun _ => True) ?hr ?hp (fun _ hk => hk) trivial (Below.refl _ _) (Nat.le_refl _) (by simp) ?_; (case hd => rfl); (case hg => rfl); (case hr => first | (go_simp; done) | (go_simp; rfl)); (case hp => exact (Reps.none _ _)); intro v322 w2 ho3 hb hg_ hnew_; clear hg_ hnew_; (first | rw [← Ny321.out] at ho3 | (simp only [Int.reduceToNat] at ho3; rw [← Ny321.out] at ho3)); have n0_ := Aside0.mk (Kd.R_lower ho3 (below_size (by repeat (first | (with_reducible first | exact HB.out | apply below_alloc | apply pw_below_drewN | apply below_drew1) | exact HB.out)))); have n1_ := Aside0.mk (below_step (by repeat (first | (with_reducible first | exact HB.out | apply below_alloc | apply pw_below_drewN | apply below_drew1) | exact HB.out)) hb); clear HB; have HO323 := n0_; have HB := n1_; clear n0_ n1_; clear hb ho3))
  go_loopg [3, 4] k (fun kq v3 v4 w' => ∃ (x3_1 : List Int) (x4_1 : Int), v4 = .int .i64 x4_1 ∧ Aside0 (spec_Told.l0 kq a0 x3_1 x4_1 = some r) ∧ Aside0 (kq ≤ k) ∧ Aside0 (Kd.R (Kd.int .u8) 5 w' w.heap.size (fun _ => True) v3 x3_1) ∧ Aside0 (Below w.heap.size w w'))
  case atStart => exact ⟨(y321), (0), (by first | rfl | (simp; done) | (simp [*]; done)), H', ⟨Nat.le_refl _⟩, ⟨by (with_reducible repeat (first | apply Kd.R_alloc | apply Kd.R_drewN | apply Kd.R_drew)); exact HO323.out⟩, ⟨by repeat (first | (with_reducible first | exact HB.out | apply below_alloc | apply pw_below_drewN | apply below_drew1) | exact HB.out)⟩⟩
  case round =>
    clear H'
    try clear p2
    obtain ⟨x3_1, x4_1, rfl, HA, HK1, HO_3, HB⟩ := hrel
    cases gk with
    | zero => exact absurd HA.out (by simp [spec_Told.l0])
    | succ k1 =>
      have H := HA.out
      clear HA
      simp only [spec_Told.l0] at H
      by_cases c4 : x4_1 < (a0.size : Int)
      · rw [if_pos c4] at H
        have c4b0 : decide (x4_1 < (a0.size : Int)) = true := decide_eq_true c4
        clear c4
        have HC5 := Aside0.mk H
        clear H
        go_upto_region 6 with (fail)
        go_cut [18] (fun v18 wc => ∃ (kq : Nat) (x18_4 : Bool), v18 = .bool x18_4 ∧ Aside0 (spec_Told.j1 kq a0 x3_1 x4_1 x18_4 = some r) ∧ Aside0 (kq ≤ k1) ∧ Aside0 (Kd.R (Kd.int .u8) 5 wc w.heap.size (fun _ => True) u3 x3_1) ∧ Aside0 (Below w.heap.size w wc))
        case first =>
          have H := HC5.out
          clear HC5
          by_cases c6 : (wrap64 ((a0.size : Int) - x4_1)) ≥ 2
          · rw [if_pos c6] at H
            have c6b0 : decide (2 ≤ (wrap64 ((a0.size : Int) - x4_1))) = true := decide_eq_true c6
            clear c6
            (first | rw [c6b0] | (simp only [i64_w, i32_w]; rw [c6b0]) | skip)
            by_cases c7 : 0 ≤ x4_1
            · rw [if_pos c7] at H
              have c7b0 := eq_true c7
              have c7b1 : decide (0 ≤ x4_1) = true := decide_eq_true c7
              clear c7
              by_cases c8 : x4_1 ≤ (wrap64 (x4_1 + 2))
              · rw [if_pos c8] at H
                have c8b0 := eq_true c8
                have c8b1 : decide (x4_1 ≤ (wrap64 (x4_1 + 2))) = true := decide_eq_true c8
                by_cases c9 : (wrap64 (x4_1 + 2)) ≤ (a0.size : Int)
                · rw [if_pos c9] at H
                  have c9b0 := eq_true c9
                  have c9b1 : decide ((wrap64 (x4_1 + 2)) ≤ (a0.size : Int)) = true := decide_eq_true c9
                  have H' := Aside0.mk H
                  clear H
                  go_wp2
                  go_meet
                  case rel => exact ⟨_, (((a0.extract (x4_1 : Int).toNat ((wrap64 (x4_1 + 2)) : Int).toNat).toList == ([194, 183] : List UInt8))), (by first | rfl | (simp; done) | (simp [*]; done)), H', ⟨by have := HK1.out; first | omega | exact Nat.le_refl _⟩, ⟨by (with_reducible repeat (first | apply Kd.R_alloc | apply Kd.R_drewN | apply Kd.R_drew)); exact HO_3.out⟩, ⟨by repeat (first | (with_reducible first | exact HB.out | apply below_alloc | apply pw_below_drewN | apply below_drew1) | exact HB.out)⟩⟩
                · rw [if_neg c9] at H
                  exact absurd H (by simp)
              · rw [if_neg c8] at H
                exact absurd H (by simp)
            · rw [if_neg c7] at H
              exact absurd H (by simp)
          · rw [if_neg c6] at H
            have c6b0 : decide (2 ≤ (wrap64 ((a0.size : Int) - x4_1))) = false := decide_eq_false c6
            clear c6
            (first | rw [c6b0] | (simp only [i64_w, i32_w]; rw [c6b0]) | skip)
            have H' := Aside0.mk H
            clear H
            go_wp2
            go_meet
            case rel => exact ⟨_, (false), (by first | rfl | (simp; done) | (simp [*]; done)), H', ⟨by have := HK1.out; first | omega | exact Nat.le_refl _⟩, ⟨by (with_reducible repeat (first | apply Kd.R_alloc | apply Kd.R_drewN | apply Kd.R_drew)); exact HO_3.out⟩, ⟨by repeat (first | (with_reducible first | exact HB.out | apply below_alloc | apply pw_below_drewN | apply below_drew1) | exact HB.out)⟩⟩
        case rest =>
          clear HC5
          try clear p2
          try clear c4
          try clear c4b0
          try clear c5
          try clear c6
          try clear c6b0
          try clear p6
          try clear c7
          try clear c7b0
          try clear c7b1
          try clear c8
          try clear c8b0
          try clear c8b1
          try clear c9
          try clear c9b0
          try clear c9b1
          try clear p2
          obtain ⟨kq, x18_4, rfl, HA, HJ4, HO_3, HB⟩ := hcut
          cases kq with
          | zero => exact absurd HA.out (by simp [spec_Told.j1])
          | succ kj4 =>
            have H := HA.out
            clear HA
            simp only [spec_Told.j1] at H
            by_cases c10 : x18_4 = true
            · subst c10
              have H1 : (if x3_1.length < 140737488355328 then (spec_Told.l0 kj4 a0 (x3_1 ++ [46]) (wrap64 (x4_1 + 2))) else (none)) = some r := by rw [if_pos rfl] at H; exact H
              clear H
              have H := H1
              clear H1
              by_cases c11 : x3_1.length < 140737488355328
              · rw [if_pos c11] at H
                have LMc11 := Aside0.mk c11
                clear c11
                obtain ⟨y324, hy324⟩ : ∃ y_ : List Int, y_ = (x3_1 ++ [46]) := ⟨_, rfl⟩
                replace H : (spec_Told.l0 kj4 a0 y324 (wrap64 (x4_1 + 2))) = some r := by first | (rw [hy324]; with_reducible exact H) | (have H2_ := (Option.bind_some _ _).symm.trans H; rw [hy324]; with_reducible exact H2_) | (have H2_ := (Option.bind_some _ _).symm.trans H; with_reducible exact H2_) | with_reducible exact H | (rw [hy324]; exact H) | exact H
                have Ny324 := Aside0.mk hy324
                clear hy324
                have H' := Aside0.mk H
                clear H
                go_wp2_with (first | ((with_reducible refine gate_builtin (b := .append) (xs := #[.tmp 32, .tmp 33]) rfl ?_); at_builtin; refine Kd.R_append (Kd.int .u8) (w0 := w) w.heap.size rfl (.tmp 32) (.tmp 33) 97 5 (.int .u8 0) 1 rfl Tryz.underlying97 info5 rfl (by decide) (by omega) u3 x3_1 46 [.int .u8 46] (fun _ => True) (fun _ => False) rfl rfl ?aP (fun _ hk => hk.elim) ?aF ?aO ?aB ?aS ?aL ?_; (case aP => exact rfl); (case aB => exact (by repeat (first | (with_reducible first | exact HB.out | apply below_alloc | apply pw_below_drewN | apply below_drew1) | exact HB.out))); (case aF => exact (fun _ _ => trivial)); (case aO => exact (by (with_reducible repeat (first | apply Kd.R_alloc | apply Kd.R_drewN | apply Kd.R_drew)); exact HO_3.out)); (case aS => exact (below_size (by repeat (first | (with_reducible first | exact HB.out | apply below_alloc | apply pw_below_drewN | apply below_drew1) | exact HB.out)))); (case aL => have := LMc11.out; omega); intro v325 w12 ho hb hg hat; rw [← Ny324.out] at ho; have n0_ := Aside0.mk (hb); have n1_ := Aside0.mk (ho); clear HB; clear HO_3; have HB := n0_; have HO326 := n1_; clear n0_ n1_; clear ho hb hg hat))
                go_roundg kj4
                case measure => have := HK1.out; have := HJ4.out; omega
                case rel => exact ⟨(y324), (wrap64 (x4_1 + 2)), (by first | rfl | (simp; done) | (simp [*]; done)), H', ⟨by have := HK1.out; have := HJ4.out; omega⟩, ⟨by (with_reducible repeat (first | apply Kd.R_alloc | apply Kd.R_drewN | apply Kd.R_drew)); exact HO326.out⟩, ⟨by repeat (first | (with_reducible first | exact HB.out | apply below_alloc | apply pw_below_drewN | apply below_drew1) | exact HB.out)⟩⟩
              · rw [if_neg c11] at H
                exact absurd H (by simp)
            · replace c10 := Bool.eq_false_iff.mpr c10
              subst c10
              have H1 : (if (wrap64 ((a0.size : Int) - x4_1)) ≥ 3 then (if 0 ≤ x4_1 then (if x4_1 ≤ (wrap64 (x4_1 + 3)) then (if (wrap64 (x4_1 + 3)) ≤ (a0.size : Int) then (if (a0.extract (x4_1 : Int).toNat ((wrap64 (x4_1 + 3)) : Int).toNat).toList = ([226, 136, 149] : List UInt8) then (if x3_1.length < 140737488355328 then (spec_Told.l0 kj4 a0 (x3_1 ++ [47]) (wrap64 (x4_1 + 3))) else (none)) else (if x4_1 < (a0.size : Int) then (if x3_1.length < 140737488355328 then (spec_Told.l0 kj4 a0 (x3_1 ++ [bt a0 x4_1]) (wrap64 (x4_1 + 1))) else (none)) else (none))) else (none)) else (none)) else (none)) else (if 0 ≤ x4_1 then (if x4_1 < (a0.size : Int) then (if x3_1.length < 140737488355328 then (spec_Told.l0 kj4 a0 (x3_1 ++ [bt a0 x4_1]) (wrap64 (x4_1 + 1))) else (none)) else (none)) else (none))) = some r := by rw [if_neg (show ¬ (false = true) by decide)] at H; exact H
              clear H
              have H := H1
              clear H1
              by_cases c13 : (wrap64 ((a0.size : Int) - x4_1)) ≥ 3
              · rw [if_pos c13] at H
                have c13b0 : decide (3 ≤ (wrap64 ((a0.size : Int) - x4_1))) = true := decide_eq_true c13
                clear c13
                by_cases c14 : 0 ≤ x4_1
                · rw [if_pos c14] at H
                  have c14b0 := eq_true c14
                  have c14b1 : decide (0 ≤ x4_1) = true := decide_eq_true c14
                  clear c14
                  by_cases c15 : x4_1 ≤ (wrap64 (x4_1 + 3))
                  · rw [if_pos c15] at H
                    have c15b0 := eq_true c15
                    have c15b1 : decide (x4_1 ≤ (wrap64 (x4_1 + 3))) = true := decide_eq_true c15
                    by_cases c16 : (wrap64 (x4_1 + 3)) ≤ (a0.size : Int)
                    · rw [if_pos c16] at H
                      have c16b0 := eq_true c16
                      have c16b1 : decide ((wrap64 (x4_1 + 3)) ≤ (a0.size : Int)) = true := decide_eq_true c16
                      by_cases c17 : (a0.extract (x4_1 : Int).toNat ((wrap64 (x4_1 + 3)) : Int).toNat).toList = ([226, 136, 149] : List UInt8)
                      · rw [if_pos c17] at H
                        have c17b0 : ((a0.extract (x4_1 : Int).toNat ((wrap64 (x4_1 + 3)) : Int).toNat).toList == ([226, 136, 149] : List UInt8)) = true := beq_iff_eq.mpr c17
                        have c17b1 : ((a0.extract (x4_1 : Int).toNat ((wrap64 (x4_1 + 3)) : Int).toNat).toList != ([226, 136, 149] : List UInt8)) = false := bne_eq_false_iff_eq.mpr c17
                        clear c17
                        by_cases c18 : x3_1.length < 140737488355328
                        · rw [if_pos c18] at H
                          have LMc18 := Aside0.mk c18
                          clear c18
                          obtain ⟨y327, hy327⟩ : ∃ y_ : List Int, y_ = (x3_1 ++ [47]) := ⟨_, rfl⟩
                          replace H : (spec_Told.l0 kj4 a0 y327 (wrap64 (x4_1 + 3))) = some r := by first | (rw [hy327]; with_reducible exact H) | (have H2_ := (Option.bind_some _ _).symm.trans H; rw [hy327]; with_reducible exact H2_) | (have H2_ := (Option.bind_some _ _).symm.trans H; with_reducible exact H2_) | with_reducible exact H | (rw [hy327]; exact H) | exact H
                          have Ny327 := Aside0.mk hy327
                          clear hy327
                          have H' := Aside0.mk H
                          clear H
                          go_wp2_with (first | ((with_reducible refine gate_builtin (b := .append) (xs := #[.tmp 51, .tmp 52]) rfl ?_); at_builtin; refine Kd.R_append (Kd.int .u8) (w0 := w) w.heap.size rfl (.tmp 51) (.tmp 52) 97 5 (.int .u8 0) 1 rfl Tryz.underlying97 info5 rfl (by decide) (by omega) u3 x3_1 47 [.int .u8 47] (fun _ => True) (fun _ => False) rfl rfl ?aP (fun _ hk => hk.elim) ?aF ?aO ?aB ?aS ?aL ?_; (case aP => exact rfl); (case aB => exact (by repeat (first | (with_reducible first | exact HB.out | apply below_alloc | apply pw_below_drewN | apply below_drew1) | exact HB.out))); (case aF => exact (fun _ _ => trivial)); (case aO => exact (by (with_reducible repeat (first | apply Kd.R_alloc | apply Kd.R_drewN | apply Kd.R_drew)); exact HO_3.out)); (case aS => exact (below_size (by repeat (first | (with_reducible first | exact HB.out | apply below_alloc | apply pw_below_drewN | apply below_drew1) | exact HB.out)))); (case aL => have := LMc18.out; omega); intro v328 w19 ho hb hg hat; rw [← Ny327.out] at ho; have n0_ := Aside0.mk (hb); have n1_ := Aside0.mk (ho); clear HB; clear HO_3; have HB := n0_; have HO329 := n1_; clear n0_ n1_; clear ho hb hg hat))
                          go_roundg kj4
                          case measure => have := HK1.out; have := HJ4.out; omega
                          case rel => exact ⟨(y327), (wrap64 (x4_1 + 3)), (by first | rfl | (simp; done) | (simp [*]; done)), H', ⟨by have := HK1.out; have := HJ4.out; omega⟩, ⟨by (with_reducible repeat (first | apply Kd.R_alloc | apply Kd.R_drewN | apply Kd.R_drew)); exact HO329.out⟩, ⟨by repeat (first | (with_reducible first | exact HB.out | apply below_alloc | apply pw_below_drewN | apply below_drew1) | exact HB.out)⟩⟩
                        · rw [if_neg c18] at H
                          exact absurd H (by simp)
                      · rw [if_neg c17] at H
                        have c17b0 : ((a0.extract (x4_1 : Int).toNat ((wrap64 (x4_1 + 3)) : Int).toNat).toList == ([226, 136, 149] : List UInt8)) = false := beq_eq_false_iff_ne.mpr c17
                        have c17b1 : ((a0.extract (x4_1 : Int).toNat ((wrap64 (x4_1 + 3)) : Int).toNat).toList != ([226, 136, 149] : List UInt8)) = true := bne_iff_ne.mpr c17
                        by_cases c20 : x4_1 < (a0.size : Int)
                        · rw [if_pos c20] at H
                          have c20b0 : decide (x4_1 < (a0.size : Int)) = true := decide_eq_true c20
                          clear c20
                          by_cases c22 : x3_1.length < 140737488355328
                          · rw [if_pos c22] at H
                            have LMc22 := Aside0.mk c22
                            clear c22
                            obtain ⟨y330, hy330⟩ : ∃ y_ : List Int, y_ = (x3_1 ++ [bt a0 x4_1]) := ⟨_, rfl⟩
                            replace H : (spec_Told.l0 kj4 a0 y330 (wrap64 (x4_1 + 1))) = some r := by first | (rw [hy330]; with_reducible exact H) | (have H2_ := (Option.bind_some _ _).symm.trans H; rw [hy330]; with_reducible exact H2_) | (have H2_ := (Option.bind_some _ _).symm.trans H; with_reducible exact H2_) | with_reducible exact H | (rw [hy330]; exact H) | exact H
                            have Ny330 := Aside0.mk hy330
                            clear hy330
                            have H' := Aside0.mk H
                            clear H
                            have p21 : 0 ≤ (x4_1 : Int) := of_decide_eq_true (by first | (with_reducible assumption) | assumption)
                            have q21 : x4_1 < (a0.size : Int) := of_decide_eq_true (by first | (with_reducible assumption) | assumption)
                            have hx21 := bt_at a0 x4_1
                            replace p21 := eq_true p21
                            replace q21 := eq_true q21
                            go_wp2_with (first | ((with_reducible refine gate_builtin (b := .append) (xs := #[.tmp 10, .tmp 14]) rfl ?_); at_builtin; refine Kd.R_append (Kd.int .u8) (w0 := w) w.heap.size rfl (.tmp 10) (.tmp 14) 97 5 (.int .u8 0) 1 rfl Tryz.underlying97 info5 rfl (by decide) (by omega) u3 x3_1 (bt a0 x4_1) [.int .u8 (bt a0 x4_1)] (fun _ => True) (fun _ => False) rfl rfl ?aP (fun _ hk => hk.elim) ?aF ?aO ?aB ?aS ?aL ?_; (case aP => exact rfl); (case aB => exact (by repeat (first | (with_reducible first | exact HB.out | apply below_alloc | apply pw_below_drewN | apply below_drew1) | exact HB.out))); (case aF => exact (fun _ _ => trivial)); (case aO => exact (by (with_reducible repeat (first | apply Kd.R_alloc | apply Kd.R_drewN | apply Kd.R_drew)); exact HO_3.out)); (case aS => exact (below_size (by repeat (first | (with_reducible first | exact HB.out | apply below_alloc | apply pw_below_drewN | apply below_drew1) | exact HB.out)))); (case aL => have := LMc22.out; omega); intro v331 w23 ho hb hg hat; rw [← Ny330.out] at ho; have n0_ := Aside0.mk (hb); have n1_ := Aside0.mk (ho); clear HB; clear HO_3; have HB := n0_; have HO332 := n1_; clear n0_ n1_; clear ho hb hg hat))
                            go_roundg kj4
                            case measure => have := HK1.out; have := HJ4.out; omega
                            case rel => exact ⟨(y330), (wrap64 (x4_1 + 1)), (by first | rfl | (simp; done) | (simp [*]; done)), H', ⟨by have := HK1.out; have := HJ4.out; omega⟩, ⟨by (with_reducible repeat (first | apply Kd.R_alloc | apply Kd.R_drewN | apply Kd.R_drew)); exact HO332.out⟩, ⟨by repeat (first | (with_reducible first | exact HB.out | apply below_alloc | apply pw_below_drewN | apply below_drew1) | exact HB.out)⟩⟩
                          · rw [if_neg c22] at H
                            exact absurd H (by simp)
                        · rw [if_neg c20] at H
                          exact absurd H (by simp)
                    · rw [if_neg c16] at H
                      exact absurd H (by simp)
                  · rw [if_neg c15] at H
                    exact absurd H (by simp)
                · rw [if_neg c14] at H
                  exact absurd H (by simp)
              · rw [if_neg c13] at H
                have c13b0 : decide (3 ≤ (wrap64 ((a0.size : Int) - x4_1))) = false := decide_eq_false c13
                clear c13
                by_cases c24 : 0 ≤ x4_1
                · rw [if_pos c24] at H
                  have c24b0 : decide (0 ≤ x4_1) = true := decide_eq_true c24
                  clear c24
                  by_cases c25 : x4_1 < (a0.size : Int)
                  · rw [if_pos c25] at H
                    have c25b0 : decide (x4_1 < (a0.size : Int)) = true := decide_eq_true c25
                    clear c25
                    by_cases c27 : x3_1.length < 140737488355328
                    · rw [if_pos c27] at H
                      have LMc27 := Aside0.mk c27
                      clear c27
                      obtain ⟨y333, hy333⟩ : ∃ y_ : List Int, y_ = (x3_1 ++ [bt a0 x4_1]) := ⟨_, rfl⟩
                      replace H : (spec_Told.l0 kj4 a0 y333 (wrap64 (x4_1 + 1))) = some r := by first | (rw [hy333]; with_reducible exact H) | (have H2_ := (Option.bind_some _ _).symm.trans H; rw [hy333]; with_reducible exact H2_) | (have H2_ := (Option.bind_some _ _).symm.trans H; with_reducible exact H2_) | with_reducible exact H | (rw [hy333]; exact H) | exact H
                      have Ny333 := Aside0.mk hy333
                      clear hy333
                      have H' := Aside0.mk H
                      clear H
                      have p26 : 0 ≤ (x4_1 : Int) := of_decide_eq_true (by first | (with_reducible assumption) | assumption)
                      have q26 : x4_1 < (a0.size : Int) := of_decide_eq_true (by first | (with_reducible assumption) | assumption)
                      have hx26 := bt_at a0 x4_1
                      replace p26 := eq_true p26
                      replace q26 := eq_true q26
                      go_wp2_with (first | ((with_reducible refine gate_builtin (b := .append) (xs := #[.tmp 10, .tmp 14]) rfl ?_); at_builtin; refine Kd.R_append (Kd.int .u8) (w0 := w) w.heap.size rfl (.tmp 10) (.tmp 14) 97 5 (.int .u8 0) 1 rfl Tryz.underlying97 info5 rfl (by decide) (by omega) u3 x3_1 (bt a0 x4_1) [.int .u8 (bt a0 x4_1)] (fun _ => True) (fun _ => False) rfl rfl ?aP (fun _ hk => hk.elim) ?aF ?aO ?aB ?aS ?aL ?_; (case aP => exact rfl); (case aB => exact (by repeat (first | (with_reducible first | exact HB.out | apply below_alloc | apply pw_below_drewN | apply below_drew1) | exact HB.out))); (case aF => exact (fun _ _ => trivial)); (case aO => exact (by (with_reducible repeat (first | apply Kd.R_alloc | apply Kd.R_drewN | apply Kd.R_drew)); exact HO_3.out)); (case aS => exact (below_size (by repeat (first | (with_reducible first | exact HB.out | apply below_alloc | apply pw_below_drewN | apply below_drew1) | exact HB.out)))); (case aL => have := LMc27.out; omega); intro v334 w28 ho hb hg hat; rw [← Ny333.out] at ho; have n0_ := Aside0.mk (hb); have n1_ := Aside0.mk (ho); clear HB; clear HO_3; have HB := n0_; have HO335 := n1_; clear n0_ n1_; clear ho hb hg hat))
                      go_roundg kj4
                      case measure => have := HK1.out; have := HJ4.out; omega
                      case rel => exact ⟨(y333), (wrap64 (x4_1 + 1)), (by first | rfl | (simp; done) | (simp [*]; done)), H', ⟨by have := HK1.out; have := HJ4.out; omega⟩, ⟨by (with_reducible repeat (first | apply Kd.R_alloc | apply Kd.R_drewN | apply Kd.R_drew)); exact HO335.out⟩, ⟨by repeat (first | (with_reducible first | exact HB.out | apply below_alloc | apply pw_below_drewN | apply below_drew1) | exact HB.out)⟩⟩
                    · rw [if_neg c27] at H
                      exact absurd H (by simp)
                  · rw [if_neg c25] at H
                    exact absurd H (by simp)
                · rw [if_neg c24] at H
                  exact absurd H (by simp)
      · rw [if_neg c4] at H
        have c4b0 : decide (x4_1 < (a0.size : Int)) = false := decide_eq_false c4
        clear c4
        obtain rfl := Option.some.inj H
        have hcv29 := own_string (P := Tryz.prog) Tryz.underlying97 Tryz.underlying5 Tryz.underlying9 (Kd.own_of_R HO_3.out)
        go_wp2
        go_ret
        exact ⟨by first | rfl | (simp [errW_none, errW_some] <;> rfl) | (simp [*, errW_none, errW_some] <;> rfl), by repeat (first | (with_reducible first | exact HB.out | apply below_alloc | apply pw_below_drewN | apply below_drew1) | exact HB.out)⟩

/-! ### spec_TokenOf: function 36 -/
def spec_TokenOf.f (k : Nat) (a0 : ByteArray) : Option (Int × ByteArray) := (spec_KindOf.f k a0).bind fun t337 => ((spec_Told.f k a0).bind fun t338 => (some (t337, t338)))
theorem spec_TokenOf.mono : ∀ a0 k, LeO (spec_TokenOf.f k a0) (spec_TokenOf.f (k + 1) a0) := by
  intro a0 k
  unfold spec_TokenOf.f
  repeat' first
      | (with_reducible exact spec_KindOf.mono _ _)
      | (with_reducible exact spec_Told.mono _ _)
      | (with_reducible exact LeO.refl _)
      | (with_reducible exact LeO.none _)
      | (with_reducible refine LeO.ite ?_ ?_)
      | (with_reducible refine LeO.bind ?_ (fun _ => ?_))
      | exact spec_KindOf.mono _ _
      | exact spec_Told.mono _ _
      | exact LeO.none _
      | refine LeO.ite ?_ ?_
      | refine LeO.bind ?_ (fun _ => ?_)
set_option maxHeartbeats 8000000 in
set_option maxRecDepth 100000 in
theorem spec_TokenOf.calls (k : Nat) (a0 : ByteArray) (r1 : Int) (r2 : ByteArray) (w : World) (h : spec_TokenOf.f k a0 = some (r1, r2)) :
    Calls Tryz.prog 36 #[.string a0] w fun e w' => e = .returned (.agg #[.int .i64 r1, .string r2]) ∧ Below w.heap.size w w' := by
  have hu71 := Tryz.underlying71
  have HB := Aside0.mk (Below.refl w.heap.size w)
  have H : ((spec_KindOf.f k a0).bind fun t337 => ((spec_Told.f k a0).bind fun t338 => (some (t337, t338)))) = some (r1, r2) := h
  clear h
  replace H := Option.bind_eq_some_iff.mp H
  obtain ⟨t337, A20, H⟩ := H
  replace H : ((spec_Told.f k a0).bind fun t338 => (some (t337, t338))) = some (r1, r2) := H
  have A2 := Aside0.mk A20
  clear A20
  replace H := Option.bind_eq_some_iff.mp H
  obtain ⟨t338, A30, H⟩ := H
  replace H : (some (t337, t338)) = some (r1, r2) := H
  have A3 := Aside0.mk A30
  clear A30
  simp only [Option.some.injEq, Prod.mk.injEq] at H
  obtain ⟨rfl, rfl⟩ := H
  go_enter Tryz.func36, Tryz.ntmps36
  go_wp2_with (first | ((with_reducible refine gate_dst (N := 2) rfl ?_); refine box_event ?hg (N := 2) ?hd (cs := #[.int .i64 0, .string (⟨#[]⟩ : ByteArray)]) (t := 71) ?hr ?_; (case hd => rfl); (case hg => rfl); (case hr => first | (go_simp; done) | (go_simp; rfl)); intro gb336 hg w4 hbox hb; have n0_ := Aside0.mk (below_step (by repeat (first | (with_reducible first | exact HB.out | apply below_alloc | apply pw_below_drewN | apply below_drew1) | exact HB.out)) hb); have n1_ := Aside0.mk (hbox); have n2_ := Aside0.mk ((by rw [hg]; exact (below_size (by repeat (first | (with_reducible first | exact HB.out | apply below_alloc | apply pw_below_drewN | apply below_drew1) | exact HB.out))) : w.heap.size ≤ gb336)); have n3_ := Aside0.mk ((by rw [hg]; exact (below_size (by repeat (first | (with_reducible first | exact HB.out | apply below_alloc | apply pw_below_drewN | apply below_drew1) | exact HB.out))) : w.heap.size ≤ gb336)); clear HB; have HB := n0_; have BK336 := n1_; have GW336 := n2_; have GE336 := n3_; clear n0_ n1_ n2_ n3_; clear hb hbox hg) | ((with_reducible refine gate_callee (f := 40) rfl ?_); refine goesL_ (some 4) rfl rfl Tryz.func40 (by kernel_rfl) rfl #[.string a0] rfl (by (try simp only [List.map_toArray, List.map_cons, List.map_nil]); first | done | rfl | (simp only [List.length_drop, List.length_take]; rfl)) ?_; (with_reducible refine (spec_KindOf.calls k a0 t337 _ A2.out).mono ?_); rintro e w' ⟨rfl, ⟨nd, rfl⟩⟩; refine ⟨_, rfl, ?_⟩; (try (rw [drewN_self w4]; generalize hq_ : World.drewN w4 _ = w4; have n0_ : Aside0 (w4.heap[gb336]? = some (.cells #[.int .i64 0, .string (⟨#[]⟩ : ByteArray)] 71 (0, 0))) := ⟨by rw [← hq_]; exact (by (with_reducible repeat (first | refine blk_drewN ?_ _ | refine blk_drew ?_ | refine blk_alloc ?_ _)); exact BK336.out)⟩; have n1_ : Aside0 (Below w.heap.size w w4) := ⟨by rw [← hq_]; exact (by repeat (first | (with_reducible first | exact HB.out | apply below_alloc | apply pw_below_drewN | apply below_drew1 | refine below_set ?_ GE336.out) | exact HB.out))⟩; clear BK336 HB hq_; have BK336 := n0_; have HB := n1_; clear n0_ n1_))) | ((with_reducible refine gate_callee (f := 54) rfl ?_); refine goesL_ (some 6) rfl rfl Tryz.func54 (by kernel_rfl) rfl #[.string a0] rfl (by (try simp only [List.map_toArray, List.map_cons, List.map_nil]); first | done | rfl | (simp only [List.length_drop, List.length_take]; rfl)) ?_; (with_reducible refine (spec_Told.calls k a0 t338 _ A3.out).mono ?_); rintro e w5 ⟨rfl, hb⟩; refine ⟨_, rfl, ?_⟩; have n0_ := Aside0.mk (blk_below (g := gb336) (o := .cells #[.int .i64 0, .string (⟨#[]⟩ : ByteArray)] 71 (0, 0)) (by (with_reducible repeat (first | refine blk_drewN ?_ _ | refine blk_drew ?_ | refine blk_alloc ?_ _)); exact BK336.out) hb); have n1_ := Aside0.mk (below_step (by repeat (first | (with_reducible first | exact HB.out | apply below_alloc | apply pw_below_drewN | apply below_drew1 | refine below_set ?_ GE336.out) | exact HB.out)) hb); clear BK336; clear HB; have BK336 := n0_; have HB := n1_; clear n0_ n1_; (try clear hb); (try clear hb2); (try clear hk); (try clear hi); have hcz6_0 : w5.cell? ⟨gb336, 0, none⟩ = some (.int .i64 0) := (blk_cell BK336.out 0).trans rfl; have hcz6_1 : w5.cell? ⟨gb336, 1, none⟩ = some (.string (⟨#[]⟩ : ByteArray)) := (blk_cell BK336.out 1).trans rfl; have hfz6_0 := blk_frozen BK336.out 0; have hfz6_1 := blk_frozen BK336.out 1))
  refine bodyPost_ret (results_cell_row rfl _ _ gb336 71 #[.int .i64 t337, .string t338] (0, 0) _ rfl (by (with_reducible repeat (first | refine blk_drewN ?_ _ | refine blk_drew ?_ | refine blk_alloc ?_ _)); refine blk_put (cs := #[.int .i64 t337, .string (⟨#[]⟩ : ByteArray)]) ?_ 1 _ rfl; (with_reducible repeat (first | refine blk_drewN ?_ _ | refine blk_drew ?_ | refine blk_alloc ?_ _)); refine blk_put (cs := #[.int .i64 0, .string (⟨#[]⟩ : ByteArray)]) ?_ 0 _ rfl; (with_reducible repeat (first | refine blk_drewN ?_ _ | refine blk_drew ?_ | refine blk_alloc ?_ _)); exact BK336.out) Tryz.underlying71 rfl (by kernel_rfl)) rfl ?_
  exact ⟨by first | rfl | (simp [errW_none, errW_some] <;> rfl) | (simp [*, errW_none, errW_some] <;> rfl), by repeat (first | (with_reducible first | exact HB.out | apply below_alloc | apply pw_below_drewN | apply below_drew1 | refine below_set ?_ GE336.out) | exact HB.out)⟩

/-! ### laws_tokensOf: function 14 -/
def laws_tokensOf.l0 : Nat → List (S71) → List ByteArray → Int → Int → Option ((List (S71)))
  | 0, _, _, _, _ => none
  | k + 1, x3, x7, x8, x9 => if x9 < x8 then (if 0 ≤ x9 then (if x9 < (x7.length : Int) then ((spec_TokenOf.f k (rdOf ByteArray.empty x7 x9)).bind fun bt343 => (if x3.length < 5864062014805 then (laws_tokensOf.l0 k (x3 ++ [(⟨bt343.1, bt343.2⟩ : S71)]) x7 x8 (wrap64 (x9 + 1))) else (none))) else (none)) else (none)) else (some x3)
def laws_tokensOf.f (k : Nat) (l0 : List ByteArray) : Option ((List (S71))) := laws_tokensOf.l0 k (([] : List (S71))) l0 (l0.length : Int) 0
theorem laws_tokensOf.mono_l : ∀ k, (∀ y0 y1 y2 y3, LeO (laws_tokensOf.l0 k y0 y1 y2 y3) (laws_tokensOf.l0 (k + 1) y0 y1 y2 y3))
  | 0 => fun _ _ _ _ r h => by simp [laws_tokensOf.l0] at h
  | k + 1 => by
    have ih0 := laws_tokensOf.mono_l k
    · intro y0 y1 y2 y3
      unfold laws_tokensOf.l0
      repeat' first
      | (with_reducible exact ih0 _ _ _ _)
      | (with_reducible exact spec_TokenOf.mono _ _)
      | (with_reducible exact LeO.refl _)
      | (with_reducible exact LeO.none _)
      | (with_reducible refine LeO.ite ?_ ?_)
      | (with_reducible refine LeO.bind ?_ (fun _ => ?_))
      | exact ih0 _ _ _ _
      | exact spec_TokenOf.mono _ _
      | exact LeO.none _
      | refine LeO.ite ?_ ?_
      | refine LeO.bind ?_ (fun _ => ?_)
theorem laws_tokensOf.mono : ∀ a0 k, LeO (laws_tokensOf.f k a0) (laws_tokensOf.f (k + 1) a0) := by
  intro a0 k
  have ih0 := laws_tokensOf.mono_l k
  unfold laws_tokensOf.f
  repeat' first
      | (with_reducible exact ih0 _ _ _ _)
      | (with_reducible exact spec_TokenOf.mono _ _)
      | (with_reducible exact LeO.refl _)
      | (with_reducible exact LeO.none _)
      | (with_reducible refine LeO.ite ?_ ?_)
      | (with_reducible refine LeO.bind ?_ (fun _ => ?_))
      | exact ih0 _ _ _ _
      | exact spec_TokenOf.mono _ _
      | exact LeO.none _
      | refine LeO.ite ?_ ?_
      | refine LeO.bind ?_ (fun _ => ?_)
set_option maxHeartbeats 8000000 in
set_option maxRecDepth 100000 in
theorem laws_tokensOf.calls (k : Nat) (A0 : Option Addr) (c0 : Nat) (l0 : List ByteArray) (r : List (S71)) (w : World) (hr0 : Kd.C Kd.string w A0 l0.length l0) (hc0 : l0.length ≤ c0) (h : laws_tokensOf.f k l0 = some r) :
    Calls Tryz.prog 14 #[.slice A0 l0.length c0] w fun e w' => ∃ v0_ : Value, e = .returned (v0_) ∧ Kd.R k71 71 w' w.heap.size (fun _ => True) v0_ r ∧ Below w.heap.size w w' := by
  have HR0 := Aside0.mk hr0
  have HC0 := Aside0.mk hc0
  clear hr0 hc0
  have HB := Aside0.mk (Below.refl w.heap.size w)
  have H : (laws_tokensOf.l0 k (([] : List (S71))) l0 (l0.length : Int) 0) = some r := h
  clear h
  obtain ⟨y339, hy339⟩ : ∃ y_ : List (S71), y_ = (([] : List (S71))) := ⟨_, rfl⟩
  replace H : (laws_tokensOf.l0 k y339 l0 (l0.length : Int) 0) = some r := by first | (rw [hy339]; with_reducible exact H) | (have H2_ := (Option.bind_some _ _).symm.trans H; rw [hy339]; with_reducible exact H2_) | (have H2_ := (Option.bind_some _ _).symm.trans H; with_reducible exact H2_) | with_reducible exact H | (rw [hy339]; exact H) | exact H
  have Ny339 := Aside0.mk hy339
  clear hy339
  have H' := Aside0.mk H
  clear H
  go_enter Tryz.func14, Tryz.ntmps14
  go_wp2_with (first | ((with_reducible refine gate_dst (N := 6) rfl ?_); refine Kd.R_lit k71 _ 71 ?hg (N := 6) ?hd (xs := ([] : List (S71))) (inner := []) (ok := fun _ => True) (okp := fun _ => True) ?hr ?hp (fun _ hk => hk) trivial (Below.refl _ _) (Nat.le_refl _) (by simp) ?_; (case hd => rfl); (case hg => rfl); (case hr => first | (go_simp; done) | (go_simp; rfl)); (case hp => exact (Reps.none _ _)); intro v340 w2 ho3 hb hg_ hnew_; clear hg_ hnew_; (first | rw [← Ny339.out] at ho3 | (simp only [Int.reduceToNat] at ho3; rw [← Ny339.out] at ho3)); have n0_ := Aside0.mk (Kd.R_lower ho3 (below_size (by repeat (first | (with_reducible first | exact HB.out | apply below_alloc | apply pw_below_drewN | apply below_drew1) | exact HB.out)))); have n1_ := Aside0.mk (below_step (by repeat (first | (with_reducible first | exact HB.out | apply below_alloc | apply pw_below_drewN | apply below_drew1) | exact HB.out)) hb); clear HB; have HO341 := n0_; have HB := n1_; clear n0_ n1_; clear hb ho3))
  go_loopg [3, 9] k (fun kq v3 v9 w' => ∃ (x3_1 : List (S71)) (x9_1 : Int), v9 = .int .i64 x9_1 ∧ Aside0 (laws_tokensOf.l0 kq x3_1 l0 (l0.length : Int) x9_1 = some r) ∧ Aside0 (kq ≤ k) ∧ Aside0 (Kd.R k71 71 w' w.heap.size (fun _ => True) v3 x3_1) ∧ Aside0 (Below w.heap.size w w'))
  case atStart => exact ⟨(y339), (0), (by first | rfl | (simp; done) | (simp [*]; done)), H', ⟨Nat.le_refl _⟩, ⟨by (with_reducible repeat (first | apply Kd.R_alloc | apply Kd.R_drewN | apply Kd.R_drew)); exact HO341.out⟩, ⟨by repeat (first | (with_reducible first | exact HB.out | apply below_alloc | apply pw_below_drewN | apply below_drew1) | exact HB.out)⟩⟩
  case round =>
    clear H'
    try clear c1
    try clear p2
    obtain ⟨x3_1, x9_1, rfl, HA, HK1, HO_3, HB⟩ := hrel
    cases gk with
    | zero => exact absurd HA.out (by simp [laws_tokensOf.l0])
    | succ k1 =>
      have H := HA.out
      clear HA
      simp only [laws_tokensOf.l0] at H
      by_cases c4 : x9_1 < (l0.length : Int)
      · rw [if_pos c4] at H
        have c4b0 : decide (x9_1 < (l0.length : Int)) = true := decide_eq_true c4
        clear c4
        by_cases c5 : 0 ≤ x9_1
        · rw [if_pos c5] at H
          have c5b0 : decide (0 ≤ x9_1) = true := decide_eq_true c5
          clear c5
          by_cases c6 : x9_1 < (l0.length : Int)
          · rw [if_pos c6] at H
            have c6b0 : decide (x9_1 < (l0.length : Int)) = true := decide_eq_true c6
            clear c6
            replace H := Option.bind_eq_some_iff.mp H
            obtain ⟨⟨t343, t344⟩, A70, H⟩ := H
            replace H : (if x3_1.length < 5864062014805 then (laws_tokensOf.l0 k1 (x3_1 ++ [(⟨t343, t344⟩ : S71)]) l0 (l0.length : Int) (wrap64 (x9_1 + 1))) else (none)) = some r := H
            have A7 := Aside0.mk A70
            clear A70
            by_cases c8 : x3_1.length < 5864062014805
            · rw [if_pos c8] at H
              have LMc8 := Aside0.mk c8
              clear c8
              obtain ⟨y345, hy345⟩ : ∃ y_ : List (S71), y_ = (x3_1 ++ [(⟨t343, t344⟩ : S71)]) := ⟨_, rfl⟩
              replace H : (laws_tokensOf.l0 k1 y345 l0 (l0.length : Int) (wrap64 (x9_1 + 1))) = some r := by first | (rw [hy345]; with_reducible exact H) | (have H2_ := (Option.bind_some _ _).symm.trans H; rw [hy345]; with_reducible exact H2_) | (have H2_ := (Option.bind_some _ _).symm.trans H; with_reducible exact H2_) | with_reducible exact H | (rw [hy345]; exact H) | exact H
              have Ny345 := Aside0.mk hy345
              clear hy345
              have H' := Aside0.mk H
              clear H
              have p342 : 0 ≤ (x9_1 : Int) := of_decide_eq_true (by first | (with_reducible assumption) | assumption)
              have q342 : x9_1 < (l0.length : Int) := of_decide_eq_true (by first | (with_reducible assumption) | assumption)
              obtain ⟨ad342, e342, hx342_0⟩ := Kd.at_string HR0.out x9_1 p342 q342
              cases e342
              replace hx342_0 := (HB.out.cell (World.block_lt_of_cell? w _ hx342_0)).trans hx342_0
              replace p342 := eq_true p342
              replace q342 := eq_true q342
              go_wp2_with (first | ((with_reducible refine gate_callee (f := 36) rfl ?_); refine goesL_ (some 15) rfl rfl Tryz.func36 (by kernel_rfl) rfl #[.string (rdOf ByteArray.empty l0 x9_1)] rfl (by (try simp only [List.map_toArray, List.map_cons, List.map_nil]); first | done | rfl | (simp only [List.length_drop, List.length_take]; rfl)) ?_; (with_reducible refine (spec_TokenOf.calls k1 (rdOf ByteArray.empty l0 x9_1) t343 t344 _ A7.out).mono ?_); rintro e w9 ⟨rfl, hb⟩; refine ⟨_, rfl, ?_⟩; have n0_ := Aside0.mk (Kd.R_below (by (with_reducible repeat (first | apply Kd.R_alloc | apply Kd.R_drewN | apply Kd.R_drew)); exact HO_3.out) hb); have n1_ := Aside0.mk (below_step (by repeat (first | (with_reducible first | exact HB.out | apply below_alloc | apply pw_below_drewN | apply below_drew1) | exact HB.out)) hb); clear HO_3; clear HB; have HO_3 := n0_; have HB := n1_; clear n0_ n1_; (try clear hb); (try clear hb2); (try clear hk); (try clear hi)) | ((with_reducible refine gate_builtin (b := .append) (xs := #[.tmp 13, .tmp 16]) rfl ?_); at_builtin; refine Kd.R_append k71 (w0 := w) w.heap.size rfl (.tmp 13) (.tmp 16) 28 71 (.agg #[(.int .i64 0), (.string ⟨#[]⟩)]) 24 rfl Tryz.underlying28 info71 rfl (by decide) (by omega) u3 x3_1 (⟨t343, t344⟩ : S71) [.int .i64 t343, .string t344] (fun _ => True) (fun _ => False) rfl rfl ?aP (fun _ hk => hk.elim) ?aF ?aO ?aB ?aS ?aL ?_; (case aP => exact k71_mkM _ _ _ (⟨t343, t344⟩ : S71)); (case aB => exact (by repeat (first | (with_reducible first | exact HB.out | apply below_alloc | apply pw_below_drewN | apply below_drew1) | exact HB.out))); (case aF => exact (fun _ _ => trivial)); (case aO => exact (by (with_reducible repeat (first | apply Kd.R_alloc | apply Kd.R_drewN | apply Kd.R_drew)); exact HO_3.out)); (case aS => exact (below_size (by repeat (first | (with_reducible first | exact HB.out | apply below_alloc | apply pw_below_drewN | apply below_drew1) | exact HB.out)))); (case aL => have := LMc8.out; omega); intro v346 w10 ho hb hg hat; rw [← Ny345.out] at ho; have n0_ := Aside0.mk (hb); have n1_ := Aside0.mk (ho); clear HB; clear HO_3; have HB := n0_; have HO347 := n1_; clear n0_ n1_; clear ho hb hg hat))
              go_roundg k1
              case measure => have := HK1.out; omega
              case rel => exact ⟨(y345), (wrap64 (x9_1 + 1)), (by first | rfl | (simp; done) | (simp [*]; done)), H', ⟨by have := HK1.out; omega⟩, ⟨by (with_reducible repeat (first | apply Kd.R_alloc | apply Kd.R_drewN | apply Kd.R_drew)); exact HO347.out⟩, ⟨by repeat (first | (with_reducible first | exact HB.out | apply below_alloc | apply pw_below_drewN | apply below_drew1) | exact HB.out)⟩⟩
            · rw [if_neg c8] at H
              exact absurd H (by simp)
          · rw [if_neg c6] at H
            exact absurd H (by simp)
        · rw [if_neg c5] at H
          exact absurd H (by simp)
      · rw [if_neg c4] at H
        have c4b0 : decide (x9_1 < (l0.length : Int)) = false := decide_eq_false c4
        clear c4
        obtain rfl := Option.some.inj H
        go_wp2
        go_ret
        exact ⟨_, by first | rfl | (simp [errW_none, errW_some] <;> rfl) | (simp [*, errW_none, errW_some] <;> rfl), by (with_reducible repeat (first | apply Kd.R_alloc | apply Kd.R_drewN | apply Kd.R_drew)); exact HO_3.out, by repeat (first | (with_reducible first | exact HB.out | apply below_alloc | apply pw_below_drewN | apply below_drew1) | exact HB.out)⟩



/-! ### spec_SameTexts: function 12 -/
def spec_SameTexts.l0 : Nat → List ByteArray → List ByteArray → Int → Int → Option (Bool)
  | 0, _, _, _, _ => none
  | k + 1, x1, x12, x13, x14 => if x14 < x13 then (if 0 ≤ x14 then (if x14 < (x12.length : Int) then (if x14 < (x1.length : Int) then (if (rdOf ByteArray.empty x12 x14).toList = (rdOf ByteArray.empty x1 x14).toList then (spec_SameTexts.l0 k x1 x12 x13 (wrap64 (x14 + 1))) else (some false)) else (none)) else (none)) else (none)) else (some true)
def spec_SameTexts.f (k : Nat) (l0 : List ByteArray) (l1 : List ByteArray) : Option (Bool) := if (l0.length : Int) = (l1.length : Int) then (spec_SameTexts.l0 k l1 l0 (l0.length : Int) 0) else (some false)
theorem spec_SameTexts.mono_l : ∀ k, (∀ y0 y1 y2 y3, LeO (spec_SameTexts.l0 k y0 y1 y2 y3) (spec_SameTexts.l0 (k + 1) y0 y1 y2 y3))
  | 0 => fun _ _ _ _ r h => by simp [spec_SameTexts.l0] at h
  | k + 1 => by
    have ih0 := spec_SameTexts.mono_l k
    · intro y0 y1 y2 y3
      unfold spec_SameTexts.l0
      repeat' first
      | (with_reducible exact ih0 _ _ _ _)
      | (with_reducible exact LeO.refl _)
      | (with_reducible exact LeO.none _)
      | (with_reducible refine LeO.ite ?_ ?_)
      | (with_reducible refine LeO.bind ?_ (fun _ => ?_))
      | exact ih0 _ _ _ _
      | exact LeO.none _
      | refine LeO.ite ?_ ?_
      | refine LeO.bind ?_ (fun _ => ?_)
theorem spec_SameTexts.mono : ∀ a0 a1 k, LeO (spec_SameTexts.f k a0 a1) (spec_SameTexts.f (k + 1) a0 a1) := by
  intro a0 a1 k
  have ih0 := spec_SameTexts.mono_l k
  unfold spec_SameTexts.f
  repeat' first
      | (with_reducible exact ih0 _ _ _ _)
      | (with_reducible exact LeO.refl _)
      | (with_reducible exact LeO.none _)
      | (with_reducible refine LeO.ite ?_ ?_)
      | (with_reducible refine LeO.bind ?_ (fun _ => ?_))
      | exact ih0 _ _ _ _
      | exact LeO.none _
      | refine LeO.ite ?_ ?_
      | refine LeO.bind ?_ (fun _ => ?_)
set_option maxHeartbeats 8000000 in
set_option maxRecDepth 100000 in
theorem spec_SameTexts.calls (k : Nat) (A0 : Option Addr) (c0 : Nat) (l0 : List ByteArray) (A1 : Option Addr) (c1 : Nat) (l1 : List ByteArray) (r : Bool) (w : World) (hr0 : Kd.C Kd.string w A0 l0.length l0) (hc0 : l0.length ≤ c0) (hr1 : Kd.C Kd.string w A1 l1.length l1) (hc1 : l1.length ≤ c1) (h : spec_SameTexts.f k l0 l1 = some r) :
    Calls Tryz.prog 12 #[.slice A0 l0.length c0, .slice A1 l1.length c1] w fun e w' => e = .returned (.bool r) ∧ Drawn0 w w' := by
  have HR0 := Aside0.mk hr0
  have HC0 := Aside0.mk hc0
  clear hr0 hc0
  have HR1 := Aside0.mk hr1
  have HC1 := Aside0.mk hc1
  clear hr1 hc1
  have H : (if (l0.length : Int) = (l1.length : Int) then (spec_SameTexts.l0 k l1 l0 (l0.length : Int) 0) else (some false)) = some r := h
  clear h
  by_cases c3 : (l0.length : Int) = (l1.length : Int)
  · rw [if_pos c3] at H
    have c3b0 : ((l0.length : Int) == (l1.length : Int)) = true := beq_iff_eq.mpr c3
    have c3b1 : ((l0.length : Int) != (l1.length : Int)) = false := bne_eq_false_iff_eq.mpr c3
    have c3b2 : (l0.length == l1.length) = true := by first | simpa using c3 | (simp at c3 ⊢; omega)
    clear c3
    have H' := Aside0.mk H
    clear H
    go_enter Tryz.func12, Tryz.ntmps12
    go_wp2
    go_loopg [14] k (fun kq v14 w' => ∃ (x14_1 : Int), v14 = .int .i64 x14_1 ∧ Aside0 (spec_SameTexts.l0 kq l1 l0 (l0.length : Int) x14_1 = some r) ∧ Aside0 (kq ≤ k) ∧ Drawn0 w w')
    case atStart => exact ⟨(0), (by first | rfl | (simp; done) | (simp [*]; done)), H', ⟨Nat.le_refl _⟩, by repeat (first | exact Drawn0.refl _ | apply Drawn0.step)⟩
    case round =>
      clear H'
      try clear c1
      try clear p2
      try clear c3
      try clear c3b0
      try clear c3b1
      try clear c3b2
      obtain ⟨x14_1, rfl, HA, HK1, ⟨m1, rfl⟩⟩ := hrel
      cases gk with
      | zero => exact absurd HA.out (by simp [spec_SameTexts.l0])
      | succ k1 =>
        have H := HA.out
        clear HA
        simp only [spec_SameTexts.l0] at H
        by_cases c4 : x14_1 < (l0.length : Int)
        · rw [if_pos c4] at H
          have c4b0 : decide (x14_1 < (l0.length : Int)) = true := decide_eq_true c4
          clear c4
          by_cases c5 : 0 ≤ x14_1
          · rw [if_pos c5] at H
            have c5b0 : decide (0 ≤ x14_1) = true := decide_eq_true c5
            clear c5
            by_cases c6 : x14_1 < (l0.length : Int)
            · rw [if_pos c6] at H
              have c6b0 : decide (x14_1 < (l0.length : Int)) = true := decide_eq_true c6
              clear c6
              by_cases c7 : x14_1 < (l1.length : Int)
              · rw [if_pos c7] at H
                have c7b0 : decide (x14_1 < (l1.length : Int)) = true := decide_eq_true c7
                clear c7
                by_cases c8 : (rdOf ByteArray.empty l0 x14_1).toList = (rdOf ByteArray.empty l1 x14_1).toList
                · rw [if_pos c8] at H
                  have c8b0 : ((rdOf ByteArray.empty l0 x14_1).toList == (rdOf ByteArray.empty l1 x14_1).toList) = true := beq_iff_eq.mpr c8
                  have c8b1 : ((rdOf ByteArray.empty l0 x14_1).toList != (rdOf ByteArray.empty l1 x14_1).toList) = false := bne_eq_false_iff_eq.mpr c8
                  clear c8
                  have H' := Aside0.mk H
                  clear H
                  have p316 : 0 ≤ (x14_1 : Int) := of_decide_eq_true (by first | (with_reducible assumption) | assumption)
                  have q316 : x14_1 < (l0.length : Int) := of_decide_eq_true (by first | (with_reducible assumption) | assumption)
                  obtain ⟨ad316, e316, hx316_0⟩ := Kd.at_string HR0.out x14_1 p316 q316
                  cases e316
                  replace p316 := eq_true p316
                  replace q316 := eq_true q316
                  have p317 : 0 ≤ (x14_1 : Int) := of_decide_eq_true (by first | (with_reducible assumption) | assumption)
                  have q317 : x14_1 < (l1.length : Int) := of_decide_eq_true (by first | (with_reducible assumption) | assumption)
                  obtain ⟨ad317, e317, hx317_0⟩ := Kd.at_string HR1.out x14_1 p317 q317
                  cases e317
                  replace p317 := eq_true p317
                  replace q317 := eq_true q317
                  go_wp2
                  go_roundg k1
                  case measure => have := HK1.out; omega
                  case rel => exact ⟨(wrap64 (x14_1 + 1)), (by first | rfl | (simp; done) | (simp [*]; done)), H', ⟨by have := HK1.out; omega⟩, by repeat (first | exact Drawn0.refl _ | apply Drawn0.step)⟩
                · rw [if_neg c8] at H
                  have c8b0 : ((rdOf ByteArray.empty l0 x14_1).toList == (rdOf ByteArray.empty l1 x14_1).toList) = false := beq_eq_false_iff_ne.mpr c8
                  have c8b1 : ((rdOf ByteArray.empty l0 x14_1).toList != (rdOf ByteArray.empty l1 x14_1).toList) = true := bne_iff_ne.mpr c8
                  obtain rfl := Option.some.inj H
                  have p316 : 0 ≤ (x14_1 : Int) := of_decide_eq_true (by first | (with_reducible assumption) | assumption)
                  have q316 : x14_1 < (l0.length : Int) := of_decide_eq_true (by first | (with_reducible assumption) | assumption)
                  obtain ⟨ad316, e316, hx316_0⟩ := Kd.at_string HR0.out x14_1 p316 q316
                  cases e316
                  replace p316 := eq_true p316
                  replace q316 := eq_true q316
                  have p317 : 0 ≤ (x14_1 : Int) := of_decide_eq_true (by first | (with_reducible assumption) | assumption)
                  have q317 : x14_1 < (l1.length : Int) := of_decide_eq_true (by first | (with_reducible assumption) | assumption)
                  obtain ⟨ad317, e317, hx317_0⟩ := Kd.at_string HR1.out x14_1 p317 q317
                  cases e317
                  replace p317 := eq_true p317
                  replace q317 := eq_true q317
                  go_wp2
                  go_ret
                  exact ⟨by first | rfl | (simp; done) | (simp [*]; done), by repeat (first | exact Drawn0.refl _ | apply Drawn0.step)⟩
              · rw [if_neg c7] at H
                exact absurd H (by simp)
            · rw [if_neg c6] at H
              exact absurd H (by simp)
          · rw [if_neg c5] at H
            exact absurd H (by simp)
        · rw [if_neg c4] at H
          have c4b0 : decide (x14_1 < (l0.length : Int)) = false := decide_eq_false c4
          clear c4
          obtain rfl := Option.some.inj H
          go_wp2
          go_ret
          exact ⟨by first | rfl | (simp; done) | (simp [*]; done), by repeat (first | exact Drawn0.refl _ | apply Drawn0.step)⟩
  · rw [if_neg c3] at H
    have c3b0 : ((l0.length : Int) == (l1.length : Int)) = false := beq_eq_false_iff_ne.mpr c3
    have c3b1 : ((l0.length : Int) != (l1.length : Int)) = true := bne_iff_ne.mpr c3
    have c3b2 : (l0.length == l1.length) = false := by first | simpa using c3 | (simp at c3 ⊢; omega)
    obtain rfl := Option.some.inj H
    go_enter Tryz.func12, Tryz.ntmps12
    go_wp2
    go_ret
    exact ⟨by first | rfl | (simp; done) | (simp [*]; done), by repeat (first | exact Drawn0.refl _ | apply Drawn0.step)⟩


/-! ### spec_list: function 33 -/
def spec_list.l0 : Nat → ByteArray → ByteArray → List ByteArray → Int → Int → Option (ByteArray)
  | 0, _, _, _, _, _ => none
  | k + 1, x1, x5, x8, x9, x10 => if x10 < x9 then (if 0 ≤ x10 then (if x10 < (x8.length : Int) then (if x10 > 0 then (if x5.size + x1.size ≤ 9223372036854775807 then (if (x5 ++ x1).size + (rdOf ByteArray.empty x8 x10).size ≤ 9223372036854775807 then (spec_list.l0 k x1 ((x5 ++ x1) ++ (rdOf ByteArray.empty x8 x10)) x8 x9 (wrap64 (x10 + 1))) else (none)) else (none)) else (if x5.size + (rdOf ByteArray.empty x8 x10).size ≤ 9223372036854775807 then (spec_list.l0 k x1 (x5 ++ (rdOf ByteArray.empty x8 x10)) x8 x9 (wrap64 (x10 + 1))) else (none))) else (none)) else (none)) else (some x5)
def spec_list.f (k : Nat) (l0 : List ByteArray) (a1 : ByteArray) : Option (ByteArray) := spec_list.l0 k a1 (⟨#[]⟩ : ByteArray) l0 (l0.length : Int) 0
theorem spec_list.mono_l : ∀ k, (∀ y0 y1 y2 y3 y4, LeO (spec_list.l0 k y0 y1 y2 y3 y4) (spec_list.l0 (k + 1) y0 y1 y2 y3 y4))
  | 0 => fun _ _ _ _ _ r h => by simp [spec_list.l0] at h
  | k + 1 => by
    have ih0 := spec_list.mono_l k
    · intro y0 y1 y2 y3 y4
      unfold spec_list.l0
      repeat' first
      | (with_reducible exact ih0 _ _ _ _ _)
      | (with_reducible exact LeO.refl _)
      | (with_reducible exact LeO.none _)
      | (with_reducible refine LeO.ite ?_ ?_)
      | (with_reducible refine LeO.bind ?_ (fun _ => ?_))
      | exact ih0 _ _ _ _ _
      | exact LeO.none _
      | refine LeO.ite ?_ ?_
      | refine LeO.bind ?_ (fun _ => ?_)
theorem spec_list.mono : ∀ a0 a1 k, LeO (spec_list.f k a0 a1) (spec_list.f (k + 1) a0 a1) := by
  intro a0 a1 k
  have ih0 := spec_list.mono_l k
  unfold spec_list.f
  repeat' first
      | (with_reducible exact ih0 _ _ _ _ _)
      | (with_reducible exact LeO.refl _)
      | (with_reducible exact LeO.none _)
      | (with_reducible refine LeO.ite ?_ ?_)
      | (with_reducible refine LeO.bind ?_ (fun _ => ?_))
      | exact ih0 _ _ _ _ _
      | exact LeO.none _
      | refine LeO.ite ?_ ?_
      | refine LeO.bind ?_ (fun _ => ?_)
set_option maxHeartbeats 8000000 in
set_option maxRecDepth 100000 in
theorem spec_list.calls (k : Nat) (A0 : Option Addr) (c0 : Nat) (l0 : List ByteArray) (a1 : ByteArray) (r : ByteArray) (w : World) (hr0 : Kd.C Kd.string w A0 l0.length l0) (hc0 : l0.length ≤ c0) (h : spec_list.f k l0 a1 = some r) :
    Calls Tryz.prog 33 #[.slice A0 l0.length c0, .string a1] w fun e w' => e = .returned (.string r) ∧ Drawn0 w w' := by
  have HR0 := Aside0.mk hr0
  have HC0 := Aside0.mk hc0
  clear hr0 hc0
  have H : (spec_list.l0 k a1 (⟨#[]⟩ : ByteArray) l0 (l0.length : Int) 0) = some r := h
  clear h
  have H' := Aside0.mk H
  clear H
  go_enter Tryz.func33, Tryz.ntmps33
  go_wp2
  go_loopg [5, 10] k (fun kq v5 v10 w' => ∃ (x5_1 : ByteArray) (x10_1 : Int), v5 = .string x5_1 ∧ v10 = .int .i64 x10_1 ∧ Aside0 (spec_list.l0 kq a1 x5_1 l0 (l0.length : Int) x10_1 = some r) ∧ Aside0 (kq ≤ k) ∧ Drawn0 w w')
  case atStart => exact ⟨((⟨#[]⟩ : ByteArray)), (0), (by first | rfl | (simp; done) | (simp [*]; done)), (by first | rfl | (simp; done) | (simp [*]; done)), H', ⟨Nat.le_refl _⟩, by repeat (first | exact Drawn0.refl _ | apply Drawn0.step)⟩
  case round =>
    clear H'
    try clear p2
    obtain ⟨x5_1, x10_1, rfl, rfl, HA, HK1, ⟨m1, rfl⟩⟩ := hrel
    cases gk with
    | zero => exact absurd HA.out (by simp [spec_list.l0])
    | succ k1 =>
      have H := HA.out
      clear HA
      simp only [spec_list.l0] at H
      by_cases c3 : x10_1 < (l0.length : Int)
      · rw [if_pos c3] at H
        have c3b0 : decide (x10_1 < (l0.length : Int)) = true := decide_eq_true c3
        clear c3
        by_cases c4 : 0 ≤ x10_1
        · rw [if_pos c4] at H
          have c4b0 : decide (0 ≤ x10_1) = true := decide_eq_true c4
          clear c4
          by_cases c5 : x10_1 < (l0.length : Int)
          · rw [if_pos c5] at H
            have c5b0 : decide (x10_1 < (l0.length : Int)) = true := decide_eq_true c5
            clear c5
            by_cases c6 : x10_1 > 0
            · rw [if_pos c6] at H
              have c6b0 : decide (0 < x10_1) = true := decide_eq_true c6
              clear c6
              by_cases c7 : x5_1.size + a1.size ≤ 9223372036854775807
              · rw [if_pos c7] at H
                have c7b0 := eq_true c7
                have c7b1 : decide (x5_1.size + a1.size ≤ 9223372036854775807) = true := decide_eq_true c7
                try have c7b2 : (9223372036854775807 < x5_1.size + a1.size) = False := eq_false (Nat.not_lt.2 c7)
                by_cases c8 : (x5_1 ++ a1).size + (rdOf ByteArray.empty l0 x10_1).size ≤ 9223372036854775807
                · rw [if_pos c8] at H
                  have c8b0 := eq_true c8
                  have c8b1 : decide ((x5_1 ++ a1).size + (rdOf ByteArray.empty l0 x10_1).size ≤ 9223372036854775807) = true := decide_eq_true c8
                  try have c8b2 : (9223372036854775807 < (x5_1 ++ a1).size + (rdOf ByteArray.empty l0 x10_1).size) = False := eq_false (Nat.not_lt.2 c8)
                  have H' := Aside0.mk H
                  clear H
                  have p302 : 0 ≤ (x10_1 : Int) := of_decide_eq_true (by first | (with_reducible assumption) | assumption)
                  have q302 : x10_1 < (l0.length : Int) := of_decide_eq_true (by first | (with_reducible assumption) | assumption)
                  obtain ⟨ad302, e302, hx302_0⟩ := Kd.at_string HR0.out x10_1 p302 q302
                  cases e302
                  replace p302 := eq_true p302
                  replace q302 := eq_true q302
                  go_wp2
                  go_roundg k1
                  case measure => have := HK1.out; omega
                  case rel => exact ⟨((x5_1 ++ a1) ++ (rdOf ByteArray.empty l0 x10_1)), (wrap64 (x10_1 + 1)), (by first | rfl | (simp; done) | (simp [*]; done)), (by first | rfl | (simp; done) | (simp [*]; done)), H', ⟨by have := HK1.out; omega⟩, by repeat (first | exact Drawn0.refl _ | apply Drawn0.step)⟩
                · rw [if_neg c8] at H
                  exact absurd H (by simp)
              · rw [if_neg c7] at H
                exact absurd H (by simp)
            · rw [if_neg c6] at H
              have c6b0 : decide (0 < x10_1) = false := decide_eq_false c6
              clear c6
              by_cases c9 : x5_1.size + (rdOf ByteArray.empty l0 x10_1).size ≤ 9223372036854775807
              · rw [if_pos c9] at H
                have c9b0 := eq_true c9
                have c9b1 : decide (x5_1.size + (rdOf ByteArray.empty l0 x10_1).size ≤ 9223372036854775807) = true := decide_eq_true c9
                try have c9b2 : (9223372036854775807 < x5_1.size + (rdOf ByteArray.empty l0 x10_1).size) = False := eq_false (Nat.not_lt.2 c9)
                have H' := Aside0.mk H
                clear H
                have p302 : 0 ≤ (x10_1 : Int) := of_decide_eq_true (by first | (with_reducible assumption) | assumption)
                have q302 : x10_1 < (l0.length : Int) := of_decide_eq_true (by first | (with_reducible assumption) | assumption)
                obtain ⟨ad302, e302, hx302_0⟩ := Kd.at_string HR0.out x10_1 p302 q302
                cases e302
                replace p302 := eq_true p302
                replace q302 := eq_true q302
                go_wp2
                go_roundg k1
                case measure => have := HK1.out; omega
                case rel => exact ⟨(x5_1 ++ (rdOf ByteArray.empty l0 x10_1)), (wrap64 (x10_1 + 1)), (by first | rfl | (simp; done) | (simp [*]; done)), (by first | rfl | (simp; done) | (simp [*]; done)), H', ⟨by have := HK1.out; omega⟩, by repeat (first | exact Drawn0.refl _ | apply Drawn0.step)⟩
              · rw [if_neg c9] at H
                exact absurd H (by simp)
          · rw [if_neg c5] at H
            exact absurd H (by simp)
        · rw [if_neg c4] at H
          exact absurd H (by simp)
      · rw [if_neg c3] at H
        have c3b0 : decide (x10_1 < (l0.length : Int)) = false := decide_eq_false c3
        clear c3
        obtain rfl := Option.some.inj H
        go_wp2
        go_ret
        exact ⟨by first | rfl | (simp; done) | (simp [*]; done), by repeat (first | exact Drawn0.refl _ | apply Drawn0.step)⟩

/-! ### spec_isWord: function 41 -/
def spec_isWord.f (k : Nat) (a0 : ByteArray) : Option (Bool) := if (a0.size : Int) ≤ 60 then ((spec_KindOf.f k a0).bind fun t121 => (if t121 = 0 then (some false) else (if a0.toList = ([10] : List UInt8) then (some false) else ((spec_KindOf.f k a0).bind fun t122 => (if t122 = (-2) then ((spec_IsPlainName.f k a0).bind fun t123 => (some t123)) else (some true)))))) else (some false)
theorem spec_isWord.mono : ∀ a0 k, LeO (spec_isWord.f k a0) (spec_isWord.f (k + 1) a0) := by
  intro a0 k
  unfold spec_isWord.f
  repeat' first
      | (with_reducible exact spec_IsPlainName.mono _ _)
      | (with_reducible exact spec_KindOf.mono _ _)
      | (with_reducible exact LeO.refl _)
      | (with_reducible exact LeO.none _)
      | (with_reducible refine LeO.ite ?_ ?_)
      | (with_reducible refine LeO.bind ?_ (fun _ => ?_))
      | exact spec_IsPlainName.mono _ _
      | exact spec_KindOf.mono _ _
      | exact LeO.none _
      | refine LeO.ite ?_ ?_
      | refine LeO.bind ?_ (fun _ => ?_)
set_option maxHeartbeats 8000000 in
set_option maxRecDepth 100000 in
theorem spec_isWord.calls (k : Nat) (a0 : ByteArray) (r : Bool) (w : World) (h : spec_isWord.f k a0 = some r) :
    Calls Tryz.prog 41 #[.string a0] w fun e w' => e = .returned (.bool r) ∧ Drawn0 w w' := by
  have H : (if (a0.size : Int) ≤ 60 then ((spec_KindOf.f k a0).bind fun t121 => (if t121 = 0 then (some false) else (if a0.toList = ([10] : List UInt8) then (some false) else ((spec_KindOf.f k a0).bind fun t122 => (if t122 = (-2) then ((spec_IsPlainName.f k a0).bind fun t123 => (some t123)) else (some true)))))) else (some false)) = some r := h
  clear h
  by_cases c2 : (a0.size : Int) ≤ 60
  · rw [if_pos c2] at H
    have c2b0 : decide ((a0.size : Int) ≤ 60) = true := decide_eq_true c2
    have c2b1 : decide (a0.size ≤ 60) = true := decide_eq_true (by omega)
    clear c2
    replace H := Option.bind_eq_some_iff.mp H
    obtain ⟨t121, A30, H⟩ := H
    replace H : (if t121 = 0 then (some false) else (if a0.toList = ([10] : List UInt8) then (some false) else ((spec_KindOf.f k a0).bind fun t122 => (if t122 = (-2) then ((spec_IsPlainName.f k a0).bind fun t123 => (some t123)) else (some true))))) = some r := H
    have A3 := Aside0.mk A30
    clear A30
    by_cases c4 : t121 = 0
    · rw [if_pos c4] at H
      have c4b0 : (t121 == 0) = true := beq_iff_eq.mpr c4
      have c4b1 : (t121 != 0) = false := bne_eq_false_iff_eq.mpr c4
      clear c4
      obtain rfl := Option.some.inj H
      go_enter Tryz.func41, Tryz.ntmps41
      go_wp2_with (first | (go_at_call 40; (with_reducible refine (spec_KindOf.calls k a0 t121 _ A3.out).mono ?_); rintro e w' ⟨rfl, ⟨nd, rfl⟩⟩))
      go_ret
      exact ⟨by first | rfl | (simp; done) | (simp [*]; done), by repeat (first | exact Drawn0.refl _ | apply Drawn0.step)⟩
    · rw [if_neg c4] at H
      have c4b0 : (t121 == 0) = false := beq_eq_false_iff_ne.mpr c4
      have c4b1 : (t121 != 0) = true := bne_iff_ne.mpr c4
      by_cases c5 : a0.toList = ([10] : List UInt8)
      · rw [if_pos c5] at H
        have c5b0 : (a0.toList == ([10] : List UInt8)) = true := beq_iff_eq.mpr c5
        have c5b1 : (a0.toList != ([10] : List UInt8)) = false := bne_eq_false_iff_eq.mpr c5
        clear c5
        obtain rfl := Option.some.inj H
        go_enter Tryz.func41, Tryz.ntmps41
        go_wp2_with (first | (go_at_call 40; (with_reducible refine (spec_KindOf.calls k a0 t121 _ A3.out).mono ?_); rintro e w' ⟨rfl, ⟨nd, rfl⟩⟩))
        go_ret
        exact ⟨by first | rfl | (simp; done) | (simp [*]; done), by repeat (first | exact Drawn0.refl _ | apply Drawn0.step)⟩
      · rw [if_neg c5] at H
        have c5b0 : (a0.toList == ([10] : List UInt8)) = false := beq_eq_false_iff_ne.mpr c5
        have c5b1 : (a0.toList != ([10] : List UInt8)) = true := bne_iff_ne.mpr c5
        replace H := Option.bind_eq_some_iff.mp H
        obtain ⟨t122, A60, H⟩ := H
        obtain rfl : t121 = t122 := Option.some.inj (A3.out.symm.trans A60)
        replace H : (if t121 = (-2) then ((spec_IsPlainName.f k a0).bind fun t123 => (some t123)) else (some true)) = some r := H
        have A6 := Aside0.mk A60
        clear A60
        by_cases c7 : t121 = (-2)
        · rw [if_pos c7] at H
          have c7b0 : (t121 == (-2)) = true := beq_iff_eq.mpr c7
          have c7b1 : (t121 != (-2)) = false := bne_eq_false_iff_eq.mpr c7
          clear c7
          replace H := Option.bind_eq_some_iff.mp H
          obtain ⟨t123, A80, H⟩ := H
          replace H : (some t123) = some r := H
          have A8 := Aside0.mk A80
          clear A80
          obtain rfl := Option.some.inj H
          go_enter Tryz.func41, Tryz.ntmps41
          go_wp2_with (first | (go_at_call 40; (with_reducible refine (spec_KindOf.calls k a0 t121 _ A3.out).mono ?_); rintro e w' ⟨rfl, ⟨nd, rfl⟩⟩) | (go_at_call 40; (with_reducible refine (spec_KindOf.calls k a0 t121 _ A6.out).mono ?_); rintro e w' ⟨rfl, ⟨nd, rfl⟩⟩) | (go_at_call 15; (with_reducible refine (spec_IsPlainName.calls k a0 t123 _ A8.out).mono ?_); rintro e w' ⟨rfl, ⟨nd, rfl⟩⟩))
          go_ret
          exact ⟨by first | rfl | (simp; done) | (simp [*]; done), by repeat (first | exact Drawn0.refl _ | apply Drawn0.step)⟩
        · rw [if_neg c7] at H
          have c7b0 : (t121 == (-2)) = false := beq_eq_false_iff_ne.mpr c7
          have c7b1 : (t121 != (-2)) = true := bne_iff_ne.mpr c7
          obtain rfl := Option.some.inj H
          go_enter Tryz.func41, Tryz.ntmps41
          go_wp2_with (first | (go_at_call 40; (with_reducible refine (spec_KindOf.calls k a0 t121 _ A3.out).mono ?_); rintro e w' ⟨rfl, ⟨nd, rfl⟩⟩) | (go_at_call 40; (with_reducible refine (spec_KindOf.calls k a0 t121 _ A6.out).mono ?_); rintro e w' ⟨rfl, ⟨nd, rfl⟩⟩))
          go_ret
          exact ⟨by first | rfl | (simp; done) | (simp [*]; done), by repeat (first | exact Drawn0.refl _ | apply Drawn0.step)⟩
  · rw [if_neg c2] at H
    have c2b0 : decide ((a0.size : Int) ≤ 60) = false := decide_eq_false c2
    have c2b1 : decide (a0.size ≤ 60) = false := decide_eq_false (by omega)
    clear c2
    obtain rfl := Option.some.inj H
    go_enter Tryz.func41, Tryz.ntmps41
    go_wp2
    go_ret
    exact ⟨by first | rfl | (simp; done) | (simp [*]; done), by repeat (first | exact Drawn0.refl _ | apply Drawn0.step)⟩

/-! ### spec_isBody: function 22 -/
def spec_isBody.l0 : Nat → List ByteArray → Bool → List ByteArray → Int → Int → Option (Bool)
  | 0, _, _, _, _, _ => none
  | k + 1, x0, x1, x7, x8, x9 => if x9 < x8 then (if 0 ≤ x9 then (if x9 < (x7.length : Int) then (if (rdOf ByteArray.empty x7 x9).toList = ([10] : List UInt8) then (spec_isBody.l0 k x0 x1 x7 x8 (wrap64 (x9 + 1))) else ((spec_isWord.f k (rdOf ByteArray.empty x7 x9)).bind fun t125 => (if t125 = true then (spec_isBody.l0 k x0 x1 x7 x8 (wrap64 (x9 + 1))) else (some false)))) else (none)) else (none)) else (if (x0.length : Int) ≤ 20 then (if x1 = true then (some true) else (if (x0.length : Int) = 0 then (some true) else (if 0 < (x0.length : Int) then (some ((rdOf ByteArray.empty x0 0).toList != ([40] : List UInt8))) else (none)))) else (some false))
def spec_isBody.f (k : Nat) (l0 : List ByteArray) (a1 : Bool) : Option (Bool) := spec_isBody.l0 k l0 a1 l0 (l0.length : Int) 0
theorem spec_isBody.mono_l : ∀ k, (∀ y0 y1 y2 y3 y4, LeO (spec_isBody.l0 k y0 y1 y2 y3 y4) (spec_isBody.l0 (k + 1) y0 y1 y2 y3 y4))
  | 0 => fun _ _ _ _ _ r h => by simp [spec_isBody.l0] at h
  | k + 1 => by
    have ih0 := spec_isBody.mono_l k
    · intro y0 y1 y2 y3 y4
      unfold spec_isBody.l0
      repeat' first
      | (with_reducible exact ih0 _ _ _ _ _)
      | (with_reducible exact spec_isWord.mono _ _)
      | (with_reducible exact LeO.refl _)
      | (with_reducible exact LeO.none _)
      | (with_reducible refine LeO.ite ?_ ?_)
      | (with_reducible refine LeO.bind ?_ (fun _ => ?_))
      | exact ih0 _ _ _ _ _
      | exact spec_isWord.mono _ _
      | exact LeO.none _
      | refine LeO.ite ?_ ?_
      | refine LeO.bind ?_ (fun _ => ?_)
theorem spec_isBody.mono : ∀ a0 a1 k, LeO (spec_isBody.f k a0 a1) (spec_isBody.f (k + 1) a0 a1) := by
  intro a0 a1 k
  have ih0 := spec_isBody.mono_l k
  unfold spec_isBody.f
  repeat' first
      | (with_reducible exact ih0 _ _ _ _ _)
      | (with_reducible exact spec_isWord.mono _ _)
      | (with_reducible exact LeO.refl _)
      | (with_reducible exact LeO.none _)
      | (with_reducible refine LeO.ite ?_ ?_)
      | (with_reducible refine LeO.bind ?_ (fun _ => ?_))
      | exact ih0 _ _ _ _ _
      | exact spec_isWord.mono _ _
      | exact LeO.none _
      | refine LeO.ite ?_ ?_
      | refine LeO.bind ?_ (fun _ => ?_)
set_option maxHeartbeats 8000000 in
set_option maxRecDepth 100000 in
theorem spec_isBody.calls (k : Nat) (A0 : Option Addr) (c0 : Nat) (l0 : List ByteArray) (a1 : Bool) (r : Bool) (w : World) (hr0 : Kd.C Kd.string w A0 l0.length l0) (hc0 : l0.length ≤ c0) (h : spec_isBody.f k l0 a1 = some r) :
    Calls Tryz.prog 22 #[.slice A0 l0.length c0, .bool a1] w fun e w' => e = .returned (.bool r) ∧ Drawn0 w w' := by
  have HR0 := Aside0.mk hr0
  have HC0 := Aside0.mk hc0
  clear hr0 hc0
  have H : (spec_isBody.l0 k l0 a1 l0 (l0.length : Int) 0) = some r := h
  clear h
  have H' := Aside0.mk H
  clear H
  go_enter Tryz.func22, Tryz.ntmps22
  go_wp2
  go_loopg [9] k (fun kq v9 w' => ∃ (x9_1 : Int), v9 = .int .i64 x9_1 ∧ Aside0 (spec_isBody.l0 kq l0 a1 l0 (l0.length : Int) x9_1 = some r) ∧ Aside0 (kq ≤ k) ∧ Drawn0 w w')
  case atStart => exact ⟨(0), (by first | rfl | (simp; done) | (simp [*]; done)), H', ⟨Nat.le_refl _⟩, by repeat (first | exact Drawn0.refl _ | apply Drawn0.step)⟩
  case round =>
    clear H'
    try clear c2
    try clear p2
    obtain ⟨x9_1, rfl, HA, HK1, ⟨m1, rfl⟩⟩ := hrel
    cases gk with
    | zero => exact absurd HA.out (by simp [spec_isBody.l0])
    | succ k1 =>
      have H := HA.out
      clear HA
      simp only [spec_isBody.l0] at H
      by_cases c3 : x9_1 < (l0.length : Int)
      · rw [if_pos c3] at H
        have c3b0 : decide (x9_1 < (l0.length : Int)) = true := decide_eq_true c3
        clear c3
        by_cases c4 : 0 ≤ x9_1
        · rw [if_pos c4] at H
          have c4b0 : decide (0 ≤ x9_1) = true := decide_eq_true c4
          clear c4
          by_cases c5 : x9_1 < (l0.length : Int)
          · rw [if_pos c5] at H
            have c5b0 : decide (x9_1 < (l0.length : Int)) = true := decide_eq_true c5
            clear c5
            by_cases c6 : (rdOf ByteArray.empty l0 x9_1).toList = ([10] : List UInt8)
            · rw [if_pos c6] at H
              have c6b0 : ((rdOf ByteArray.empty l0 x9_1).toList == ([10] : List UInt8)) = true := beq_iff_eq.mpr c6
              have c6b1 : ((rdOf ByteArray.empty l0 x9_1).toList != ([10] : List UInt8)) = false := bne_eq_false_iff_eq.mpr c6
              clear c6
              have H' := Aside0.mk H
              clear H
              have p124 : 0 ≤ (x9_1 : Int) := of_decide_eq_true (by first | (with_reducible assumption) | assumption)
              have q124 : x9_1 < (l0.length : Int) := of_decide_eq_true (by first | (with_reducible assumption) | assumption)
              obtain ⟨ad124, e124, hx124_0⟩ := Kd.at_string HR0.out x9_1 p124 q124
              cases e124
              replace p124 := eq_true p124
              replace q124 := eq_true q124
              go_wp2
              go_roundg k1
              case measure => have := HK1.out; omega
              case rel => exact ⟨(wrap64 (x9_1 + 1)), (by first | rfl | (simp; done) | (simp [*]; done)), H', ⟨by have := HK1.out; omega⟩, by repeat (first | exact Drawn0.refl _ | apply Drawn0.step)⟩
            · rw [if_neg c6] at H
              have c6b0 : ((rdOf ByteArray.empty l0 x9_1).toList == ([10] : List UInt8)) = false := beq_eq_false_iff_ne.mpr c6
              have c6b1 : ((rdOf ByteArray.empty l0 x9_1).toList != ([10] : List UInt8)) = true := bne_iff_ne.mpr c6
              replace H := Option.bind_eq_some_iff.mp H
              obtain ⟨t125, A70, H⟩ := H
              replace H : (if t125 = true then (spec_isBody.l0 k1 l0 a1 l0 (l0.length : Int) (wrap64 (x9_1 + 1))) else (some false)) = some r := H
              have A7 := Aside0.mk A70
              clear A70
              by_cases c8 : t125 = true
              · subst c8
                have H1 : (spec_isBody.l0 k1 l0 a1 l0 (l0.length : Int) (wrap64 (x9_1 + 1))) = some r := by rw [if_pos rfl] at H; exact H
                clear H
                have H := H1
                clear H1
                have H' := Aside0.mk H
                clear H
                have p124 : 0 ≤ (x9_1 : Int) := of_decide_eq_true (by first | (with_reducible assumption) | assumption)
                have q124 : x9_1 < (l0.length : Int) := of_decide_eq_true (by first | (with_reducible assumption) | assumption)
                obtain ⟨ad124, e124, hx124_0⟩ := Kd.at_string HR0.out x9_1 p124 q124
                cases e124
                replace p124 := eq_true p124
                replace q124 := eq_true q124
                go_wp2_with (first | (go_at_call 41; (with_reducible refine (spec_isWord.calls k1 (rdOf ByteArray.empty l0 x9_1) true _ A7.out).mono ?_); rintro e w' ⟨rfl, ⟨nd, rfl⟩⟩))
                go_roundg k1
                case measure => have := HK1.out; omega
                case rel => exact ⟨(wrap64 (x9_1 + 1)), (by first | rfl | (simp; done) | (simp [*]; done)), H', ⟨by have := HK1.out; omega⟩, by repeat (first | exact Drawn0.refl _ | apply Drawn0.step)⟩
              · replace c8 := Bool.eq_false_iff.mpr c8
                subst c8
                have H1 : (some false) = some r := by rw [if_neg (show ¬ (false = true) by decide)] at H; exact H
                clear H
                have H := H1
                clear H1
                obtain rfl := Option.some.inj H
                have p124 : 0 ≤ (x9_1 : Int) := of_decide_eq_true (by first | (with_reducible assumption) | assumption)
                have q124 : x9_1 < (l0.length : Int) := of_decide_eq_true (by first | (with_reducible assumption) | assumption)
                obtain ⟨ad124, e124, hx124_0⟩ := Kd.at_string HR0.out x9_1 p124 q124
                cases e124
                replace p124 := eq_true p124
                replace q124 := eq_true q124
                go_wp2_with (first | (go_at_call 41; (with_reducible refine (spec_isWord.calls k1 (rdOf ByteArray.empty l0 x9_1) false _ A7.out).mono ?_); rintro e w' ⟨rfl, ⟨nd, rfl⟩⟩))
                go_ret
                exact ⟨by first | rfl | (simp; done) | (simp [*]; done), by repeat (first | exact Drawn0.refl _ | apply Drawn0.step)⟩
          · rw [if_neg c5] at H
            exact absurd H (by simp)
        · rw [if_neg c4] at H
          exact absurd H (by simp)
      · rw [if_neg c3] at H
        have c3b0 : decide (x9_1 < (l0.length : Int)) = false := decide_eq_false c3
        clear c3
        by_cases c9 : (l0.length : Int) ≤ 20
        · rw [if_pos c9] at H
          have c9b0 : decide ((l0.length : Int) ≤ 20) = true := decide_eq_true c9
          have c9b1 : decide (l0.length ≤ 20) = true := decide_eq_true (by omega)
          clear c9
          by_cases c10 : a1 = true
          · subst c10
            have H1 : (some true) = some r := by rw [if_pos rfl] at H; exact H
            clear H
            have H := H1
            clear H1
            obtain rfl := Option.some.inj H
            go_wp2
            go_ret
            exact ⟨by first | rfl | (simp; done) | (simp [*]; done), by repeat (first | exact Drawn0.refl _ | apply Drawn0.step)⟩
          · replace c10 := Bool.eq_false_iff.mpr c10
            subst c10
            have H1 : (if (l0.length : Int) = 0 then (some true) else (if 0 < (l0.length : Int) then (some ((rdOf ByteArray.empty l0 0).toList != ([40] : List UInt8))) else (none))) = some r := by rw [if_neg (show ¬ (false = true) by decide)] at H; exact H
            clear H
            have H := H1
            clear H1
            by_cases c11 : (l0.length : Int) = 0
            · rw [if_pos c11] at H
              have c11b0 : ((l0.length : Int) == 0) = true := beq_iff_eq.mpr c11
              have c11b1 : ((l0.length : Int) != 0) = false := bne_eq_false_iff_eq.mpr c11
              clear c11
              obtain rfl := Option.some.inj H
              go_wp2
              go_ret
              exact ⟨by first | rfl | (simp; done) | (simp [*]; done), by repeat (first | exact Drawn0.refl _ | apply Drawn0.step)⟩
            · rw [if_neg c11] at H
              have c11b0 : ((l0.length : Int) == 0) = false := beq_eq_false_iff_ne.mpr c11
              have c11b1 : ((l0.length : Int) != 0) = true := bne_iff_ne.mpr c11
              have c11b2 : ¬ (l0 = []) := fun h_ => c11 (by rw [h_]; rfl)
              by_cases c12 : 0 < (l0.length : Int)
              · rw [if_pos c12] at H
                have c12b0 : decide (0 < (l0.length : Int)) = true := decide_eq_true c12
                have c12b1 : decide (0 < l0.length) = true := decide_eq_true (by omega)
                clear c12
                obtain rfl := Option.some.inj H
                have p126 : 0 ≤ (0 : Int) := (by omega)
                have q126 : 0 < (l0.length : Int) := of_decide_eq_true (by first | (with_reducible assumption) | assumption)
                obtain ⟨ad126, e126, hx126_0⟩ := Kd.at_string HR0.out 0 p126 q126
                cases e126
                have qi126 : (0 < l0.length) = True := eq_true (by omega)
                (try rw [show ((0 : Int)).toNat = 0 from rfl] at hx126_0)
                (try rw [Addr.add_zero'] at hx126_0)
                replace p126 := eq_true p126
                replace q126 := eq_true q126
                go_wp2
                go_ret
                exact ⟨by first | rfl | (simp; done) | (simp [*]; done), by repeat (first | exact Drawn0.refl _ | apply Drawn0.step)⟩
              · rw [if_neg c12] at H
                exact absurd H (by simp)
        · rw [if_neg c9] at H
          have c9b0 : decide ((l0.length : Int) ≤ 20) = false := decide_eq_false c9
          have c9b1 : decide (l0.length ≤ 20) = false := decide_eq_false (by omega)
          clear c9
          obtain rfl := Option.some.inj H
          go_wp2
          go_ret
          exact ⟨by first | rfl | (simp; done) | (simp [*]; done), by repeat (first | exact Drawn0.refl _ | apply Drawn0.step)⟩

/-! ### spec_place: function 42 -/
def spec_place.l0 : Nat → ByteArray → List ByteArray → Int → Int → Option (Int)
  | 0, _, _, _, _ => none
  | k + 1, x1, x7, x8, x9 => if x9 < x8 then (if 0 ≤ x9 then (if x9 < (x7.length : Int) then (if (rdOf ByteArray.empty x7 x9).toList = x1.toList then (some x9) else (spec_place.l0 k x1 x7 x8 (wrap64 (x9 + 1)))) else (none)) else (none)) else (some (-1))
def spec_place.f (k : Nat) (l0 : List ByteArray) (a1 : ByteArray) : Option (Int) := spec_place.l0 k a1 l0 (l0.length : Int) 0
theorem spec_place.mono_l : ∀ k, (∀ y0 y1 y2 y3, LeO (spec_place.l0 k y0 y1 y2 y3) (spec_place.l0 (k + 1) y0 y1 y2 y3))
  | 0 => fun _ _ _ _ r h => by simp [spec_place.l0] at h
  | k + 1 => by
    have ih0 := spec_place.mono_l k
    · intro y0 y1 y2 y3
      unfold spec_place.l0
      repeat' first
      | (with_reducible exact ih0 _ _ _ _)
      | (with_reducible exact LeO.refl _)
      | (with_reducible exact LeO.none _)
      | (with_reducible refine LeO.ite ?_ ?_)
      | (with_reducible refine LeO.bind ?_ (fun _ => ?_))
      | exact ih0 _ _ _ _
      | exact LeO.none _
      | refine LeO.ite ?_ ?_
      | refine LeO.bind ?_ (fun _ => ?_)
theorem spec_place.mono : ∀ a0 a1 k, LeO (spec_place.f k a0 a1) (spec_place.f (k + 1) a0 a1) := by
  intro a0 a1 k
  have ih0 := spec_place.mono_l k
  unfold spec_place.f
  repeat' first
      | (with_reducible exact ih0 _ _ _ _)
      | (with_reducible exact LeO.refl _)
      | (with_reducible exact LeO.none _)
      | (with_reducible refine LeO.ite ?_ ?_)
      | (with_reducible refine LeO.bind ?_ (fun _ => ?_))
      | exact ih0 _ _ _ _
      | exact LeO.none _
      | refine LeO.ite ?_ ?_
      | refine LeO.bind ?_ (fun _ => ?_)
set_option maxHeartbeats 8000000 in
set_option maxRecDepth 100000 in
theorem spec_place.calls (k : Nat) (A0 : Option Addr) (c0 : Nat) (l0 : List ByteArray) (a1 : ByteArray) (r : Int) (w : World) (hr0 : Kd.C Kd.string w A0 l0.length l0) (hc0 : l0.length ≤ c0) (h : spec_place.f k l0 a1 = some r) :
    Calls Tryz.prog 42 #[.slice A0 l0.length c0, .string a1] w fun e w' => e = .returned (.int .i64 r) ∧ Drawn0 w w' := by
  have HR0 := Aside0.mk hr0
  have HC0 := Aside0.mk hc0
  clear hr0 hc0
  have H : (spec_place.l0 k a1 l0 (l0.length : Int) 0) = some r := h
  clear h
  have H' := Aside0.mk H
  clear H
  go_enter Tryz.func42, Tryz.ntmps42
  go_wp2
  go_loopg [9] k (fun kq v9 w' => ∃ (x9_1 : Int), v9 = .int .i64 x9_1 ∧ Aside0 (spec_place.l0 kq a1 l0 (l0.length : Int) x9_1 = some r) ∧ Aside0 (kq ≤ k) ∧ Drawn0 w w')
  case atStart => exact ⟨(0), (by first | rfl | (simp; done) | (simp [*]; done)), H', ⟨Nat.le_refl _⟩, by repeat (first | exact Drawn0.refl _ | apply Drawn0.step)⟩
  case round =>
    clear H'
    try clear p2
    obtain ⟨x9_1, rfl, HA, HK1, ⟨m1, rfl⟩⟩ := hrel
    cases gk with
    | zero => exact absurd HA.out (by simp [spec_place.l0])
    | succ k1 =>
      have H := HA.out
      clear HA
      simp only [spec_place.l0] at H
      by_cases c3 : x9_1 < (l0.length : Int)
      · rw [if_pos c3] at H
        have c3b0 : decide (x9_1 < (l0.length : Int)) = true := decide_eq_true c3
        clear c3
        by_cases c4 : 0 ≤ x9_1
        · rw [if_pos c4] at H
          have c4b0 : decide (0 ≤ x9_1) = true := decide_eq_true c4
          clear c4
          by_cases c5 : x9_1 < (l0.length : Int)
          · rw [if_pos c5] at H
            have c5b0 : decide (x9_1 < (l0.length : Int)) = true := decide_eq_true c5
            clear c5
            by_cases c6 : (rdOf ByteArray.empty l0 x9_1).toList = a1.toList
            · rw [if_pos c6] at H
              have c6b0 : ((rdOf ByteArray.empty l0 x9_1).toList == a1.toList) = true := beq_iff_eq.mpr c6
              have c6b1 : ((rdOf ByteArray.empty l0 x9_1).toList != a1.toList) = false := bne_eq_false_iff_eq.mpr c6
              clear c6
              obtain rfl := Option.some.inj H
              have p127 : 0 ≤ (x9_1 : Int) := of_decide_eq_true (by first | (with_reducible assumption) | assumption)
              have q127 : x9_1 < (l0.length : Int) := of_decide_eq_true (by first | (with_reducible assumption) | assumption)
              obtain ⟨ad127, e127, hx127_0⟩ := Kd.at_string HR0.out x9_1 p127 q127
              cases e127
              replace p127 := eq_true p127
              replace q127 := eq_true q127
              go_wp2
              go_ret
              exact ⟨by first | rfl | (simp; done) | (simp [*]; done), by repeat (first | exact Drawn0.refl _ | apply Drawn0.step)⟩
            · rw [if_neg c6] at H
              have c6b0 : ((rdOf ByteArray.empty l0 x9_1).toList == a1.toList) = false := beq_eq_false_iff_ne.mpr c6
              have c6b1 : ((rdOf ByteArray.empty l0 x9_1).toList != a1.toList) = true := bne_iff_ne.mpr c6
              have H' := Aside0.mk H
              clear H
              have p127 : 0 ≤ (x9_1 : Int) := of_decide_eq_true (by first | (with_reducible assumption) | assumption)
              have q127 : x9_1 < (l0.length : Int) := of_decide_eq_true (by first | (with_reducible assumption) | assumption)
              obtain ⟨ad127, e127, hx127_0⟩ := Kd.at_string HR0.out x9_1 p127 q127
              cases e127
              replace p127 := eq_true p127
              replace q127 := eq_true q127
              go_wp2
              go_roundg k1
              case measure => have := HK1.out; omega
              case rel => exact ⟨(wrap64 (x9_1 + 1)), (by first | rfl | (simp; done) | (simp [*]; done)), H', ⟨by have := HK1.out; omega⟩, by repeat (first | exact Drawn0.refl _ | apply Drawn0.step)⟩
          · rw [if_neg c5] at H
            exact absurd H (by simp)
        · rw [if_neg c4] at H
          exact absurd H (by simp)
      · rw [if_neg c3] at H
        have c3b0 : decide (x9_1 < (l0.length : Int)) = false := decide_eq_false c3
        clear c3
        obtain rfl := Option.some.inj H
        go_wp2
        go_ret
        exact ⟨by first | rfl | (simp; done) | (simp [*]; done), by repeat (first | exact Drawn0.refl _ | apply Drawn0.step)⟩


end Go.Proofs.YtkoeeolmbhobkaaGreatDoor.PHelp
