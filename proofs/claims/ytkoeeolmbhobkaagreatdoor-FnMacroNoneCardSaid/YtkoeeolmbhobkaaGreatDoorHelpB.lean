/- The statements' helpers: files and tokens (by the kit's print, cut out by gen_help.py). -/
import Derived.Test.YtkoeeolmbhobkaaGreatDoorHelpA
namespace Go.Proofs.YtkoeeolmbhobkaaGreatDoor.PHelp
open Go.RowKit Go.Proofs.YtkoeeolmbhobkaaGreatDoorW.PrintWords Go.Proofs.YtkoeeolmbhobkaaGreatDoorW.PrintLast Go.Proofs.YtkoeeolmbhobkaaGreatDoorW.PrintMore
attribute [local go_sem] max2_int min2_int max_two min_two max_three min_three max_four min_four   -- for this text's walks alone
set_option linter.unusedVariables false
set_option linter.unusedSimpArgs false

/-! ### laws_fileOf: function 10 -/
def laws_fileOf.f (a0 : ByteArray) : Option ((List (S51))) := some (([(⟨(⟨#[109, 97, 105, 110, 46, 115]⟩ : ByteArray), a0⟩ : S51)] : List (S51)))
set_option maxHeartbeats 8000000 in
set_option maxRecDepth 100000 in
theorem laws_fileOf.calls (a0 : ByteArray) (r : List (S51)) (w : World) (h : laws_fileOf.f a0 = some r) :
    Calls Tryz.prog 10 #[.string a0] w fun e w' => ∃ v0_ : Value, e = .returned (v0_) ∧ Kd.R k51 51 w' w.heap.size (fun _ => True) v0_ r ∧ Below w.heap.size w w' := by
  have hu51 := Tryz.underlying51
  have HB := Aside0.mk (Below.refl w.heap.size w)
  have H : (some (([(⟨(⟨#[109, 97, 105, 110, 46, 115]⟩ : ByteArray), a0⟩ : S51)] : List (S51)))) = some r := h
  clear h
  obtain ⟨y268, hy268⟩ : ∃ y_ : List (S51), y_ = (([(⟨(⟨#[109, 97, 105, 110, 46, 115]⟩ : ByteArray), a0⟩ : S51)] : List (S51))) := ⟨_, rfl⟩
  replace H : (some y268) = some r := by first | (rw [hy268]; with_reducible exact H) | (have H2_ := (Option.bind_some _ _).symm.trans H; rw [hy268]; with_reducible exact H2_) | (have H2_ := (Option.bind_some _ _).symm.trans H; with_reducible exact H2_) | with_reducible exact H | (rw [hy268]; exact H) | exact H
  have Ny268 := Aside0.mk hy268
  clear hy268
  obtain rfl := Option.some.inj H
  go_enter Tryz.func10, Tryz.ntmps10
  go_wp2_with (first | ((with_reducible refine gate_dst (N := 5) rfl ?_); refine Kd.R_lit k51 _ 51 ?hg (N := 5) ?hd (xs := ([(⟨(⟨#[109, 97, 105, 110, 46, 115]⟩ : ByteArray), a0⟩ : S51)] : List (S51))) (inner := [.string (⟨#[109, 97, 105, 110, 46, 115]⟩ : ByteArray), .string a0]) (ok := fun _ => True) (okp := fun _ => True) ?hr ?hp (fun _ hk => hk) trivial (Below.refl _ _) (Nat.le_refl _) (by simp) ?_; (case hd => rfl); (case hg => rfl); (case hr => first | (go_simp; done) | (go_simp; rfl)); (case hp => exact (Reps.c2 (show Kd.M k51 _ _ _ (⟨(⟨#[109, 97, 105, 110, 46, 115]⟩ : ByteArray), a0⟩ : S51) [.string (⟨#[109, 97, 105, 110, 46, 115]⟩ : ByteArray), .string a0] from (k51_mkM _ _ _ (⟨(⟨#[109, 97, 105, 110, 46, 115]⟩ : ByteArray), a0⟩ : S51) )) (Reps.none _ _))); intro v269 w2 ho3 hb hg_ hnew_; clear hg_ hnew_; (first | rw [← Ny268.out] at ho3 | (simp only [Int.reduceToNat] at ho3; rw [← Ny268.out] at ho3)); have n0_ := Aside0.mk (Kd.R_lower ho3 (below_size (by repeat (first | (with_reducible first | exact HB.out | apply below_alloc | apply pw_below_drewN | apply below_drew1) | exact HB.out)))); have n1_ := Aside0.mk (below_step (by repeat (first | (with_reducible first | exact HB.out | apply below_alloc | apply pw_below_drewN | apply below_drew1) | exact HB.out)) hb); clear HB; have HO270 := n0_; have HB := n1_; clear n0_ n1_; clear hb ho3))
  go_ret
  exact ⟨_, by first | rfl | (simp [errW_none, errW_some] <;> rfl) | (simp [*, errW_none, errW_some] <;> rfl), by (with_reducible repeat (first | apply Kd.R_alloc | apply Kd.R_drewN | apply Kd.R_drew)); exact HO270.out, by repeat (first | (with_reducible first | exact HB.out | apply below_alloc | apply pw_below_drewN | apply below_drew1) | exact HB.out)⟩

end Go.Proofs.YtkoeeolmbhobkaaGreatDoor.PHelp
