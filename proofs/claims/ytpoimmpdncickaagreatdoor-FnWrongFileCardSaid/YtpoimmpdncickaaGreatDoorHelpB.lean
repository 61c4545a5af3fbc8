/- The statements' helpers: files and tokens (by the kit's print, cut out by gen_help.py). -/
import Derived.Test.YtpoimmpdncickaaGreatDoorHelpA
namespace Go.Proofs.YtpoimmpdncickaaGreatDoor.PHelp
open Go.RowKit Go.Proofs.YtpoimmpdncickaaGreatDoorW.PrintWords Go.Proofs.YtpoimmpdncickaaGreatDoorW.PrintLast Go.Proofs.YtpoimmpdncickaaGreatDoorW.PrintMore
attribute [local go_sem] max2_int min2_int max_two min_two max_three min_three max_four min_four   -- for this text's walks alone
set_option linter.unusedVariables false
set_option linter.unusedSimpArgs false








/-! ### laws_fileOf: function 16 -/
def laws_fileOf.f (a0 : ByteArray) : Option ((List (S33))) := some (([(⟨(⟨#[109, 97, 105, 110, 46, 115]⟩ : ByteArray), a0⟩ : S33)] : List (S33)))
set_option maxHeartbeats 8000000 in
set_option maxRecDepth 100000 in
theorem laws_fileOf.calls (a0 : ByteArray) (r : List (S33)) (w : World) (h : laws_fileOf.f a0 = some r) :
    Calls Tryz.prog 16 #[.string a0] w fun e w' => ∃ v0_ : Value, e = .returned (v0_) ∧ Kd.R k33 33 w' w.heap.size (fun _ => True) v0_ r ∧ Below w.heap.size w w' := by
  have hu33 := Tryz.underlying33
  have HB := Aside0.mk (Below.refl w.heap.size w)
  have H : (some (([(⟨(⟨#[109, 97, 105, 110, 46, 115]⟩ : ByteArray), a0⟩ : S33)] : List (S33)))) = some r := h
  clear h
  obtain ⟨y277, hy277⟩ : ∃ y_ : List (S33), y_ = (([(⟨(⟨#[109, 97, 105, 110, 46, 115]⟩ : ByteArray), a0⟩ : S33)] : List (S33))) := ⟨_, rfl⟩
  replace H : (some y277) = some r := by first | (rw [hy277]; with_reducible exact H) | (have H2_ := (Option.bind_some _ _).symm.trans H; rw [hy277]; with_reducible exact H2_) | (have H2_ := (Option.bind_some _ _).symm.trans H; with_reducible exact H2_) | with_reducible exact H | (rw [hy277]; exact H) | exact H
  have Ny277 := Aside0.mk hy277
  clear hy277
  obtain rfl := Option.some.inj H
  go_enter Tryz.func16, Tryz.ntmps16
  go_wp2_with (first | ((with_reducible refine gate_dst (N := 5) rfl ?_); refine Kd.R_lit k33 _ 33 ?hg (N := 5) ?hd (xs := ([(⟨(⟨#[109, 97, 105, 110, 46, 115]⟩ : ByteArray), a0⟩ : S33)] : List (S33))) (inner := [.string (⟨#[109, 97, 105, 110, 46, 115]⟩ : ByteArray), .string a0]) (ok := fun _ => True) (okp := fun _ => True) ?hr ?hp (fun _ hk => hk) trivial (Below.refl _ _) (Nat.le_refl _) (by simp) ?_; (case hd => rfl); (case hg => rfl); (case hr => first | (go_simp; done) | (go_simp; rfl)); (case hp => exact (Reps.c2 (show Kd.M k33 _ _ _ (⟨(⟨#[109, 97, 105, 110, 46, 115]⟩ : ByteArray), a0⟩ : S33) [.string (⟨#[109, 97, 105, 110, 46, 115]⟩ : ByteArray), .string a0] from (k33_mkM _ _ _ (⟨(⟨#[109, 97, 105, 110, 46, 115]⟩ : ByteArray), a0⟩ : S33) )) (Reps.none _ _))); intro v278 w2 ho3 hb hg_ hnew_; clear hg_ hnew_; (first | rw [← Ny277.out] at ho3 | (simp only [Int.reduceToNat] at ho3; rw [← Ny277.out] at ho3)); have n0_ := Aside0.mk (Kd.R_lower ho3 (below_size (by repeat (first | (with_reducible first | exact HB.out | apply below_alloc | apply pw_below_drewN | apply below_drew1) | exact HB.out)))); have n1_ := Aside0.mk (below_step (by repeat (first | (with_reducible first | exact HB.out | apply below_alloc | apply pw_below_drewN | apply below_drew1) | exact HB.out)) hb); clear HB; have HO279 := n0_; have HB := n1_; clear n0_ n1_; clear hb ho3))
  go_ret
  exact ⟨_, by first | rfl | (simp [errW_none, errW_some] <;> rfl) | (simp [*, errW_none, errW_some] <;> rfl), by (with_reducible repeat (first | apply Kd.R_alloc | apply Kd.R_drewN | apply Kd.R_drew)); exact HO279.out, by repeat (first | (with_reducible first | exact HB.out | apply below_alloc | apply pw_below_drewN | apply below_drew1) | exact HB.out)⟩

/-! ### laws_replaced: function 17 -/
def laws_replaced.l0 : Nat → ByteArray → List ByteArray → List ByteArray → List ByteArray → Int → Int → Option (List ByteArray)
  | 0, _, _, _, _, _, _ => none
  | k + 1, x1, x2, x7, x11, x12, x13 => if x13 < x12 then (if 0 ≤ x13 then (if x13 < (x11.length : Int) then (if (rdOf ByteArray.empty x11 x13).toList = x1.toList then (if x7.length + x2.length < 8796093022208 then (laws_replaced.l0 k x1 x2 (x7 ++ x2) x11 x12 (wrap64 (x13 + 1))) else (none)) else (if x7.length < 8796093022208 then (laws_replaced.l0 k x1 x2 (x7 ++ [rdOf ByteArray.empty x11 x13]) x11 x12 (wrap64 (x13 + 1))) else (none))) else (none)) else (none)) else (some x7)
def laws_replaced.f (k : Nat) (l0 : List ByteArray) (a1 : ByteArray) (l2 : List ByteArray) : Option (List ByteArray) := laws_replaced.l0 k a1 l2 (([] : List ByteArray)) l0 (l0.length : Int) 0
theorem laws_replaced.mono_l : ∀ k, (∀ y0 y1 y2 y3 y4 y5, LeO (laws_replaced.l0 k y0 y1 y2 y3 y4 y5) (laws_replaced.l0 (k + 1) y0 y1 y2 y3 y4 y5))
  | 0 => fun _ _ _ _ _ _ r h => by simp [laws_replaced.l0] at h
  | k + 1 => by
    have ih0 := laws_replaced.mono_l k
    · intro y0 y1 y2 y3 y4 y5
      unfold laws_replaced.l0
      repeat' first
      | (with_reducible exact ih0 _ _ _ _ _ _)
      | (with_reducible exact LeO.refl _)
      | (with_reducible exact LeO.none _)
      | (with_reducible refine LeO.ite ?_ ?_)
      | (with_reducible refine LeO.bind ?_ (fun _ => ?_))
      | exact ih0 _ _ _ _ _ _
      | exact LeO.none _
      | refine LeO.ite ?_ ?_
      | refine LeO.bind ?_ (fun _ => ?_)
theorem laws_replaced.mono : ∀ a0 a1 a2 k, LeO (laws_replaced.f k a0 a1 a2) (laws_replaced.f (k + 1) a0 a1 a2) := by
  intro a0 a1 a2 k
  have ih0 := laws_replaced.mono_l k
  unfold laws_replaced.f
  repeat' first
      | (with_reducible exact ih0 _ _ _ _ _ _)
      | (with_reducible exact LeO.refl _)
      | (with_reducible exact LeO.none _)
      | (with_reducible refine LeO.ite ?_ ?_)
      | (with_reducible refine LeO.bind ?_ (fun _ => ?_))
      | exact ih0 _ _ _ _ _ _
      | exact LeO.none _
      | refine LeO.ite ?_ ?_
      | refine LeO.bind ?_ (fun _ => ?_)
set_option maxHeartbeats 8000000 in
set_option maxRecDepth 100000 in
theorem laws_replaced.calls (k : Nat) (A0 : Option Addr) (c0 : Nat) (l0 : List ByteArray) (a1 : ByteArray) (A2 : Option Addr) (c2 : Nat) (l2 : List ByteArray) (r : List ByteArray) (w : World) (hr0 : Kd.C Kd.string w A0 l0.length l0) (hc0 : l0.length ≤ c0) (hr2 : Kd.C Kd.string w A2 l2.length l2) (hc2 : l2.length ≤ c2) (h : laws_replaced.f k l0 a1 l2 = some r) :
    Calls Tryz.prog 17 #[.slice A0 l0.length c0, .string a1, .slice A2 l2.length c2] w fun e w' => ∃ v0_ : Value, e = .returned (v0_) ∧ Kd.R Kd.string 9 w' w.heap.size (fun _ => True) v0_ r ∧ Below w.heap.size w w' := by
  have HR0 := Aside0.mk hr0
  have HC0 := Aside0.mk hc0
  clear hr0 hc0
  have HR2 := Aside0.mk hr2
  have HC2 := Aside0.mk hc2
  clear hr2 hc2
  have HB := Aside0.mk (Below.refl w.heap.size w)
  have H : (laws_replaced.l0 k a1 l2 (([] : List ByteArray)) l0 (l0.length : Int) 0) = some r := h
  clear h
  obtain ⟨y280, hy280⟩ : ∃ y_ : List ByteArray, y_ = (([] : List ByteArray)) := ⟨_, rfl⟩
  replace H : (laws_replaced.l0 k a1 l2 y280 l0 (l0.length : Int) 0) = some r := by first | (rw [hy280]; with_reducible exact H) | (have H2_ := (Option.bind_some _ _).symm.trans H; rw [hy280]; with_reducible exact H2_) | (have H2_ := (Option.bind_some _ _).symm.trans H; with_reducible exact H2_) | with_reducible exact H | (rw [hy280]; exact H) | exact H
  have Ny280 := Aside0.mk hy280
  clear hy280
  have H' := Aside0.mk H
  clear H
  go_enter Tryz.func17, Tryz.ntmps17
  go_wp2_with (first | ((with_reducible refine gate_dst (N := 10) rfl ?_); refine Kd.R_lit Kd.string _ 9 ?hg (N := 10) ?hd (xs := ([] : List ByteArray)) (inner := []) (ok := fun _ => True) (okp := fun _ => True) ?hr ?hp (fun _ hk => hk) trivial (Below.refl _ _) (Nat.le_refl _) (by simp) ?_; (case hd => rfl); (case hg => rfl); (case hr => first | (go_simp; done) | (go_simp; rfl)); (case hp => exact (Reps.none _ _)); intro v281 w4 ho5 hb hg_ hnew_; clear hg_ hnew_; (first | rw [← Ny280.out] at ho5 | (simp only [Int.reduceToNat] at ho5; rw [← Ny280.out] at ho5)); have n0_ := Aside0.mk (Kd.R_lower ho5 (below_size (by repeat (first | (with_reducible first | exact HB.out | apply below_alloc | apply pw_below_drewN | apply below_drew1) | exact HB.out)))); have n1_ := Aside0.mk (below_step (by repeat (first | (with_reducible first | exact HB.out | apply below_alloc | apply pw_below_drewN | apply below_drew1) | exact HB.out)) hb); clear HB; have HO282 := n0_; have HB := n1_; clear n0_ n1_; clear hb ho5))
  go_loopg [7, 13] k (fun kq v7 v13 w' => ∃ (x7_1 : List ByteArray) (x13_1 : Int), v13 = .int .i64 x13_1 ∧ Aside0 (laws_replaced.l0 kq a1 l2 x7_1 l0 (l0.length : Int) x13_1 = some r) ∧ Aside0 (kq ≤ k) ∧ Aside0 (Kd.R Kd.string 9 w' w.heap.size (fun _ => True) v7 x7_1) ∧ Aside0 (Below w.heap.size w w'))
  case atStart => exact ⟨(y280), (0), (by first | rfl | (simp; done) | (simp [*]; done)), H', ⟨Nat.le_refl _⟩, ⟨by (with_reducible repeat (first | apply Kd.R_alloc | apply Kd.R_drewN | apply Kd.R_drew)); exact HO282.out⟩, ⟨by repeat (first | (with_reducible first | exact HB.out | apply below_alloc | apply pw_below_drewN | apply below_drew1) | exact HB.out)⟩⟩
  case round =>
    clear H'
    try clear c1
    try clear c2
    try clear p2
    obtain ⟨x7_1, x13_1, rfl, HA, HK1, HO_7, HB⟩ := hrel
    cases gk with
    | zero => exact absurd HA.out (by simp [laws_replaced.l0])
    | succ k1 =>
      have H := HA.out
      clear HA
      simp only [laws_replaced.l0] at H
      by_cases c6 : x13_1 < (l0.length : Int)
      · rw [if_pos c6] at H
        have c6b0 : decide (x13_1 < (l0.length : Int)) = true := decide_eq_true c6
        clear c6
        by_cases c7 : 0 ≤ x13_1
        · rw [if_pos c7] at H
          have c7b0 : decide (0 ≤ x13_1) = true := decide_eq_true c7
          clear c7
          by_cases c8 : x13_1 < (l0.length : Int)
          · rw [if_pos c8] at H
            have c8b0 : decide (x13_1 < (l0.length : Int)) = true := decide_eq_true c8
            clear c8
            by_cases c9 : (rdOf ByteArray.empty l0 x13_1).toList = a1.toList
            · rw [if_pos c9] at H
              have c9b0 : ((rdOf ByteArray.empty l0 x13_1).toList == a1.toList) = true := beq_iff_eq.mpr c9
              have c9b1 : ((rdOf ByteArray.empty l0 x13_1).toList != a1.toList) = false := bne_eq_false_iff_eq.mpr c9
              clear c9
              by_cases c10 : x7_1.length + l2.length < 8796093022208
              · rw [if_pos c10] at H
                have LMc10 := Aside0.mk c10
                clear c10
                obtain ⟨y284, hy284⟩ : ∃ y_ : List ByteArray, y_ = (x7_1 ++ l2) := ⟨_, rfl⟩
                replace H : (laws_replaced.l0 k1 a1 l2 y284 l0 (l0.length : Int) (wrap64 (x13_1 + 1))) = some r := by first | (rw [hy284]; with_reducible exact H) | (have H2_ := (Option.bind_some _ _).symm.trans H; rw [hy284]; with_reducible exact H2_) | (have H2_ := (Option.bind_some _ _).symm.trans H; with_reducible exact H2_) | with_reducible exact H | (rw [hy284]; exact H) | exact H
                have Ny284 := Aside0.mk hy284
                clear hy284
                have H' := Aside0.mk H
                clear H
                have p283 : 0 ≤ (x13_1 : Int) := of_decide_eq_true (by first | (with_reducible assumption) | assumption)
                have q283 : x13_1 < (l0.length : Int) := of_decide_eq_true (by first | (with_reducible assumption) | assumption)
                obtain ⟨ad283, e283, hx283_0⟩ := Kd.at_string HR0.out x13_1 p283 q283
                cases e283
                replace hx283_0 := (HB.out.cell (World.block_lt_of_cell? w _ hx283_0)).trans hx283_0
                replace p283 := eq_true p283
                replace q283 := eq_true q283
                go_wp2_with (first | ((with_reducible refine gate_builtin (b := .append) (xs := #[.tmp 20, .tmp 21]) rfl ?_); at_builtin; refine Kd.R_append_rows Kd.string (w0 := w) w.heap.size rfl (.tmp 20) (.tmp 21) 22 9 (.string ⟨#[]⟩) 16 rfl Tryz.underlying22 info9 rfl (by decide) (by omega) u7 x7_1 l2 _ _ _ (fun _ => True) (fun _ => False) rfl rfl ?aO ?aR (fun _ _ h => h) (fun _ h => h.elim) ?aF ?aB ?aS ?aL ?_; (case aR => repeat (first | exact (Kd.C_below HR2.out HB.out) | (with_reducible refine Kd.C_alloc ?_ _) | (with_reducible refine Kd.C_drewN ?_ _) | (with_reducible refine Kd.C_drew ?_))); (case aB => exact (by repeat (first | (with_reducible first | exact HB.out | apply below_alloc | apply pw_below_drewN | apply below_drew1) | exact HB.out))); (case aF => exact (fun _ _ => trivial)); (case aO => exact (by (with_reducible repeat (first | apply Kd.R_alloc | apply Kd.R_drewN | apply Kd.R_drew)); exact HO_7.out)); (case aS => exact (below_size (by repeat (first | (with_reducible first | exact HB.out | apply below_alloc | apply pw_below_drewN | apply below_drew1) | exact HB.out)))); (case aL => have := LMc10.out; omega); intro v285 w11 ho hb hg hat; rw [← Ny284.out] at ho; have n0_ := Aside0.mk (hb); have n1_ := Aside0.mk (ho); clear HB; clear HO_7; have HB := n0_; have HO286 := n1_; clear n0_ n1_; clear ho hb hg hat))
                go_roundg k1
                case measure => have := HK1.out; omega
                case rel => exact ⟨(y284), (wrap64 (x13_1 + 1)), (by first | rfl | (simp; done) | (simp [*]; done)), H', ⟨by have := HK1.out; omega⟩, ⟨by (with_reducible repeat (first | apply Kd.R_alloc | apply Kd.R_drewN | apply Kd.R_drew)); exact HO286.out⟩, ⟨by repeat (first | (with_reducible first | exact HB.out | apply below_alloc | apply pw_below_drewN | apply below_drew1) | exact HB.out)⟩⟩
              · rw [if_neg c10] at H
                exact absurd H (by simp)
            · rw [if_neg c9] at H
              have c9b0 : ((rdOf ByteArray.empty l0 x13_1).toList == a1.toList) = false := beq_eq_false_iff_ne.mpr c9
              have c9b1 : ((rdOf ByteArray.empty l0 x13_1).toList != a1.toList) = true := bne_iff_ne.mpr c9
              by_cases c12 : x7_1.length < 8796093022208
              · rw [if_pos c12] at H
                have LMc12 := Aside0.mk c12
                clear c12
                obtain ⟨y287, hy287⟩ : ∃ y_ : List ByteArray, y_ = (x7_1 ++ [rdOf ByteArray.empty l0 x13_1]) := ⟨_, rfl⟩
                replace H : (laws_replaced.l0 k1 a1 l2 y287 l0 (l0.length : Int) (wrap64 (x13_1 + 1))) = some r := by first | (rw [hy287]; with_reducible exact H) | (have H2_ := (Option.bind_some _ _).symm.trans H; rw [hy287]; with_reducible exact H2_) | (have H2_ := (Option.bind_some _ _).symm.trans H; with_reducible exact H2_) | with_reducible exact H | (rw [hy287]; exact H) | exact H
                have Ny287 := Aside0.mk hy287
                clear hy287
                have H' := Aside0.mk H
                clear H
                have p283 : 0 ≤ (x13_1 : Int) := of_decide_eq_true (by first | (with_reducible assumption) | assumption)
                have q283 : x13_1 < (l0.length : Int) := of_decide_eq_true (by first | (with_reducible assumption) | assumption)
                obtain ⟨ad283, e283, hx283_0⟩ := Kd.at_string HR0.out x13_1 p283 q283
                cases e283
                replace hx283_0 := (HB.out.cell (World.block_lt_of_cell? w _ hx283_0)).trans hx283_0
                replace p283 := eq_true p283
                replace q283 := eq_true q283
                go_wp2_with (first | ((with_reducible refine gate_builtin (b := .append) (xs := #[.tmp 23, .tmp 25]) rfl ?_); at_builtin; refine Kd.R_append Kd.string (w0 := w) w.heap.size rfl (.tmp 23) (.tmp 25) 22 9 (.string ⟨#[]⟩) 16 rfl Tryz.underlying22 info9 rfl (by decide) (by omega) u7 x7_1 (rdOf ByteArray.empty l0 x13_1) [.string (rdOf ByteArray.empty l0 x13_1)] (fun _ => True) (fun _ => False) rfl rfl ?aP (fun _ hk => hk.elim) ?aF ?aO ?aB ?aS ?aL ?_; (case aP => exact rfl); (case aB => exact (by repeat (first | (with_reducible first | exact HB.out | apply below_alloc | apply pw_below_drewN | apply below_drew1) | exact HB.out))); (case aF => exact (fun _ _ => trivial)); (case aO => exact (by (with_reducible repeat (first | apply Kd.R_alloc | apply Kd.R_drewN | apply Kd.R_drew)); exact HO_7.out)); (case aS => exact (below_size (by repeat (first | (with_reducible first | exact HB.out | apply below_alloc | apply pw_below_drewN | apply below_drew1) | exact HB.out)))); (case aL => have := LMc12.out; omega); intro v288 w13 ho hb hg hat; rw [← Ny287.out] at ho; have n0_ := Aside0.mk (hb); have n1_ := Aside0.mk (ho); clear HB; clear HO_7; have HB := n0_; have HO289 := n1_; clear n0_ n1_; clear ho hb hg hat))
                go_roundg k1
                case measure => have := HK1.out; omega
                case rel => exact ⟨(y287), (wrap64 (x13_1 + 1)), (by first | rfl | (simp; done) | (simp [*]; done)), H', ⟨by have := HK1.out; omega⟩, ⟨by (with_reducible repeat (first | apply Kd.R_alloc | apply Kd.R_drewN | apply Kd.R_drew)); exact HO289.out⟩, ⟨by repeat (first | (with_reducible first | exact HB.out | apply below_alloc | apply pw_below_drewN | apply below_drew1) | exact HB.out)⟩⟩
              · rw [if_neg c12] at H
                exact absurd H (by simp)
          · rw [if_neg c8] at H
            exact absurd H (by simp)
        · rw [if_neg c7] at H
          exact absurd H (by simp)
      · rw [if_neg c6] at H
        have c6b0 : decide (x13_1 < (l0.length : Int)) = false := decide_eq_false c6
        clear c6
        obtain rfl := Option.some.inj H
        go_wp2
        go_ret
        exact ⟨_, by first | rfl | (simp [errW_none, errW_some] <;> rfl) | (simp [*, errW_none, errW_some] <;> rfl), by (with_reducible repeat (first | apply Kd.R_alloc | apply Kd.R_drewN | apply Kd.R_drew)); exact HO_7.out, by repeat (first | (with_reducible first | exact HB.out | apply below_alloc | apply pw_below_drewN | apply below_drew1) | exact HB.out)⟩



/-! ### spec_Shown: function 20 -/
def spec_Shown.l0 : Nat → List ByteArray → List (S54) → Int → Int → Option (List ByteArray)
  | 0, _, _, _, _ => none
  | k + 1, x3, x7, x8, x9 => if x9 < x8 then (if 0 ≤ x9 then (if x9 < (x7.length : Int) then (if ((rd_T54 x7 x9).f0) = 10 then (spec_Shown.l0 k x3 x7 x8 (wrap64 (x9 + 1))) else (if ((rd_T54 x7 x9).f0) = 35 then (spec_Shown.l0 k x3 x7 x8 (wrap64 (x9 + 1))) else (if ((rd_T54 x7 x9).f0) = (-1004) then (spec_Shown.l0 k x3 x7 x8 (wrap64 (x9 + 1))) else (if ((rd_T54 x7 x9).f0) = (-1) then (spec_Shown.l0 k x3 x7 x8 (wrap64 (x9 + 1))) else (if x3.length < 8796093022208 then (spec_Shown.l0 k (x3 ++ [(rd_T54 x7 x9).f1]) x7 x8 (wrap64 (x9 + 1))) else (none)))))) else (none)) else (none)) else (some x3)
def spec_Shown.f (k : Nat) (l0 : List (S54)) : Option (List ByteArray) := spec_Shown.l0 k (([] : List ByteArray)) l0 (l0.length : Int) 0
theorem spec_Shown.mono_l : ∀ k, (∀ y0 y1 y2 y3, LeO (spec_Shown.l0 k y0 y1 y2 y3) (spec_Shown.l0 (k + 1) y0 y1 y2 y3))
  | 0 => fun _ _ _ _ r h => by simp [spec_Shown.l0] at h
  | k + 1 => by
    have ih0 := spec_Shown.mono_l k
    · intro y0 y1 y2 y3
      unfold spec_Shown.l0
      repeat' first
      | (with_reducible exact ih0 _ _ _ _)
      | (with_reducible exact LeO.refl _)
      | (with_reducible exact LeO.none _)
      | (with_reducible refine LeO.ite ?_ ?_)
      | (with_reducible refine LeO.bind ?_ (fun _ => ?_))
      | exact ih0 _ _ _ _
      | exact LeO.none _
      | refine LeO.ite ?_ ?_
      | refine LeO.bind ?_ (fun _ => ?_)
theorem spec_Shown.mono : ∀ a0 k, LeO (spec_Shown.f k a0) (spec_Shown.f (k + 1) a0) := by
  intro a0 k
  have ih0 := spec_Shown.mono_l k
  unfold spec_Shown.f
  repeat' first
      | (with_reducible exact ih0 _ _ _ _)
      | (with_reducible exact LeO.refl _)
      | (with_reducible exact LeO.none _)
      | (with_reducible refine LeO.ite ?_ ?_)
      | (with_reducible refine LeO.bind ?_ (fun _ => ?_))
      | exact ih0 _ _ _ _
      | exact LeO.none _
      | refine LeO.ite ?_ ?_
      | refine LeO.bind ?_ (fun _ => ?_)
set_option maxHeartbeats 8000000 in
set_option maxRecDepth 100000 in
theorem spec_Shown.calls (k : Nat) (A0 : Option Addr) (c0 : Nat) (l0 : List (S54)) (r : List ByteArray) (w : World) (hr0 : Kd.C k54 w A0 l0.length l0) (hc0 : l0.length ≤ c0) (h : spec_Shown.f k l0 = some r) :
    Calls Tryz.prog 20 #[.slice A0 l0.length c0] w fun e w' => ∃ v0_ : Value, e = .returned (v0_) ∧ Kd.R Kd.string 9 w' w.heap.size (fun _ => True) v0_ r ∧ Below w.heap.size w w' := by
  have hu54 := Tryz.underlying54
  have HR0 := Aside0.mk hr0
  have HC0 := Aside0.mk hc0
  clear hr0 hc0
  have HB := Aside0.mk (Below.refl w.heap.size w)
  have H : (spec_Shown.l0 k (([] : List ByteArray)) l0 (l0.length : Int) 0) = some r := h
  clear h
  obtain ⟨y269, hy269⟩ : ∃ y_ : List ByteArray, y_ = (([] : List ByteArray)) := ⟨_, rfl⟩
  replace H : (spec_Shown.l0 k y269 l0 (l0.length : Int) 0) = some r := by first | (rw [hy269]; with_reducible exact H) | (have H2_ := (Option.bind_some _ _).symm.trans H; rw [hy269]; with_reducible exact H2_) | (have H2_ := (Option.bind_some _ _).symm.trans H; with_reducible exact H2_) | with_reducible exact H | (rw [hy269]; exact H) | exact H
  have Ny269 := Aside0.mk hy269
  clear hy269
  have H' := Aside0.mk H
  clear H
  go_enter Tryz.func20, Tryz.ntmps20
  go_wp2_with (first | ((with_reducible refine gate_dst (N := 6) rfl ?_); refine Kd.R_lit Kd.string _ 9 ?hg (N := 6) ?hd (xs := ([] : List ByteArray)) (inner := []) (ok := fun _ => True) (okp := fun _ => True) ?hr ?hp (fun _ hk => hk) trivial (Below.refl _ _) (Nat.le_refl _) (by simp) ?_; (case hd => rfl); (case hg => rfl); (case hr => first | (go_simp; done) | (go_simp; rfl)); (case hp => exact (Reps.none _ _)); intro v270 w2 ho3 hb hg_ hnew_; clear hg_ hnew_; (first | rw [← Ny269.out] at ho3 | (simp only [Int.reduceToNat] at ho3; rw [← Ny269.out] at ho3)); have n0_ := Aside0.mk (Kd.R_lower ho3 (below_size (by repeat (first | (with_reducible first | exact HB.out | apply below_alloc | apply pw_below_drewN | apply below_drew1) | exact HB.out)))); have n1_ := Aside0.mk (below_step (by repeat (first | (with_reducible first | exact HB.out | apply below_alloc | apply pw_below_drewN | apply below_drew1) | exact HB.out)) hb); clear HB; have HO271 := n0_; have HB := n1_; clear n0_ n1_; clear hb ho3))
  go_loopg [3, 9] k (fun kq v3 v9 w' => ∃ (x3_1 : List ByteArray) (x9_1 : Int), v9 = .int .i64 x9_1 ∧ Aside0 (spec_Shown.l0 kq x3_1 l0 (l0.length : Int) x9_1 = some r) ∧ Aside0 (kq ≤ k) ∧ Aside0 (Kd.R Kd.string 9 w' w.heap.size (fun _ => True) v3 x3_1) ∧ Aside0 (Below w.heap.size w w'))
  case atStart => exact ⟨(y269), (0), (by first | rfl | (simp; done) | (simp [*]; done)), H', ⟨Nat.le_refl _⟩, ⟨by (with_reducible repeat (first | apply Kd.R_alloc | apply Kd.R_drewN | apply Kd.R_drew)); exact HO271.out⟩, ⟨by repeat (first | (with_reducible first | exact HB.out | apply below_alloc | apply pw_below_drewN | apply below_drew1) | exact HB.out)⟩⟩
  case round =>
    clear H'
    try clear c2
    try clear p2
    obtain ⟨x3_1, x9_1, rfl, HA, HK1, HO_3, HB⟩ := hrel
    cases gk with
    | zero => exact absurd HA.out (by simp [spec_Shown.l0])
    | succ k1 =>
      have H := HA.out
      clear HA
      simp only [spec_Shown.l0] at H
      by_cases c4 : x9_1 < (l0.length : Int)
      · rw [if_pos c4] at H
        have c4b0 : decide (x9_1 < (l0.length : Int)) = true := decide_eq_true c4
        clear c4
        by_cases c5 : 0 ≤ x9_1
        · rw [if_pos c5] at H
          have c5b0 : decide (0 ≤ x9_1) = true := decide_eq_true c5
          clear c5
          by_cases c6 : x9_1 < (l0.length : Int)
          · rw [if_pos c6] at H
            have c6b0 : decide (x9_1 < (l0.length : Int)) = true := decide_eq_true c6
            clear c6
            by_cases c7 : ((rd_T54 l0 x9_1).f0) = 10
            · rw [if_pos c7] at H
              have c7b0 : (((rd_T54 l0 x9_1).f0) == 10) = true := beq_iff_eq.mpr c7
              have c7b1 : (((rd_T54 l0 x9_1).f0) != 10) = false := bne_eq_false_iff_eq.mpr c7
              clear c7
              have H' := Aside0.mk H
              clear H
              have p272 : 0 ≤ (x9_1 : Int) := of_decide_eq_true (by first | (with_reducible assumption) | assumption)
              have q272 : x9_1 < (l0.length : Int) := of_decide_eq_true (by first | (with_reducible assumption) | assumption)
              obtain ⟨ad272, e272, hx272_0, hx272_1, hx272_2, hx272_3⟩ := at_T54 HR0.out x9_1 p272 q272
              cases e272
              replace hx272_0 := (HB.out.cell (World.block_lt_of_cell? w _ hx272_0)).trans hx272_0
              replace hx272_1 := (HB.out.cell (World.block_lt_of_cell? w _ hx272_1)).trans hx272_1
              replace hx272_2 := (HB.out.cell (World.block_lt_of_cell? w _ hx272_2)).trans hx272_2
              replace hx272_3 := (HB.out.cell (World.block_lt_of_cell? w _ hx272_3)).trans hx272_3
              replace p272 := eq_true p272
              replace q272 := eq_true q272
              go_wp2_with (first | ((with_reducible refine gate_dst (N := 5) rfl ?_); refine box_event ?hg (N := 5) ?hd (cs := #[.int .i64 0, .string (⟨#[]⟩ : ByteArray), .string (⟨#[]⟩ : ByteArray), .int .i64 0]) (t := 54) ?hr ?_; (case hd => rfl); (case hg => rfl); (case hr => first | (go_simp; done) | (go_simp; rfl)); intro gb273 hg w8 hbox hb; have n0_ := Aside0.mk (Kd.R_below (by (with_reducible repeat (first | apply Kd.R_alloc | apply Kd.R_drewN | apply Kd.R_drew)); exact HO_3.out) hb); have n1_ := Aside0.mk (below_step (by repeat (first | (with_reducible first | exact HB.out | apply below_alloc | apply pw_below_drewN | apply below_drew1) | exact HB.out)) hb); have n2_ := Aside0.mk (hbox); have n3_ := Aside0.mk ((by rw [hg]; exact (below_size (by repeat (first | (with_reducible first | exact HB.out | apply below_alloc | apply pw_below_drewN | apply below_drew1) | exact HB.out))) : w.heap.size ≤ gb273)); have n4_ := Aside0.mk ((by rw [hg]; exact (below_size (by repeat (first | (with_reducible first | exact HB.out | apply below_alloc | apply pw_below_drewN | apply below_drew1) | exact HB.out))) : w.heap.size ≤ gb273)); clear HO_3; clear HB; have HO_3 := n0_; have HB := n1_; have BK273 := n2_; have GW273 := n3_; have GE273 := n4_; clear n0_ n1_ n2_ n3_ n4_; clear hb hbox hg; have hcz9_0 : w8.cell? ⟨gb273, 0, none⟩ = some (.int .i64 0) := (blk_cell BK273.out 0).trans rfl; have hcz9_1 : w8.cell? ⟨gb273, 1, none⟩ = some (.string (⟨#[]⟩ : ByteArray)) := (blk_cell BK273.out 1).trans rfl; have hcz9_2 : w8.cell? ⟨gb273, 2, none⟩ = some (.string (⟨#[]⟩ : ByteArray)) := (blk_cell BK273.out 2).trans rfl; have hcz9_3 : w8.cell? ⟨gb273, 3, none⟩ = some (.int .i64 0) := (blk_cell BK273.out 3).trans rfl; have hfz9_0 := blk_frozen BK273.out 0; have hfz9_1 := blk_frozen BK273.out 1; have hfz9_2 := blk_frozen BK273.out 2; have hfz9_3 := blk_frozen BK273.out 3))
              go_roundg k1
              case measure => have := HK1.out; omega
              case rel => exact ⟨(x3_1), (wrap64 (x9_1 + 1)), (by first | rfl | (simp; done) | (simp [*]; done)), H', ⟨by have := HK1.out; omega⟩, ⟨by (with_reducible repeat (first | apply Kd.R_alloc | apply Kd.R_drewN | apply Kd.R_drew)); exact Kd.R_mono (Kd.R_far (p := ⟨gb273, 3, none⟩) (Kd.R_far (p := ⟨gb273, 2, none⟩) (Kd.R_far (p := ⟨gb273, 1, none⟩) (Kd.R_far (p := ⟨gb273, 0, none⟩) (Kd.R_types HO_3.out BK273.out (by decide)) (fun _ hk => hk.2) (.int .i64 ((rd_T54 l0 x9_1).f0))) (fun _ hk => hk.2) (.string ((rd_T54 l0 x9_1).f1))) (fun _ hk => hk.2) (.string ((rd_T54 l0 x9_1).f2))) (fun _ hk => hk.2) (.int .i64 ((rd_T54 l0 x9_1).f3))) (fun _ hk => trivial)⟩, ⟨by repeat (first | (with_reducible first | exact HB.out | apply below_alloc | apply pw_below_drewN | apply below_drew1 | refine below_set ?_ GE273.out) | exact HB.out)⟩⟩
            · rw [if_neg c7] at H
              have c7b0 : (((rd_T54 l0 x9_1).f0) == 10) = false := beq_eq_false_iff_ne.mpr c7
              have c7b1 : (((rd_T54 l0 x9_1).f0) != 10) = true := bne_iff_ne.mpr c7
              by_cases c10 : ((rd_T54 l0 x9_1).f0) = 35
              · rw [if_pos c10] at H
                have c10b0 : (((rd_T54 l0 x9_1).f0) == 35) = true := beq_iff_eq.mpr c10
                have c10b1 : (((rd_T54 l0 x9_1).f0) != 35) = false := bne_eq_false_iff_eq.mpr c10
                clear c10
                have H' := Aside0.mk H
                clear H
                have p272 : 0 ≤ (x9_1 : Int) := of_decide_eq_true (by first | (with_reducible assumption) | assumption)
                have q272 : x9_1 < (l0.length : Int) := of_decide_eq_true (by first | (with_reducible assumption) | assumption)
                obtain ⟨ad272, e272, hx272_0, hx272_1, hx272_2, hx272_3⟩ := at_T54 HR0.out x9_1 p272 q272
                cases e272
                replace hx272_0 := (HB.out.cell (World.block_lt_of_cell? w _ hx272_0)).trans hx272_0
                replace hx272_1 := (HB.out.cell (World.block_lt_of_cell? w _ hx272_1)).trans hx272_1
                replace hx272_2 := (HB.out.cell (World.block_lt_of_cell? w _ hx272_2)).trans hx272_2
                replace hx272_3 := (HB.out.cell (World.block_lt_of_cell? w _ hx272_3)).trans hx272_3
                replace p272 := eq_true p272
                replace q272 := eq_true q272
                go_wp2_with (first | ((with_reducible refine gate_dst (N := 5) rfl ?_); refine box_event ?hg (N := 5) ?hd (cs := #[.int .i64 0, .string (⟨#[]⟩ : ByteArray), .string (⟨#[]⟩ : ByteArray), .int .i64 0]) (t := 54) ?hr ?_; (case hd => rfl); (case hg => rfl); (case hr => first | (go_simp; done) | (go_simp; rfl)); intro gb273 hg w11 hbox hb; have n0_ := Aside0.mk (Kd.R_below (by (with_reducible repeat (first | apply Kd.R_alloc | apply Kd.R_drewN | apply Kd.R_drew)); exact HO_3.out) hb); have n1_ := Aside0.mk (below_step (by repeat (first | (with_reducible first | exact HB.out | apply below_alloc | apply pw_below_drewN | apply below_drew1) | exact HB.out)) hb); have n2_ := Aside0.mk (hbox); have n3_ := Aside0.mk ((by rw [hg]; exact (below_size (by repeat (first | (with_reducible first | exact HB.out | apply below_alloc | apply pw_below_drewN | apply below_drew1) | exact HB.out))) : w.heap.size ≤ gb273)); have n4_ := Aside0.mk ((by rw [hg]; exact (below_size (by repeat (first | (with_reducible first | exact HB.out | apply below_alloc | apply pw_below_drewN | apply below_drew1) | exact HB.out))) : w.heap.size ≤ gb273)); clear HO_3; clear HB; have HO_3 := n0_; have HB := n1_; have BK273 := n2_; have GW273 := n3_; have GE273 := n4_; clear n0_ n1_ n2_ n3_ n4_; clear hb hbox hg; have hcz12_0 : w11.cell? ⟨gb273, 0, none⟩ = some (.int .i64 0) := (blk_cell BK273.out 0).trans rfl; have hcz12_1 : w11.cell? ⟨gb273, 1, none⟩ = some (.string (⟨#[]⟩ : ByteArray)) := (blk_cell BK273.out 1).trans rfl; have hcz12_2 : w11.cell? ⟨gb273, 2, none⟩ = some (.string (⟨#[]⟩ : ByteArray)) := (blk_cell BK273.out 2).trans rfl; have hcz12_3 : w11.cell? ⟨gb273, 3, none⟩ = some (.int .i64 0) := (blk_cell BK273.out 3).trans rfl; have hfz12_0 := blk_frozen BK273.out 0; have hfz12_1 := blk_frozen BK273.out 1; have hfz12_2 := blk_frozen BK273.out 2; have hfz12_3 := blk_frozen BK273.out 3))
                go_roundg k1
                case measure => have := HK1.out; omega
                case rel => exact ⟨(x3_1), (wrap64 (x9_1 + 1)), (by first | rfl | (simp; done) | (simp [*]; done)), H', ⟨by have := HK1.out; omega⟩, ⟨by (with_reducible repeat (first | apply Kd.R_alloc | apply Kd.R_drewN | apply Kd.R_drew)); exact Kd.R_mono (Kd.R_far (p := ⟨gb273, 3, none⟩) (Kd.R_far (p := ⟨gb273, 2, none⟩) (Kd.R_far (p := ⟨gb273, 1, none⟩) (Kd.R_far (p := ⟨gb273, 0, none⟩) (Kd.R_types HO_3.out BK273.out (by decide)) (fun _ hk => hk.2) (.int .i64 ((rd_T54 l0 x9_1).f0))) (fun _ hk => hk.2) (.string ((rd_T54 l0 x9_1).f1))) (fun _ hk => hk.2) (.string ((rd_T54 l0 x9_1).f2))) (fun _ hk => hk.2) (.int .i64 ((rd_T54 l0 x9_1).f3))) (fun _ hk => trivial)⟩, ⟨by repeat (first | (with_reducible first | exact HB.out | apply below_alloc | apply pw_below_drewN | apply below_drew1 | refine below_set ?_ GE273.out) | exact HB.out)⟩⟩
              · rw [if_neg c10] at H
                have c10b0 : (((rd_T54 l0 x9_1).f0) == 35) = false := beq_eq_false_iff_ne.mpr c10
                have c10b1 : (((rd_T54 l0 x9_1).f0) != 35) = true := bne_iff_ne.mpr c10
                by_cases c13 : ((rd_T54 l0 x9_1).f0) = (-1004)
                · rw [if_pos c13] at H
                  have c13b0 : (((rd_T54 l0 x9_1).f0) == (-1004)) = true := beq_iff_eq.mpr c13
                  have c13b1 : (((rd_T54 l0 x9_1).f0) != (-1004)) = false := bne_eq_false_iff_eq.mpr c13
                  clear c13
                  have H' := Aside0.mk H
                  clear H
                  have p272 : 0 ≤ (x9_1 : Int) := of_decide_eq_true (by first | (with_reducible assumption) | assumption)
                  have q272 : x9_1 < (l0.length : Int) := of_decide_eq_true (by first | (with_reducible assumption) | assumption)
                  obtain ⟨ad272, e272, hx272_0, hx272_1, hx272_2, hx272_3⟩ := at_T54 HR0.out x9_1 p272 q272
                  cases e272
                  replace hx272_0 := (HB.out.cell (World.block_lt_of_cell? w _ hx272_0)).trans hx272_0
                  replace hx272_1 := (HB.out.cell (World.block_lt_of_cell? w _ hx272_1)).trans hx272_1
                  replace hx272_2 := (HB.out.cell (World.block_lt_of_cell? w _ hx272_2)).trans hx272_2
                  replace hx272_3 := (HB.out.cell (World.block_lt_of_cell? w _ hx272_3)).trans hx272_3
                  replace p272 := eq_true p272
                  replace q272 := eq_true q272
                  go_wp2_with (first | ((with_reducible refine gate_dst (N := 5) rfl ?_); refine box_event ?hg (N := 5) ?hd (cs := #[.int .i64 0, .string (⟨#[]⟩ : ByteArray), .string (⟨#[]⟩ : ByteArray), .int .i64 0]) (t := 54) ?hr ?_; (case hd => rfl); (case hg => rfl); (case hr => first | (go_simp; done) | (go_simp; rfl)); intro gb273 hg w14 hbox hb; have n0_ := Aside0.mk (Kd.R_below (by (with_reducible repeat (first | apply Kd.R_alloc | apply Kd.R_drewN | apply Kd.R_drew)); exact HO_3.out) hb); have n1_ := Aside0.mk (below_step (by repeat (first | (with_reducible first | exact HB.out | apply below_alloc | apply pw_below_drewN | apply below_drew1) | exact HB.out)) hb); have n2_ := Aside0.mk (hbox); have n3_ := Aside0.mk ((by rw [hg]; exact (below_size (by repeat (first | (with_reducible first | exact HB.out | apply below_alloc | apply pw_below_drewN | apply below_drew1) | exact HB.out))) : w.heap.size ≤ gb273)); have n4_ := Aside0.mk ((by rw [hg]; exact (below_size (by repeat (first | (with_reducible first | exact HB.out | apply below_alloc | apply pw_below_drewN | apply below_drew1) | exact HB.out))) : w.heap.size ≤ gb273)); clear HO_3; clear HB; have HO_3 := n0_; have HB := n1_; have BK273 := n2_; have GW273 := n3_; have GE273 := n4_; clear n0_ n1_ n2_ n3_ n4_; clear hb hbox hg; have hcz15_0 : w14.cell? ⟨gb273, 0, none⟩ = some (.int .i64 0) := (blk_cell BK273.out 0).trans rfl; have hcz15_1 : w14.cell? ⟨gb273, 1, none⟩ = some (.string (⟨#[]⟩ : ByteArray)) := (blk_cell BK273.out 1).trans rfl; have hcz15_2 : w14.cell? ⟨gb273, 2, none⟩ = some (.string (⟨#[]⟩ : ByteArray)) := (blk_cell BK273.out 2).trans rfl; have hcz15_3 : w14.cell? ⟨gb273, 3, none⟩ = some (.int .i64 0) := (blk_cell BK273.out 3).trans rfl; have hfz15_0 := blk_frozen BK273.out 0; have hfz15_1 := blk_frozen BK273.out 1; have hfz15_2 := blk_frozen BK273.out 2; have hfz15_3 := blk_frozen BK273.out 3))
                  go_roundg k1
                  case measure => have := HK1.out; omega
                  case rel => exact ⟨(x3_1), (wrap64 (x9_1 + 1)), (by first | rfl | (simp; done) | (simp [*]; done)), H', ⟨by have := HK1.out; omega⟩, ⟨by (with_reducible repeat (first | apply Kd.R_alloc | apply Kd.R_drewN | apply Kd.R_drew)); exact Kd.R_mono (Kd.R_far (p := ⟨gb273, 3, none⟩) (Kd.R_far (p := ⟨gb273, 2, none⟩) (Kd.R_far (p := ⟨gb273, 1, none⟩) (Kd.R_far (p := ⟨gb273, 0, none⟩) (Kd.R_types HO_3.out BK273.out (by decide)) (fun _ hk => hk.2) (.int .i64 ((rd_T54 l0 x9_1).f0))) (fun _ hk => hk.2) (.string ((rd_T54 l0 x9_1).f1))) (fun _ hk => hk.2) (.string ((rd_T54 l0 x9_1).f2))) (fun _ hk => hk.2) (.int .i64 ((rd_T54 l0 x9_1).f3))) (fun _ hk => trivial)⟩, ⟨by repeat (first | (with_reducible first | exact HB.out | apply below_alloc | apply pw_below_drewN | apply below_drew1 | refine below_set ?_ GE273.out) | exact HB.out)⟩⟩
                · rw [if_neg c13] at H
                  have c13b0 : (((rd_T54 l0 x9_1).f0) == (-1004)) = false := beq_eq_false_iff_ne.mpr c13
                  have c13b1 : (((rd_T54 l0 x9_1).f0) != (-1004)) = true := bne_iff_ne.mpr c13
                  by_cases c16 : ((rd_T54 l0 x9_1).f0) = (-1)
                  · rw [if_pos c16] at H
                    have c16b0 : (((rd_T54 l0 x9_1).f0) == (-1)) = true := beq_iff_eq.mpr c16
                    have c16b1 : (((rd_T54 l0 x9_1).f0) != (-1)) = false := bne_eq_false_iff_eq.mpr c16
                    clear c16
                    have H' := Aside0.mk H
                    clear H
                    have p272 : 0 ≤ (x9_1 : Int) := of_decide_eq_true (by first | (with_reducible assumption) | assumption)
                    have q272 : x9_1 < (l0.length : Int) := of_decide_eq_true (by first | (with_reducible assumption) | assumption)
                    obtain ⟨ad272, e272, hx272_0, hx272_1, hx272_2, hx272_3⟩ := at_T54 HR0.out x9_1 p272 q272
                    cases e272
                    replace hx272_0 := (HB.out.cell (World.block_lt_of_cell? w _ hx272_0)).trans hx272_0
                    replace hx272_1 := (HB.out.cell (World.block_lt_of_cell? w _ hx272_1)).trans hx272_1
                    replace hx272_2 := (HB.out.cell (World.block_lt_of_cell? w _ hx272_2)).trans hx272_2
                    replace hx272_3 := (HB.out.cell (World.block_lt_of_cell? w _ hx272_3)).trans hx272_3
                    replace p272 := eq_true p272
                    replace q272 := eq_true q272
                    go_wp2_with (first | ((with_reducible refine gate_dst (N := 5) rfl ?_); refine box_event ?hg (N := 5) ?hd (cs := #[.int .i64 0, .string (⟨#[]⟩ : ByteArray), .string (⟨#[]⟩ : ByteArray), .int .i64 0]) (t := 54) ?hr ?_; (case hd => rfl); (case hg => rfl); (case hr => first | (go_simp; done) | (go_simp; rfl)); intro gb273 hg w17 hbox hb; have n0_ := Aside0.mk (Kd.R_below (by (with_reducible repeat (first | apply Kd.R_alloc | apply Kd.R_drewN | apply Kd.R_drew)); exact HO_3.out) hb); have n1_ := Aside0.mk (below_step (by repeat (first | (with_reducible first | exact HB.out | apply below_alloc | apply pw_below_drewN | apply below_drew1) | exact HB.out)) hb); have n2_ := Aside0.mk (hbox); have n3_ := Aside0.mk ((by rw [hg]; exact (below_size (by repeat (first | (with_reducible first | exact HB.out | apply below_alloc | apply pw_below_drewN | apply below_drew1) | exact HB.out))) : w.heap.size ≤ gb273)); have n4_ := Aside0.mk ((by rw [hg]; exact (below_size (by repeat (first | (with_reducible first | exact HB.out | apply below_alloc | apply pw_below_drewN | apply below_drew1) | exact HB.out))) : w.heap.size ≤ gb273)); clear HO_3; clear HB; have HO_3 := n0_; have HB := n1_; have BK273 := n2_; have GW273 := n3_; have GE273 := n4_; clear n0_ n1_ n2_ n3_ n4_; clear hb hbox hg; have hcz18_0 : w17.cell? ⟨gb273, 0, none⟩ = some (.int .i64 0) := (blk_cell BK273.out 0).trans rfl; have hcz18_1 : w17.cell? ⟨gb273, 1, none⟩ = some (.string (⟨#[]⟩ : ByteArray)) := (blk_cell BK273.out 1).trans rfl; have hcz18_2 : w17.cell? ⟨gb273, 2, none⟩ = some (.string (⟨#[]⟩ : ByteArray)) := (blk_cell BK273.out 2).trans rfl; have hcz18_3 : w17.cell? ⟨gb273, 3, none⟩ = some (.int .i64 0) := (blk_cell BK273.out 3).trans rfl; have hfz18_0 := blk_frozen BK273.out 0; have hfz18_1 := blk_frozen BK273.out 1; have hfz18_2 := blk_frozen BK273.out 2; have hfz18_3 := blk_frozen BK273.out 3))
                    go_roundg k1
                    case measure => have := HK1.out; omega
                    case rel => exact ⟨(x3_1), (wrap64 (x9_1 + 1)), (by first | rfl | (simp; done) | (simp [*]; done)), H', ⟨by have := HK1.out; omega⟩, ⟨by (with_reducible repeat (first | apply Kd.R_alloc | apply Kd.R_drewN | apply Kd.R_drew)); exact Kd.R_mono (Kd.R_far (p := ⟨gb273, 3, none⟩) (Kd.R_far (p := ⟨gb273, 2, none⟩) (Kd.R_far (p := ⟨gb273, 1, none⟩) (Kd.R_far (p := ⟨gb273, 0, none⟩) (Kd.R_types HO_3.out BK273.out (by decide)) (fun _ hk => hk.2) (.int .i64 ((rd_T54 l0 x9_1).f0))) (fun _ hk => hk.2) (.string ((rd_T54 l0 x9_1).f1))) (fun _ hk => hk.2) (.string ((rd_T54 l0 x9_1).f2))) (fun _ hk => hk.2) (.int .i64 ((rd_T54 l0 x9_1).f3))) (fun _ hk => trivial)⟩, ⟨by repeat (first | (with_reducible first | exact HB.out | apply below_alloc | apply pw_below_drewN | apply below_drew1 | refine below_set ?_ GE273.out) | exact HB.out)⟩⟩
                  · rw [if_neg c16] at H
                    have c16b0 : (((rd_T54 l0 x9_1).f0) == (-1)) = false := beq_eq_false_iff_ne.mpr c16
                    have c16b1 : (((rd_T54 l0 x9_1).f0) != (-1)) = true := bne_iff_ne.mpr c16
                    by_cases c19 : x3_1.length < 8796093022208
                    · rw [if_pos c19] at H
                      have LMc19 := Aside0.mk c19
                      clear c19
                      obtain ⟨y274, hy274⟩ : ∃ y_ : List ByteArray, y_ = (x3_1 ++ [(rd_T54 l0 x9_1).f1]) := ⟨_, rfl⟩
                      replace H : (spec_Shown.l0 k1 y274 l0 (l0.length : Int) (wrap64 (x9_1 + 1))) = some r := by first | (rw [hy274]; with_reducible exact H) | (have H2_ := (Option.bind_some _ _).symm.trans H; rw [hy274]; with_reducible exact H2_) | (have H2_ := (Option.bind_some _ _).symm.trans H; with_reducible exact H2_) | with_reducible exact H | (rw [hy274]; exact H) | exact H
                      have Ny274 := Aside0.mk hy274
                      clear hy274
                      have H' := Aside0.mk H
                      clear H
                      have p272 : 0 ≤ (x9_1 : Int) := of_decide_eq_true (by first | (with_reducible assumption) | assumption)
                      have q272 : x9_1 < (l0.length : Int) := of_decide_eq_true (by first | (with_reducible assumption) | assumption)
                      obtain ⟨ad272, e272, hx272_0, hx272_1, hx272_2, hx272_3⟩ := at_T54 HR0.out x9_1 p272 q272
                      cases e272
                      replace hx272_0 := (HB.out.cell (World.block_lt_of_cell? w _ hx272_0)).trans hx272_0
                      replace hx272_1 := (HB.out.cell (World.block_lt_of_cell? w _ hx272_1)).trans hx272_1
                      replace hx272_2 := (HB.out.cell (World.block_lt_of_cell? w _ hx272_2)).trans hx272_2
                      replace hx272_3 := (HB.out.cell (World.block_lt_of_cell? w _ hx272_3)).trans hx272_3
                      replace p272 := eq_true p272
                      replace q272 := eq_true q272
                      go_wp2_with (first | ((with_reducible refine gate_dst (N := 5) rfl ?_); refine box_event ?hg (N := 5) ?hd (cs := #[.int .i64 0, .string (⟨#[]⟩ : ByteArray), .string (⟨#[]⟩ : ByteArray), .int .i64 0]) (t := 54) ?hr ?_; (case hd => rfl); (case hg => rfl); (case hr => first | (go_simp; done) | (go_simp; rfl)); intro gb273 hg w20 hbox hb; have n0_ := Aside0.mk (Kd.R_below (by (with_reducible repeat (first | apply Kd.R_alloc | apply Kd.R_drewN | apply Kd.R_drew)); exact HO_3.out) hb); have n1_ := Aside0.mk (below_step (by repeat (first | (with_reducible first | exact HB.out | apply below_alloc | apply pw_below_drewN | apply below_drew1) | exact HB.out)) hb); have n2_ := Aside0.mk (hbox); have n3_ := Aside0.mk ((by rw [hg]; exact (below_size (by repeat (first | (with_reducible first | exact HB.out | apply below_alloc | apply pw_below_drewN | apply below_drew1) | exact HB.out))) : w.heap.size ≤ gb273)); have n4_ := Aside0.mk ((by rw [hg]; exact (below_size (by repeat (first | (with_reducible first | exact HB.out | apply below_alloc | apply pw_below_drewN | apply below_drew1) | exact HB.out))) : w.heap.size ≤ gb273)); clear HO_3; clear HB; have HO_3 := n0_; have HB := n1_; have BK273 := n2_; have GW273 := n3_; have GE273 := n4_; clear n0_ n1_ n2_ n3_ n4_; clear hb hbox hg; have hcz21_0 : w20.cell? ⟨gb273, 0, none⟩ = some (.int .i64 0) := (blk_cell BK273.out 0).trans rfl; have hcz21_1 : w20.cell? ⟨gb273, 1, none⟩ = some (.string (⟨#[]⟩ : ByteArray)) := (blk_cell BK273.out 1).trans rfl; have hcz21_2 : w20.cell? ⟨gb273, 2, none⟩ = some (.string (⟨#[]⟩ : ByteArray)) := (blk_cell BK273.out 2).trans rfl; have hcz21_3 : w20.cell? ⟨gb273, 3, none⟩ = some (.int .i64 0) := (blk_cell BK273.out 3).trans rfl; have hfz21_0 := blk_frozen BK273.out 0; have hfz21_1 := blk_frozen BK273.out 1; have hfz21_2 := blk_frozen BK273.out 2; have hfz21_3 := blk_frozen BK273.out 3) | ((with_reducible refine gate_builtin (b := .append) (xs := #[.tmp 31, .tmp 34]) rfl ?_); at_builtin; refine Kd.R_append Kd.string (w0 := w) w.heap.size rfl (.tmp 31) (.tmp 34) 22 9 (.string ⟨#[]⟩) 16 rfl Tryz.underlying22 info9 rfl (by decide) (by omega) u3 x3_1 ((rd_T54 l0 x9_1).f1) [.string ((rd_T54 l0 x9_1).f1)] (fun _ => True) (fun _ => False) rfl (by first | (go_simp; done) | (go_simp; rfl)) ?aP (fun _ hk => hk.elim) ?aF ?aO ?aB ?aS ?aL ?_; (case aP => exact rfl); (case aB => exact (by repeat (first | (with_reducible first | exact HB.out | apply below_alloc | apply pw_below_drewN | apply below_drew1 | refine below_set ?_ GE273.out) | exact HB.out))); (case aF => exact (fun _ _ => trivial)); (case aO => exact (by (with_reducible repeat (first | apply Kd.R_alloc | apply Kd.R_drewN | apply Kd.R_drew)); exact Kd.R_mono (Kd.R_far (p := ⟨gb273, 3, none⟩) (Kd.R_far (p := ⟨gb273, 2, none⟩) (Kd.R_far (p := ⟨gb273, 1, none⟩) (Kd.R_far (p := ⟨gb273, 0, none⟩) (Kd.R_types HO_3.out BK273.out (by decide)) (fun _ hk => hk.2) (.int .i64 ((rd_T54 l0 x9_1).f0))) (fun _ hk => hk.2) (.string ((rd_T54 l0 x9_1).f1))) (fun _ hk => hk.2) (.string ((rd_T54 l0 x9_1).f2))) (fun _ hk => hk.2) (.int .i64 ((rd_T54 l0 x9_1).f3))) (fun _ hk => trivial))); (case aS => exact (below_size (by repeat (first | (with_reducible first | exact HB.out | apply below_alloc | apply pw_below_drewN | apply below_drew1 | refine below_set ?_ GE273.out) | exact HB.out)))); (case aL => have := LMc19.out; omega); intro v275 w22 ho hb hg hat; rw [← Ny274.out] at ho; have n0_ := Aside0.mk (blk_grown (g := gb273) (o := .cells #[.int .i64 ((rd_T54 l0 x9_1).f0), .string ((rd_T54 l0 x9_1).f1), .string ((rd_T54 l0 x9_1).f2), .int .i64 ((rd_T54 l0 x9_1).f3)] 54 (0, 0)) (by (with_reducible repeat (first | refine blk_drewN ?_ _ | refine blk_drew ?_ | refine blk_alloc ?_ _)); refine blk_put (cs := #[.int .i64 ((rd_T54 l0 x9_1).f0), .string ((rd_T54 l0 x9_1).f1), .string ((rd_T54 l0 x9_1).f2), .int .i64 0]) ?_ 3 _ rfl; (with_reducible repeat (first | refine blk_drewN ?_ _ | refine blk_drew ?_ | refine blk_alloc ?_ _)); refine blk_put (cs := #[.int .i64 ((rd_T54 l0 x9_1).f0), .string ((rd_T54 l0 x9_1).f1), .string (⟨#[]⟩ : ByteArray), .int .i64 0]) ?_ 2 _ rfl; (with_reducible repeat (first | refine blk_drewN ?_ _ | refine blk_drew ?_ | refine blk_alloc ?_ _)); refine blk_put (cs := #[.int .i64 ((rd_T54 l0 x9_1).f0), .string (⟨#[]⟩ : ByteArray), .string (⟨#[]⟩ : ByteArray), .int .i64 0]) ?_ 1 _ rfl; (with_reducible repeat (first | refine blk_drewN ?_ _ | refine blk_drew ?_ | refine blk_alloc ?_ _)); refine blk_put (cs := #[.int .i64 0, .string (⟨#[]⟩ : ByteArray), .string (⟨#[]⟩ : ByteArray), .int .i64 0]) ?_ 0 _ rfl; (with_reducible repeat (first | refine blk_drewN ?_ _ | refine blk_drew ?_ | refine blk_alloc ?_ _)); exact BK273.out) hg (Kd.R_ne HO_3.out BK273.out (by decide))); have n1_ := Aside0.mk (hb); have n2_ := Aside0.mk (ho); clear BK273; clear HB; clear HO_3; have BK273 := n0_; have HB := n1_; have HO276 := n2_; clear n0_ n1_ n2_; clear ho hb hg hat))
                      go_roundg k1
                      case measure => have := HK1.out; omega
                      case rel => exact ⟨(y274), (wrap64 (x9_1 + 1)), (by first | rfl | (simp; done) | (simp [*]; done)), H', ⟨by have := HK1.out; omega⟩, ⟨by (with_reducible repeat (first | apply Kd.R_alloc | apply Kd.R_drewN | apply Kd.R_drew)); exact HO276.out⟩, ⟨by repeat (first | (with_reducible first | exact HB.out | apply below_alloc | apply pw_below_drewN | apply below_drew1 | refine below_set ?_ GE273.out) | exact HB.out)⟩⟩
                    · rw [if_neg c19] at H
                      exact absurd H (by simp)
          · rw [if_neg c6] at H
            exact absurd H (by simp)
        · rw [if_neg c5] at H
          exact absurd H (by simp)
      · rw [if_neg c4] at H
        have c4b0 : decide (x9_1 < (l0.length : Int)) = false := decide_eq_false c4
        clear c4
        obtain rfl := Option.some.inj H
        go_wp2
        go_ret
        exact ⟨_, by first | rfl | (simp [errW_none, errW_some] <;> rfl) | (simp [*, errW_none, errW_some] <;> rfl), by (with_reducible repeat (first | apply Kd.R_alloc | apply Kd.R_drewN | apply Kd.R_drew)); exact HO_3.out, by repeat (first | (with_reducible first | exact HB.out | apply below_alloc | apply pw_below_drewN | apply below_drew1) | exact HB.out)⟩


/-! ### spec_SameTexts: function 19 -/
def spec_SameTexts.l0 : Nat → List ByteArray → List ByteArray → Int → Int → Option (Bool)
  | 0, _, _, _, _ => none
  | k + 1, x1, x12, x13, x14 => if x14 < x13 then (if 0 ≤ x14 then (if x14 < (x12.length : Int) then (if x14 < (x1.length : Int) then (if (rdOf ByteArray.empty x12 x14).toList = (rdOf ByteArray.empty x1 x14).toList then (spec_SameTexts.l0 k x1 x12 x13 (wrap64 (x14 + 1))) else (some false)) else (none)) else (none)) else (none)) else (some true)
def spec_SameTexts.f (k : Nat) (l0 : List ByteArray) (l1 : List ByteArray) : Option (Bool) := if (l0.length : Int) = (l1.length : Int) then (spec_SameTexts.l0 k l1 l0 (l0.length : Int) 0) else (some false)
theorem spec_SameTexts.mono_l : ∀ k, (∀ y0 y1 y2 y3, LeO (spec_SameTexts.l0 k y0 y1 y2 y3) (spec_SameTexts.l0 (k + 1) y0 y1 y2 y3))
  | 0 => fun _ _ _ _ r h => by simp [spec_SameTexts.l0] at h
  | k + 1 => by
    have ih0 := spec_SameTexts.mono_l k
    · intro y0 y1 y2 y3
      unfold spec_SameTexts.l0
      repeat' first
      | (with_reducible exact ih0 _ _ _ _)
      | (with_reducible exact LeO.refl _)
      | (with_reducible exact LeO.none _)
      | (with_reducible refine LeO.ite ?_ ?_)
      | (with_reducible refine LeO.bind ?_ (fun _ => ?_))
      | exact ih0 _ _ _ _
      | exact LeO.none _
      | refine LeO.ite ?_ ?_
      | refine LeO.bind ?_ (fun _ => ?_)
theorem spec_SameTexts.mono : ∀ a0 a1 k, LeO (spec_SameTexts.f k a0 a1) (spec_SameTexts.f (k + 1) a0 a1) := by
  intro a0 a1 k
  have ih0 := spec_SameTexts.mono_l k
  unfold spec_SameTexts.f
  repeat' first
      | (with_reducible exact ih0 _ _ _ _)
      | (with_reducible exact LeO.refl _)
      | (with_reducible exact LeO.none _)
      | (with_reducible refine LeO.ite ?_ ?_)
      | (with_reducible refine LeO.bind ?_ (fun _ => ?_))
      | exact ih0 _ _ _ _
      | exact LeO.none _
      | refine LeO.ite ?_ ?_
      | refine LeO.bind ?_ (fun _ => ?_)
set_option maxHeartbeats 8000000 in
set_option maxRecDepth 100000 in
theorem spec_SameTexts.calls (k : Nat) (A0 : Option Addr) (c0 : Nat) (l0 : List ByteArray) (A1 : Option Addr) (c1 : Nat) (l1 : List ByteArray) (r : Bool) (w : World) (hr0 : Kd.C Kd.string w A0 l0.length l0) (hc0 : l0.length ≤ c0) (hr1 : Kd.C Kd.string w A1 l1.length l1) (hc1 : l1.length ≤ c1) (h : spec_SameTexts.f k l0 l1 = some r) :
    Calls Tryz.prog 19 #[.slice A0 l0.length c0, .slice A1 l1.length c1] w fun e w' => e = .returned (.bool r) ∧ Drawn0 w w' := by
  have HR0 := Aside0.mk hr0
  have HC0 := Aside0.mk hc0
  clear hr0 hc0
  have HR1 := Aside0.mk hr1
  have HC1 := Aside0.mk hc1
  clear hr1 hc1
  have H : (if (l0.length : Int) = (l1.length : Int) then (spec_SameTexts.l0 k l1 l0 (l0.length : Int) 0) else (some false)) = some r := h
  clear h
  by_cases c3 : (l0.length : Int) = (l1.length : Int)
  · rw [if_pos c3] at H
    have c3b0 : ((l0.length : Int) == (l1.length : Int)) = true := beq_iff_eq.mpr c3
    have c3b1 : ((l0.length : Int) != (l1.length : Int)) = false := bne_eq_false_iff_eq.mpr c3
    have c3b2 : (l0.length == l1.length) = true := by first | simpa using c3 | (simp at c3 ⊢; omega)
    clear c3
    have H' := Aside0.mk H
    clear H
    go_enter Tryz.func19, Tryz.ntmps19
    go_wp2
    go_loopg [14] k (fun kq v14 w' => ∃ (x14_1 : Int), v14 = .int .i64 x14_1 ∧ Aside0 (spec_SameTexts.l0 kq l1 l0 (l0.length : Int) x14_1 = some r) ∧ Aside0 (kq ≤ k) ∧ Drawn0 w w')
    case atStart => exact ⟨(0), (by first | rfl | (simp; done) | (simp [*]; done)), H', ⟨Nat.le_refl _⟩, by repeat (first | exact Drawn0.refl _ | apply Drawn0.step)⟩
    case round =>
      clear H'
      try clear c1
      try clear p2
      try clear c3
      try clear c3b0
      try clear c3b1
      try clear c3b2
      obtain ⟨x14_1, rfl, HA, HK1, ⟨m1, rfl⟩⟩ := hrel
      cases gk with
      | zero => exact absurd HA.out (by simp [spec_SameTexts.l0])
      | succ k1 =>
        have H := HA.out
        clear HA
        simp only [spec_SameTexts.l0] at H
        by_cases c4 : x14_1 < (l0.length : Int)
        · rw [if_pos c4] at H
          have c4b0 : decide (x14_1 < (l0.length : Int)) = true := decide_eq_true c4
          clear c4
          by_cases c5 : 0 ≤ x14_1
          · rw [if_pos c5] at H
            have c5b0 : decide (0 ≤ x14_1) = true := decide_eq_true c5
            clear c5
            by_cases c6 : x14_1 < (l0.length : Int)
            · rw [if_pos c6] at H
              have c6b0 : decide (x14_1 < (l0.length : Int)) = true := decide_eq_true c6
              clear c6
              by_cases c7 : x14_1 < (l1.length : Int)
              · rw [if_pos c7] at H
                have c7b0 : decide (x14_1 < (l1.length : Int)) = true := decide_eq_true c7
                clear c7
                by_cases c8 : (rdOf ByteArray.empty l0 x14_1).toList = (rdOf ByteArray.empty l1 x14_1).toList
                · rw [if_pos c8] at H
                  have c8b0 : ((rdOf ByteArray.empty l0 x14_1).toList == (rdOf ByteArray.empty l1 x14_1).toList) = true := beq_iff_eq.mpr c8
                  have c8b1 : ((rdOf ByteArray.empty l0 x14_1).toList != (rdOf ByteArray.empty l1 x14_1).toList) = false := bne_eq_false_iff_eq.mpr c8
                  clear c8
                  have H' := Aside0.mk H
                  clear H
                  have p267 : 0 ≤ (x14_1 : Int) := of_decide_eq_true (by first | (with_reducible assumption) | assumption)
                  have q267 : x14_1 < (l0.length : Int) := of_decide_eq_true (by first | (with_reducible assumption) | assumption)
                  obtain ⟨ad267, e267, hx267_0⟩ := Kd.at_string HR0.out x14_1 p267 q267
                  cases e267
                  replace p267 := eq_true p267
                  replace q267 := eq_true q267
                  have p268 : 0 ≤ (x14_1 : Int) := of_decide_eq_true (by first | (with_reducible assumption) | assumption)
                  have q268 : x14_1 < (l1.length : Int) := of_decide_eq_true (by first | (with_reducible assumption) | assumption)
                  obtain ⟨ad268, e268, hx268_0⟩ := Kd.at_string HR1.out x14_1 p268 q268
                  cases e268
                  replace p268 := eq_true p268
                  replace q268 := eq_true q268
                  go_wp2
                  go_roundg k1
                  case measure => have := HK1.out; omega
                  case rel => exact ⟨(wrap64 (x14_1 + 1)), (by first | rfl | (simp; done) | (simp [*]; done)), H', ⟨by have := HK1.out; omega⟩, by repeat (first | exact Drawn0.refl _ | apply Drawn0.step)⟩
                · rw [if_neg c8] at H
                  have c8b0 : ((rdOf ByteArray.empty l0 x14_1).toList == (rdOf ByteArray.empty l1 x14_1).toList) = false := beq_eq_false_iff_ne.mpr c8
                  have c8b1 : ((rdOf ByteArray.empty l0 x14_1).toList != (rdOf ByteArray.empty l1 x14_1).toList) = true := bne_iff_ne.mpr c8
                  obtain rfl := Option.some.inj H
                  have p267 : 0 ≤ (x14_1 : Int) := of_decide_eq_true (by first | (with_reducible assumption) | assumption)
                  have q267 : x14_1 < (l0.length : Int) := of_decide_eq_true (by first | (with_reducible assumption) | assumption)
                  obtain ⟨ad267, e267, hx267_0⟩ := Kd.at_string HR0.out x14_1 p267 q267
                  cases e267
                  replace p267 := eq_true p267
                  replace q267 := eq_true q267
                  have p268 : 0 ≤ (x14_1 : Int) := of_decide_eq_true (by first | (with_reducible assumption) | assumption)
                  have q268 : x14_1 < (l1.length : Int) := of_decide_eq_true (by first | (with_reducible assumption) | assumption)
                  obtain ⟨ad268, e268, hx268_0⟩ := Kd.at_string HR1.out x14_1 p268 q268
                  cases e268
                  replace p268 := eq_true p268
                  replace q268 := eq_true q268
                  go_wp2
                  go_ret
                  exact ⟨by first | rfl | (simp; done) | (simp [*]; done), by repeat (first | exact Drawn0.refl _ | apply Drawn0.step)⟩
              · rw [if_neg c7] at H
                exact absurd H (by simp)
            · rw [if_neg c6] at H
              exact absurd H (by simp)
          · rw [if_neg c5] at H
            exact absurd H (by simp)
        · rw [if_neg c4] at H
          have c4b0 : decide (x14_1 < (l0.length : Int)) = false := decide_eq_false c4
          clear c4
          obtain rfl := Option.some.inj H
          go_wp2
          go_ret
          exact ⟨by first | rfl | (simp; done) | (simp [*]; done), by repeat (first | exact Drawn0.refl _ | apply Drawn0.step)⟩
  · rw [if_neg c3] at H
    have c3b0 : ((l0.length : Int) == (l1.length : Int)) = false := beq_eq_false_iff_ne.mpr c3
    have c3b1 : ((l0.length : Int) != (l1.length : Int)) = true := bne_iff_ne.mpr c3
    have c3b2 : (l0.length == l1.length) = false := by first | simpa using c3 | (simp at c3 ⊢; omega)
    obtain rfl := Option.some.inj H
    go_enter Tryz.func19, Tryz.ntmps19
    go_wp2
    go_ret
    exact ⟨by first | rfl | (simp; done) | (simp [*]; done), by repeat (first | exact Drawn0.refl _ | apply Drawn0.step)⟩

end Go.Proofs.YtpoimmpdncickaaGreatDoor.PHelp
