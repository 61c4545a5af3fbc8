/- The statements' helpers: what words and lines are (by the kit's print, cut out by gen_help.py). -/
import Derived.Test.YtpoimmpdncickaaGreatDoorHelp0
namespace Go.Proofs.YtpoimmpdncickaaGreatDoor.PHelp
open Go.RowKit Go.Proofs.YtpoimmpdncickaaGreatDoorW.PrintWords Go.Proofs.YtpoimmpdncickaaGreatDoorW.PrintLast Go.Proofs.YtpoimmpdncickaaGreatDoorW.PrintMore
attribute [local go_sem] max2_int min2_int max_two min_two max_three min_three max_four min_four   -- for this text's walks alone
set_option linter.unusedVariables false
set_option linter.unusedSimpArgs false








/-! ### spec_isHex: function 57 -/
def spec_isHex.f (a0 : Int) : Option (Bool) := (spec_IsDigit.f a0).bind fun t105 => (if t105 = true then (some true) else (if a0 ≥ 97 then (if a0 ≤ 102 then (some true) else (if a0 ≥ 65 then (some (decide (a0 ≤ 70))) else (some false))) else (if a0 ≥ 65 then (some (decide (a0 ≤ 70))) else (some false))))
set_option maxHeartbeats 8000000 in
set_option maxRecDepth 100000 in
theorem spec_isHex.calls (a0 : Int) (r : Bool) (w : World) (h : spec_isHex.f a0 = some r) :
    Calls Tryz.prog 57 #[.int .u8 a0] w fun e w' => e = .returned (.bool r) ∧ Drawn0 w w' := by
  have H : ((spec_IsDigit.f a0).bind fun t105 => (if t105 = true then (some true) else (if a0 ≥ 97 then (if a0 ≤ 102 then (some true) else (if a0 ≥ 65 then (some (decide (a0 ≤ 70))) else (some false))) else (if a0 ≥ 65 then (some (decide (a0 ≤ 70))) else (some false))))) = some r := h
  clear h
  replace H := Option.bind_eq_some_iff.mp H
  obtain ⟨t105, A20, H⟩ := H
  replace H : (if t105 = true then (some true) else (if a0 ≥ 97 then (if a0 ≤ 102 then (some true) else (if a0 ≥ 65 then (some (decide (a0 ≤ 70))) else (some false))) else (if a0 ≥ 65 then (some (decide (a0 ≤ 70))) else (some false)))) = some r := H
  have A2 := Aside0.mk A20
  clear A20
  by_cases c3 : t105 = true
  · subst c3
    have H1 : (some true) = some r := by rw [if_pos rfl] at H; exact H
    clear H
    have H := H1
    clear H1
    obtain rfl := Option.some.inj H
    go_enter Tryz.func57, Tryz.ntmps57
    go_wp2_with (first | ((with_reducible refine gate_callee (f := 42) rfl ?_); refine goesL_ (some 4) rfl rfl Tryz.func42 (by kernel_rfl) rfl #[.int .u8 a0] rfl (by (try simp only [List.map_toArray, List.map_cons, List.map_nil]); first | done | rfl | (simp only [List.length_drop, List.length_take]; rfl)) ?_; (with_reducible refine (spec_IsDigit.calls a0 true _ A2.out).mono ?_); rintro e w' ⟨rfl, ⟨nd, rfl⟩⟩; refine ⟨_, rfl, ?_⟩))
    go_ret
    exact ⟨by first | rfl | (simp; done) | (simp [*]; done), by repeat (first | exact Drawn0.refl _ | apply Drawn0.step)⟩
  · replace c3 := Bool.eq_false_iff.mpr c3
    subst c3
    have H1 : (if a0 ≥ 97 then (if a0 ≤ 102 then (some true) else (if a0 ≥ 65 then (some (decide (a0 ≤ 70))) else (some false))) else (if a0 ≥ 65 then (some (decide (a0 ≤ 70))) else (some false))) = some r := by rw [if_neg (show ¬ (false = true) by decide)] at H; exact H
    clear H
    have H := H1
    clear H1
    by_cases c4 : a0 ≥ 97
    · rw [if_pos c4] at H
      have c4b0 : decide (97 ≤ a0) = true := decide_eq_true c4
      clear c4
      by_cases c5 : a0 ≤ 102
      · rw [if_pos c5] at H
        have c5b0 : decide (a0 ≤ 102) = true := decide_eq_true c5
        clear c5
        obtain rfl := Option.some.inj H
        go_enter Tryz.func57, Tryz.ntmps57
        go_wp2_with (first | ((with_reducible refine gate_callee (f := 42) rfl ?_); refine goesL_ (some 4) rfl rfl Tryz.func42 (by kernel_rfl) rfl #[.int .u8 a0] rfl (by (try simp only [List.map_toArray, List.map_cons, List.map_nil]); first | done | rfl | (simp only [List.length_drop, List.length_take]; rfl)) ?_; (with_reducible refine (spec_IsDigit.calls a0 false _ A2.out).mono ?_); rintro e w' ⟨rfl, ⟨nd, rfl⟩⟩; refine ⟨_, rfl, ?_⟩))
        go_ret
        exact ⟨by first | rfl | (simp; done) | (simp [*]; done), by repeat (first | exact Drawn0.refl _ | apply Drawn0.step)⟩
      · rw [if_neg c5] at H
        have c5b0 : decide (a0 ≤ 102) = false := decide_eq_false c5
        clear c5
        by_cases c6 : a0 ≥ 65
        · rw [if_pos c6] at H
          have c6b0 : decide (65 ≤ a0) = true := decide_eq_true c6
          clear c6
          obtain rfl := Option.some.inj H
          go_enter Tryz.func57, Tryz.ntmps57
          go_wp2_with (first | ((with_reducible refine gate_callee (f := 42) rfl ?_); refine goesL_ (some 4) rfl rfl Tryz.func42 (by kernel_rfl) rfl #[.int .u8 a0] rfl (by (try simp only [List.map_toArray, List.map_cons, List.map_nil]); first | done | rfl | (simp only [List.length_drop, List.length_take]; rfl)) ?_; (with_reducible refine (spec_IsDigit.calls a0 false _ A2.out).mono ?_); rintro e w' ⟨rfl, ⟨nd, rfl⟩⟩; refine ⟨_, rfl, ?_⟩))
          go_ret
          exact ⟨by first | rfl | (simp; done) | (simp [*]; done), by repeat (first | exact Drawn0.refl _ | apply Drawn0.step)⟩
        · rw [if_neg c6] at H
          have c6b0 : decide (65 ≤ a0) = false := decide_eq_false c6
          clear c6
          obtain rfl := Option.some.inj H
          go_enter Tryz.func57, Tryz.ntmps57
          go_wp2_with (first | ((with_reducible refine gate_callee (f := 42) rfl ?_); refine goesL_ (some 4) rfl rfl Tryz.func42 (by kernel_rfl) rfl #[.int .u8 a0] rfl (by (try simp only [List.map_toArray, List.map_cons, List.map_nil]); first | done | rfl | (simp only [List.length_drop, List.length_take]; rfl)) ?_; (with_reducible refine (spec_IsDigit.calls a0 false _ A2.out).mono ?_); rintro e w' ⟨rfl, ⟨nd, rfl⟩⟩; refine ⟨_, rfl, ?_⟩))
          go_ret
          exact ⟨by first | rfl | (simp; done) | (simp [*]; done), by repeat (first | exact Drawn0.refl _ | apply Drawn0.step)⟩
    · rw [if_neg c4] at H
      have c4b0 : decide (97 ≤ a0) = false := decide_eq_false c4
      clear c4
      by_cases c7 : a0 ≥ 65
      · rw [if_pos c7] at H
        have c7b0 : decide (65 ≤ a0) = true := decide_eq_true c7
        clear c7
        obtain rfl := Option.some.inj H
        go_enter Tryz.func57, Tryz.ntmps57
        go_wp2_with (first | ((with_reducible refine gate_callee (f := 42) rfl ?_); refine goesL_ (some 4) rfl rfl Tryz.func42 (by kernel_rfl) rfl #[.int .u8 a0] rfl (by (try simp only [List.map_toArray, List.map_cons, List.map_nil]); first | done | rfl | (simp only [List.length_drop, List.length_take]; rfl)) ?_; (with_reducible refine (spec_IsDigit.calls a0 false _ A2.out).mono ?_); rintro e w' ⟨rfl, ⟨nd, rfl⟩⟩; refine ⟨_, rfl, ?_⟩))
        go_ret
        exact ⟨by first | rfl | (simp; done) | (simp [*]; done), by repeat (first | exact Drawn0.refl _ | apply Drawn0.step)⟩
      · rw [if_neg c7] at H
        have c7b0 : decide (65 ≤ a0) = false := decide_eq_false c7
        clear c7
        obtain rfl := Option.some.inj H
        go_enter Tryz.func57, Tryz.ntmps57
        go_wp2_with (first | ((with_reducible refine gate_callee (f := 42) rfl ?_); refine goesL_ (some 4) rfl rfl Tryz.func42 (by kernel_rfl) rfl #[.int .u8 a0] rfl (by (try simp only [List.map_toArray, List.map_cons, List.map_nil]); first | done | rfl | (simp only [List.length_drop, List.length_take]; rfl)) ?_; (with_reducible refine (spec_IsDigit.calls a0 false _ A2.out).mono ?_); rintro e w' ⟨rfl, ⟨nd, rfl⟩⟩; refine ⟨_, rfl, ?_⟩))
        go_ret
        exact ⟨by first | rfl | (simp; done) | (simp [*]; done), by repeat (first | exact Drawn0.refl _ | apply Drawn0.step)⟩

/-! ### spec_IsNumber: function 39 -/
mutual
def spec_IsNumber.j0 : Nat → ByteArray → Bool → Option (Bool)
  | 0, _, _ => none
  | k + 1, x0, x14 => if x14 = true then (spec_IsNumber.l0 k x0 2) else (spec_IsNumber.l1 k x0 (x0.size : Int) 0)
def spec_IsNumber.l0 : Nat → ByteArray → Int → Option (Bool)
  | 0, _, _ => none
  | k + 1, x0, x3 => if x3 < (x0.size : Int) then (if 0 ≤ x3 then ((spec_isHex.f (bt x0 x3)).bind fun t106 => (if t106 = true then (spec_IsNumber.l0 k x0 (wrap64 (x3 + 1))) else (some false))) else (none)) else (some true)
def spec_IsNumber.l1 : Nat → ByteArray → Int → Int → Option (Bool)
  | 0, _, _, _ => none
  | k + 1, x0, x27, x28 => if x28 < x27 then (if 0 ≤ x28 then (if x28 < (x0.size : Int) then ((spec_IsDigit.f (bt x0 x28)).bind fun t107 => (if t107 = true then (if x28 = 0 then (if 0 < (x0.size : Int) then (if (bt x0 0) = 48 then (if (x0.size : Int) > 1 then (some false) else (spec_IsNumber.l1 k x0 x27 (wrap64 (x28 + 1)))) else (spec_IsNumber.l1 k x0 x27 (wrap64 (x28 + 1)))) else (none)) else (spec_IsNumber.l1 k x0 x27 (wrap64 (x28 + 1)))) else (some false))) else (none)) else (none)) else (some true)
end
def spec_IsNumber.f (k : Nat) (a0 : ByteArray) : Option (Bool) := if a0.toList = ([] : List UInt8) then (some false) else (if (a0.size : Int) > 2 then (if 0 ≤ 2 then (if 2 ≤ (a0.size : Int) then (spec_IsNumber.j0 k a0 ((a0.extract 0 2).toList == ([48, 120] : List UInt8))) else (none)) else (none)) else (spec_IsNumber.j0 k a0 false))
theorem spec_IsNumber.mono_l : ∀ k, (∀ y0 y1, LeO (spec_IsNumber.j0 k y0 y1) (spec_IsNumber.j0 (k + 1) y0 y1)) ∧ (∀ y0 y1, LeO (spec_IsNumber.l0 k y0 y1) (spec_IsNumber.l0 (k + 1) y0 y1)) ∧ (∀ y0 y1 y2, LeO (spec_IsNumber.l1 k y0 y1 y2) (spec_IsNumber.l1 (k + 1) y0 y1 y2))
  | 0 => ⟨fun _ _ r h => by simp [spec_IsNumber.j0] at h, fun _ _ r h => by simp [spec_IsNumber.l0] at h, fun _ _ _ r h => by simp [spec_IsNumber.l1] at h⟩
  | k + 1 => by
    obtain ⟨ih0, ih1, ih2⟩ := spec_IsNumber.mono_l k
    refine ⟨?_, ?_, ?_⟩
    · intro y0 y1
      unfold spec_IsNumber.j0
      repeat' first
      | (with_reducible exact ih0 _ _)
      | (with_reducible exact ih1 _ _)
      | (with_reducible exact ih2 _ _ _)
      | (with_reducible exact LeO.refl _)
      | (with_reducible exact LeO.none _)
      | (with_reducible refine LeO.ite ?_ ?_)
      | (with_reducible refine LeO.bind ?_ (fun _ => ?_))
      | exact ih0 _ _
      | exact ih1 _ _
      | exact ih2 _ _ _
      | exact LeO.none _
      | refine LeO.ite ?_ ?_
      | refine LeO.bind ?_ (fun _ => ?_)
    · intro y0 y1
      unfold spec_IsNumber.l0
      repeat' first
      | (with_reducible exact ih0 _ _)
      | (with_reducible exact ih1 _ _)
      | (with_reducible exact ih2 _ _ _)
      | (with_reducible exact LeO.refl _)
      | (with_reducible exact LeO.none _)
      | (with_reducible refine LeO.ite ?_ ?_)
      | (with_reducible refine LeO.bind ?_ (fun _ => ?_))
      | exact ih0 _ _
      | exact ih1 _ _
      | exact ih2 _ _ _
      | exact LeO.none _
      | refine LeO.ite ?_ ?_
      | refine LeO.bind ?_ (fun _ => ?_)
    · intro y0 y1 y2
      unfold spec_IsNumber.l1
      repeat' first
      | (with_reducible exact ih0 _ _)
      | (with_reducible exact ih1 _ _)
      | (with_reducible exact ih2 _ _ _)
      | (with_reducible exact LeO.refl _)
      | (with_reducible exact LeO.none _)
      | (with_reducible refine LeO.ite ?_ ?_)
      | (with_reducible refine LeO.bind ?_ (fun _ => ?_))
      | exact ih0 _ _
      | exact ih1 _ _
      | exact ih2 _ _ _
      | exact LeO.none _
      | refine LeO.ite ?_ ?_
      | refine LeO.bind ?_ (fun _ => ?_)
theorem spec_IsNumber.mono : ∀ a0 k, LeO (spec_IsNumber.f k a0) (spec_IsNumber.f (k + 1) a0) := by
  intro a0 k
  obtain ⟨ih0, ih1, ih2⟩ := spec_IsNumber.mono_l k
  unfold spec_IsNumber.f
  repeat' first
      | (with_reducible exact ih0 _ _)
      | (with_reducible exact ih1 _ _)
      | (with_reducible exact ih2 _ _ _)
      | (with_reducible exact LeO.refl _)
      | (with_reducible exact LeO.none _)
      | (with_reducible refine LeO.ite ?_ ?_)
      | (with_reducible refine LeO.bind ?_ (fun _ => ?_))
      | exact ih0 _ _
      | exact ih1 _ _
      | exact ih2 _ _ _
      | exact LeO.none _
      | refine LeO.ite ?_ ?_
      | refine LeO.bind ?_ (fun _ => ?_)
set_option maxHeartbeats 8000000 in
set_option maxRecDepth 100000 in
theorem spec_IsNumber.calls (k : Nat) (a0 : ByteArray) (r : Bool) (w : World) (h : spec_IsNumber.f k a0 = some r) :
    Calls Tryz.prog 39 #[.string a0] w fun e w' => e = .returned (.bool r) ∧ Drawn0 w w' := by
  have H : (if a0.toList = ([] : List UInt8) then (some false) else (if (a0.size : Int) > 2 then (if 0 ≤ 2 then (if 2 ≤ (a0.size : Int) then (spec_IsNumber.j0 k a0 ((a0.extract 0 2).toList == ([48, 120] : List UInt8))) else (none)) else (none)) else (spec_IsNumber.j0 k a0 false))) = some r := h
  clear h
  by_cases c2 : a0.toList = ([] : List UInt8)
  · rw [if_pos c2] at H
    have c2b0 : (a0.toList == ([] : List UInt8)) = true := beq_iff_eq.mpr c2
    have c2b1 : (a0.toList != ([] : List UInt8)) = false := bne_eq_false_iff_eq.mpr c2
    clear c2
    obtain rfl := Option.some.inj H
    go_enter Tryz.func39, Tryz.ntmps39
    go_wp2
    go_ret
    exact ⟨by first | rfl | (simp; done) | (simp [*]; done), by repeat (first | exact Drawn0.refl _ | apply Drawn0.step)⟩
  · rw [if_neg c2] at H
    have c2b0 : (a0.toList == ([] : List UInt8)) = false := beq_eq_false_iff_ne.mpr c2
    have c2b1 : (a0.toList != ([] : List UInt8)) = true := bne_iff_ne.mpr c2
    have HC3 := Aside0.mk H
    clear H
    go_enter Tryz.func39, Tryz.ntmps39
    go_upto_region 3 with (fail)
    go_cut [14] (fun v14 wc => ∃ (kq : Nat) (x14_2 : Bool), v14 = .bool x14_2 ∧ Aside0 (spec_IsNumber.j0 kq a0 x14_2 = some r) ∧ Aside0 (kq ≤ k) ∧ Drawn0 w wc)
    case first =>
      have H := HC3.out
      clear HC3
      by_cases c4 : (a0.size : Int) > 2
      · rw [if_pos c4] at H
        have c4b0 : decide (2 < (a0.size : Int)) = true := decide_eq_true c4
        have c4b1 : decide (2 < a0.size) = true := decide_eq_true (by omega)
        clear c4
        (first | rw [c4b0] | (simp only [i64_w, i32_w]; rw [c4b0]) | skip)
        by_cases c5 : 0 ≤ 2
        · rw [if_pos c5] at H
          have c5b0 := eq_true c5
          have c5b1 : decide (0 ≤ 2) = true := decide_eq_true c5
          clear c5
          by_cases c6 : 2 ≤ (a0.size : Int)
          · rw [if_pos c6] at H
            have c6b0 := eq_true c6
            have c6b1 : decide (2 ≤ (a0.size : Int)) = true := decide_eq_true c6
            clear c6
            have H' := Aside0.mk H
            clear H
            go_wp2
            go_meet
            case rel => exact ⟨_, (((a0.extract 0 2).toList == ([48, 120] : List UInt8))), (by first | rfl | (simp; done) | (simp [*]; done)), H', ⟨by first | omega | exact Nat.le_refl _⟩, by repeat (first | exact Drawn0.refl _ | apply Drawn0.step)⟩
          · rw [if_neg c6] at H
            exact absurd H (by simp)
        · rw [if_neg c5] at H
          exact absurd H (by simp)
      · rw [if_neg c4] at H
        have c4b0 : decide (2 < (a0.size : Int)) = false := decide_eq_false c4
        have c4b1 : decide (2 < a0.size) = false := decide_eq_false (by omega)
        clear c4
        (first | rw [c4b0] | (simp only [i64_w, i32_w]; rw [c4b0]) | skip)
        have H' := Aside0.mk H
        clear H
        go_wp2
        go_meet
        case rel => exact ⟨_, (false), (by first | rfl | (simp; done) | (simp [*]; done)), H', ⟨by first | omega | exact Nat.le_refl _⟩, by repeat (first | exact Drawn0.refl _ | apply Drawn0.step)⟩
    case rest =>
      clear HC3
      try clear c2
      try clear c2b0
      try clear c2b1
      try clear p2
      try clear c3
      try clear c4
      try clear c4b0
      try clear c4b1
      try clear c5
      try clear c5b0
      try clear c5b1
      try clear c6
      try clear c6b0
      try clear c6b1
      obtain ⟨kq, x14_2, rfl, HA, HJ2, ⟨mc2, rfl⟩⟩ := hcut
      cases kq with
      | zero => exact absurd HA.out (by simp [spec_IsNumber.j0])
      | succ kj2 =>
        have H := HA.out
        clear HA
        simp only [spec_IsNumber.j0] at H
        by_cases c7 : x14_2 = true
        · subst c7
          have H1 : (spec_IsNumber.l0 kj2 a0 2) = some r := by rw [if_pos rfl] at H; exact H
          clear H
          have H := H1
          clear H1
          have H' := Aside0.mk H
          clear H
          go_wp2
          go_loopg [3] kj2 (fun kq v3 w' => ∃ (x3_2 : Int), v3 = .int .i64 x3_2 ∧ Aside0 (spec_IsNumber.l0 kq a0 x3_2 = some r) ∧ Aside0 (kq ≤ kj2) ∧ Drawn0 w w')
          case atStart => exact ⟨(2), (by first | rfl | (simp; done) | (simp [*]; done)), H', ⟨Nat.le_refl _⟩, by repeat (first | exact Drawn0.refl _ | apply Drawn0.step)⟩
          case round =>
            clear H'
            try clear c2
            try clear c2b0
            try clear c2b1
            try clear p2
            try clear c3
            try clear c4
            try clear c4b0
            try clear c4b1
            try clear c5
            try clear c5b0
            try clear c5b1
            try clear c6
            try clear c6b0
            try clear c6b1
            try clear c7
            try clear p2
            obtain ⟨x3_2, rfl, HA, HK2, ⟨m2, rfl⟩⟩ := hrel
            cases gk with
            | zero => exact absurd HA.out (by simp [spec_IsNumber.l0])
            | succ k2 =>
              have H := HA.out
              clear HA
              simp only [spec_IsNumber.l0] at H
              by_cases c8 : x3_2 < (a0.size : Int)
              · rw [if_pos c8] at H
                have c8b0 : decide (x3_2 < (a0.size : Int)) = true := decide_eq_true c8
                clear c8
                by_cases c9 : 0 ≤ x3_2
                · rw [if_pos c9] at H
                  have c9b0 : decide (0 ≤ x3_2) = true := decide_eq_true c9
                  clear c9
                  replace H := Option.bind_eq_some_iff.mp H
                  obtain ⟨t106, A110, H⟩ := H
                  replace H : (if t106 = true then (spec_IsNumber.l0 k2 a0 (wrap64 (x3_2 + 1))) else (some false)) = some r := H
                  have A11 := Aside0.mk A110
                  clear A110
                  by_cases c12 : t106 = true
                  · subst c12
                    have H1 : (spec_IsNumber.l0 k2 a0 (wrap64 (x3_2 + 1))) = some r := by rw [if_pos rfl] at H; exact H
                    clear H
                    have H := H1
                    clear H1
                    have H' := Aside0.mk H
                    clear H
                    have p10 : 0 ≤ (x3_2 : Int) := of_decide_eq_true (by first | (with_reducible assumption) | assumption)
                    have q10 : x3_2 < (a0.size : Int) := of_decide_eq_true (by first | (with_reducible assumption) | assumption)
                    have hx10 := bt_at a0 x3_2
                    replace p10 := eq_true p10
                    replace q10 := eq_true q10
                    go_wp2_with (first | ((with_reducible refine gate_callee (f := 57) rfl ?_); refine goesL_ (some 24) rfl rfl Tryz.func57 (by kernel_rfl) rfl #[.int .u8 (bt a0 x3_2)] rfl (by (try simp only [List.map_toArray, List.map_cons, List.map_nil]); first | done | rfl | (simp only [List.length_drop, List.length_take]; rfl)) ?_; (with_reducible refine (spec_isHex.calls (bt a0 x3_2) true _ A11.out).mono ?_); rintro e w' ⟨rfl, ⟨nd, rfl⟩⟩; refine ⟨_, rfl, ?_⟩))
                    go_roundg k2
                    case measure => have := HJ2.out; have := HK2.out; omega
                    case rel => exact ⟨(wrap64 (x3_2 + 1)), (by first | rfl | (simp; done) | (simp [*]; done)), H', ⟨by have := HJ2.out; have := HK2.out; omega⟩, by repeat (first | exact Drawn0.refl _ | apply Drawn0.step)⟩
                  · replace c12 := Bool.eq_false_iff.mpr c12
                    subst c12
                    have H1 : (some false) = some r := by rw [if_neg (show ¬ (false = true) by decide)] at H; exact H
                    clear H
                    have H := H1
                    clear H1
                    obtain rfl := Option.some.inj H
                    have p10 : 0 ≤ (x3_2 : Int) := of_decide_eq_true (by first | (with_reducible assumption) | assumption)
                    have q10 : x3_2 < (a0.size : Int) := of_decide_eq_true (by first | (with_reducible assumption) | assumption)
                    have hx10 := bt_at a0 x3_2
                    replace p10 := eq_true p10
                    replace q10 := eq_true q10
                    go_wp2_with (first | ((with_reducible refine gate_callee (f := 57) rfl ?_); refine goesL_ (some 24) rfl rfl Tryz.func57 (by kernel_rfl) rfl #[.int .u8 (bt a0 x3_2)] rfl (by (try simp only [List.map_toArray, List.map_cons, List.map_nil]); first | done | rfl | (simp only [List.length_drop, List.length_take]; rfl)) ?_; (with_reducible refine (spec_isHex.calls (bt a0 x3_2) false _ A11.out).mono ?_); rintro e w' ⟨rfl, ⟨nd, rfl⟩⟩; refine ⟨_, rfl, ?_⟩))
                    go_ret
                    exact ⟨by first | rfl | (simp; done) | (simp [*]; done), by repeat (first | exact Drawn0.refl _ | apply Drawn0.step)⟩
                · rw [if_neg c9] at H
                  exact absurd H (by simp)
              · rw [if_neg c8] at H
                have c8b0 : decide (x3_2 < (a0.size : Int)) = false := decide_eq_false c8
                clear c8
                obtain rfl := Option.some.inj H
                go_wp2
                go_ret
                exact ⟨by first | rfl | (simp; done) | (simp [*]; done), by repeat (first | exact Drawn0.refl _ | apply Drawn0.step)⟩
        · replace c7 := Bool.eq_false_iff.mpr c7
          subst c7
          have H1 : (spec_IsNumber.l1 kj2 a0 (a0.size : Int) 0) = some r := by rw [if_neg (show ¬ (false = true) by decide)] at H; exact H
          clear H
          have H := H1
          clear H1
          have H' := Aside0.mk H
          clear H
          go_wp2
          go_loopg [28] kj2 (fun kq v28 w' => ∃ (x28_2 : Int), v28 = .int .i64 x28_2 ∧ Aside0 (spec_IsNumber.l1 kq a0 (a0.size : Int) x28_2 = some r) ∧ Aside0 (kq ≤ kj2) ∧ Drawn0 w w')
          case atStart => exact ⟨(0), (by first | rfl | (simp; done) | (simp [*]; done)), H', ⟨Nat.le_refl _⟩, by repeat (first | exact Drawn0.refl _ | apply Drawn0.step)⟩
          case round =>
            clear H'
            try clear c1
            try clear p1
            try clear q1
            try clear hx1
            try clear c2
            try clear c2b0
            try clear c2b1
            try clear p2
            try clear c3
            try clear c4
            try clear c4b0
            try clear c4b1
            try clear c5
            try clear c5b0
            try clear c5b1
            try clear c6
            try clear c6b0
            try clear c6b1
            try clear p6
            try clear c7
            try clear c8
            try clear c8b0
            try clear c9
            try clear c9b0
            try clear p10
            try clear q10
            try clear hx10
            try clear c12
            try clear p10
            try clear p2
            try clear q10
            obtain ⟨x28_2, rfl, HA, HK2, ⟨m2, rfl⟩⟩ := hrel
            cases gk with
            | zero => exact absurd HA.out (by simp [spec_IsNumber.l1])
            | succ k2 =>
              have H := HA.out
              clear HA
              simp only [spec_IsNumber.l1] at H
              by_cases c13 : x28_2 < (a0.size : Int)
              · rw [if_pos c13] at H
                have c13b0 : decide (x28_2 < (a0.size : Int)) = true := decide_eq_true c13
                clear c13
                by_cases c14 : 0 ≤ x28_2
                · rw [if_pos c14] at H
                  have c14b0 : decide (0 ≤ x28_2) = true := decide_eq_true c14
                  clear c14
                  by_cases c15 : x28_2 < (a0.size : Int)
                  · rw [if_pos c15] at H
                    have c15b0 : decide (x28_2 < (a0.size : Int)) = true := decide_eq_true c15
                    clear c15
                    replace H := Option.bind_eq_some_iff.mp H
                    obtain ⟨t107, A170, H⟩ := H
                    replace H : (if t107 = true then (if x28_2 = 0 then (if 0 < (a0.size : Int) then (if (bt a0 0) = 48 then (if (a0.size : Int) > 1 then (some false) else (spec_IsNumber.l1 k2 a0 (a0.size : Int) (wrap64 (x28_2 + 1)))) else (spec_IsNumber.l1 k2 a0 (a0.size : Int) (wrap64 (x28_2 + 1)))) else (none)) else (spec_IsNumber.l1 k2 a0 (a0.size : Int) (wrap64 (x28_2 + 1)))) else (some false)) = some r := H
                    have A17 := Aside0.mk A170
                    clear A170
                    by_cases c18 : t107 = true
                    · subst c18
                      have H1 : (if x28_2 = 0 then (if 0 < (a0.size : Int) then (if (bt a0 0) = 48 then (if (a0.size : Int) > 1 then (some false) else (spec_IsNumber.l1 k2 a0 (a0.size : Int) (wrap64 (x28_2 + 1)))) else (spec_IsNumber.l1 k2 a0 (a0.size : Int) (wrap64 (x28_2 + 1)))) else (none)) else (spec_IsNumber.l1 k2 a0 (a0.size : Int) (wrap64 (x28_2 + 1)))) = some r := by rw [if_pos rfl] at H; exact H
                      clear H
                      have H := H1
                      clear H1
                      by_cases c19 : x28_2 = 0
                      · rw [if_pos c19] at H
                        have c19b0 : (x28_2 == 0) = true := beq_iff_eq.mpr c19
                        have c19b1 : (x28_2 != 0) = false := bne_eq_false_iff_eq.mpr c19
                        clear c19
                        by_cases c20 : 0 < (a0.size : Int)
                        · rw [if_pos c20] at H
                          have c20b0 : decide (0 < (a0.size : Int)) = true := decide_eq_true c20
                          have c20b1 : decide (0 < a0.size) = true := decide_eq_true (by omega)
                          clear c20
                          by_cases c22 : (bt a0 0) = 48
                          · rw [if_pos c22] at H
                            have c22b0 : ((bt a0 0) == 48) = true := beq_iff_eq.mpr c22
                            have c22b1 : ((bt a0 0) != 48) = false := bne_eq_false_iff_eq.mpr c22
                            clear c22
                            by_cases c23 : (a0.size : Int) > 1
                            · rw [if_pos c23] at H
                              have c23b0 : decide (1 < (a0.size : Int)) = true := decide_eq_true c23
                              have c23b1 : decide (1 < a0.size) = true := decide_eq_true (by omega)
                              clear c23
                              obtain rfl := Option.some.inj H
                              have p16 : 0 ≤ (x28_2 : Int) := of_decide_eq_true (by first | (with_reducible assumption) | assumption)
                              have q16 : x28_2 < (a0.size : Int) := of_decide_eq_true (by first | (with_reducible assumption) | assumption)
                              have hx16 := bt_at a0 x28_2
                              replace p16 := eq_true p16
                              replace q16 := eq_true q16
                              go_wp2_with (first | ((with_reducible refine gate_callee (f := 42) rfl ?_); refine goesL_ (some 34) rfl rfl Tryz.func42 (by kernel_rfl) rfl #[.int .u8 (bt a0 x28_2)] rfl (by (try simp only [List.map_toArray, List.map_cons, List.map_nil]); first | done | rfl | (simp only [List.length_drop, List.length_take]; rfl)) ?_; (with_reducible refine (spec_IsDigit.calls (bt a0 x28_2) true _ A17.out).mono ?_); rintro e w' ⟨rfl, ⟨nd, rfl⟩⟩; refine ⟨_, rfl, ?_⟩; have p21 : 0 ≤ (0 : Int) := (by omega); have q21 : 0 < a0.size := (by have : (0 : Int) < (a0.size : Int) := of_decide_eq_true (by first | (with_reducible assumption) | assumption); omega); have hx21 : ∀ h : 0 < a0.size, ((a0[0]'h).toNat : Int) = bt a0 0 := bt_at a0 0; clear p21; have qi21 : (0 < (a0.size : Int)) = True := eq_true (of_decide_eq_true (by first | (with_reducible assumption) | assumption)); replace q21 := eq_true q21))
                              go_ret
                              exact ⟨by first | rfl | (simp; done) | (simp [*]; done), by repeat (first | exact Drawn0.refl _ | apply Drawn0.step)⟩
                            · rw [if_neg c23] at H
                              have c23b0 : decide (1 < (a0.size : Int)) = false := decide_eq_false c23
                              have c23b1 : decide (1 < a0.size) = false := decide_eq_false (by omega)
                              clear c23
                              have H' := Aside0.mk H
                              clear H
                              have p16 : 0 ≤ (x28_2 : Int) := of_decide_eq_true (by first | (with_reducible assumption) | assumption)
                              have q16 : x28_2 < (a0.size : Int) := of_decide_eq_true (by first | (with_reducible assumption) | assumption)
                              have hx16 := bt_at a0 x28_2
                              replace p16 := eq_true p16
                              replace q16 := eq_true q16
                              go_wp2_with (first | ((with_reducible refine gate_callee (f := 42) rfl ?_); refine goesL_ (some 34) rfl rfl Tryz.func42 (by kernel_rfl) rfl #[.int .u8 (bt a0 x28_2)] rfl (by (try simp only [List.map_toArray, List.map_cons, List.map_nil]); first | done | rfl | (simp only [List.length_drop, List.length_take]; rfl)) ?_; (with_reducible refine (spec_IsDigit.calls (bt a0 x28_2) true _ A17.out).mono ?_); rintro e w' ⟨rfl, ⟨nd, rfl⟩⟩; refine ⟨_, rfl, ?_⟩; have p21 : 0 ≤ (0 : Int) := (by omega); have q21 : 0 < a0.size := (by have : (0 : Int) < (a0.size : Int) := of_decide_eq_true (by first | (with_reducible assumption) | assumption); omega); have hx21 : ∀ h : 0 < a0.size, ((a0[0]'h).toNat : Int) = bt a0 0 := bt_at a0 0; clear p21; have qi21 : (0 < (a0.size : Int)) = True := eq_true (of_decide_eq_true (by first | (with_reducible assumption) | assumption)); replace q21 := eq_true q21))
                              go_roundg k2
                              case measure => have := HJ2.out; have := HK2.out; omega
                              case rel => exact ⟨(wrap64 (x28_2 + 1)), (by first | rfl | (simp; done) | (simp [*]; done)), H', ⟨by have := HJ2.out; have := HK2.out; omega⟩, by repeat (first | exact Drawn0.refl _ | apply Drawn0.step)⟩
                          · rw [if_neg c22] at H
                            have c22b0 : ((bt a0 0) == 48) = false := beq_eq_false_iff_ne.mpr c22
                            have c22b1 : ((bt a0 0) != 48) = true := bne_iff_ne.mpr c22
                            have H' := Aside0.mk H
                            clear H
                            have p16 : 0 ≤ (x28_2 : Int) := of_decide_eq_true (by first | (with_reducible assumption) | assumption)
                            have q16 : x28_2 < (a0.size : Int) := of_decide_eq_true (by first | (with_reducible assumption) | assumption)
                            have hx16 := bt_at a0 x28_2
                            replace p16 := eq_true p16
                            replace q16 := eq_true q16
                            go_wp2_with (first | ((with_reducible refine gate_callee (f := 42) rfl ?_); refine goesL_ (some 34) rfl rfl Tryz.func42 (by kernel_rfl) rfl #[.int .u8 (bt a0 x28_2)] rfl (by (try simp only [List.map_toArray, List.map_cons, List.map_nil]); first | done | rfl | (simp only [List.length_drop, List.length_take]; rfl)) ?_; (with_reducible refine (spec_IsDigit.calls (bt a0 x28_2) true _ A17.out).mono ?_); rintro e w' ⟨rfl, ⟨nd, rfl⟩⟩; refine ⟨_, rfl, ?_⟩; have p21 : 0 ≤ (0 : Int) := (by omega); have q21 : 0 < a0.size := (by have : (0 : Int) < (a0.size : Int) := of_decide_eq_true (by first | (with_reducible assumption) | assumption); omega); have hx21 : ∀ h : 0 < a0.size, ((a0[0]'h).toNat : Int) = bt a0 0 := bt_at a0 0; clear p21; have qi21 : (0 < (a0.size : Int)) = True := eq_true (of_decide_eq_true (by first | (with_reducible assumption) | assumption)); replace q21 := eq_true q21))
                            go_roundg k2
                            case measure => have := HJ2.out; have := HK2.out; omega
                            case rel => exact ⟨(wrap64 (x28_2 + 1)), (by first | rfl | (simp; done) | (simp [*]; done)), H', ⟨by have := HJ2.out; have := HK2.out; omega⟩, by repeat (first | exact Drawn0.refl _ | apply Drawn0.step)⟩
                        · rw [if_neg c20] at H
                          exact absurd H (by simp)
                      · rw [if_neg c19] at H
                        have c19b0 : (x28_2 == 0) = false := beq_eq_false_iff_ne.mpr c19
                        have c19b1 : (x28_2 != 0) = true := bne_iff_ne.mpr c19
                        have H' := Aside0.mk H
                        clear H
                        have p16 : 0 ≤ (x28_2 : Int) := of_decide_eq_true (by first | (with_reducible assumption) | assumption)
                        have q16 : x28_2 < (a0.size : Int) := of_decide_eq_true (by first | (with_reducible assumption) | assumption)
                        have hx16 := bt_at a0 x28_2
                        replace p16 := eq_true p16
                        replace q16 := eq_true q16
                        go_wp2_with (first | ((with_reducible refine gate_callee (f := 42) rfl ?_); refine goesL_ (some 34) rfl rfl Tryz.func42 (by kernel_rfl) rfl #[.int .u8 (bt a0 x28_2)] rfl (by (try simp only [List.map_toArray, List.map_cons, List.map_nil]); first | done | rfl | (simp only [List.length_drop, List.length_take]; rfl)) ?_; (with_reducible refine (spec_IsDigit.calls (bt a0 x28_2) true _ A17.out).mono ?_); rintro e w' ⟨rfl, ⟨nd, rfl⟩⟩; refine ⟨_, rfl, ?_⟩))
                        go_roundg k2
                        case measure => have := HJ2.out; have := HK2.out; omega
                        case rel => exact ⟨(wrap64 (x28_2 + 1)), (by first | rfl | (simp; done) | (simp [*]; done)), H', ⟨by have := HJ2.out; have := HK2.out; omega⟩, by repeat (first | exact Drawn0.refl _ | apply Drawn0.step)⟩
                    · replace c18 := Bool.eq_false_iff.mpr c18
                      subst c18
                      have H1 : (some false) = some r := by rw [if_neg (show ¬ (false = true) by decide)] at H; exact H
                      clear H
                      have H := H1
                      clear H1
                      obtain rfl := Option.some.inj H
                      have p16 : 0 ≤ (x28_2 : Int) := of_decide_eq_true (by first | (with_reducible assumption) | assumption)
                      have q16 : x28_2 < (a0.size : Int) := of_decide_eq_true (by first | (with_reducible assumption) | assumption)
                      have hx16 := bt_at a0 x28_2
                      replace p16 := eq_true p16
                      replace q16 := eq_true q16
                      go_wp2_with (first | ((with_reducible refine gate_callee (f := 42) rfl ?_); refine goesL_ (some 34) rfl rfl Tryz.func42 (by kernel_rfl) rfl #[.int .u8 (bt a0 x28_2)] rfl (by (try simp only [List.map_toArray, List.map_cons, List.map_nil]); first | done | rfl | (simp only [List.length_drop, List.length_take]; rfl)) ?_; (with_reducible refine (spec_IsDigit.calls (bt a0 x28_2) false _ A17.out).mono ?_); rintro e w' ⟨rfl, ⟨nd, rfl⟩⟩; refine ⟨_, rfl, ?_⟩))
                      go_ret
                      exact ⟨by first | rfl | (simp; done) | (simp [*]; done), by repeat (first | exact Drawn0.refl _ | apply Drawn0.step)⟩
                  · rw [if_neg c15] at H
                    exact absurd H (by simp)
                · rw [if_neg c14] at H
                  exact absurd H (by simp)
              · rw [if_neg c13] at H
                have c13b0 : decide (x28_2 < (a0.size : Int)) = false := decide_eq_false c13
                clear c13
                obtain rfl := Option.some.inj H
                go_wp2
                go_ret
                exact ⟨by first | rfl | (simp; done) | (simp [*]; done), by repeat (first | exact Drawn0.refl _ | apply Drawn0.step)⟩


/-! ### spec_IsQuoted: function 40 -/
mutual
def spec_IsQuoted.j0 : Nat → ByteArray → Int → Bool → Option (Bool)
  | 0, _, _, _ => none
  | k + 1, x0, x3, x20 => if x20 = true then (some false) else (spec_IsQuoted.l0 k x0 x3 1)
def spec_IsQuoted.l0 : Nat → ByteArray → Int → Int → Option (Bool)
  | 0, _, _, _ => none
  | k + 1, x0, x3, x4 => if x4 < (wrap64 (x3 - 1)) then (if 0 ≤ x4 then (if x4 < (x0.size : Int) then (if (bt x0 x4) < 32 then (some false) else (if (bt x0 x4) ≥ 127 then (some false) else (if (bt x0 x4) = 34 then (some false) else (if (bt x0 x4) = 92 then (some false) else (spec_IsQuoted.l0 k x0 x3 (wrap64 (x4 + 1))))))) else (none)) else (none)) else (some true)
end
def spec_IsQuoted.f (k : Nat) (a0 : ByteArray) : Option (Bool) := if (a0.size : Int) < 2 then (spec_IsQuoted.j0 k a0 (a0.size : Int) true) else (if 0 < (a0.size : Int) then (if (bt a0 0) = 34 then (if 0 ≤ (wrap64 ((a0.size : Int) - 1)) then (if (wrap64 ((a0.size : Int) - 1)) < (a0.size : Int) then (spec_IsQuoted.j0 k a0 (a0.size : Int) ((bt a0 (wrap64 ((a0.size : Int) - 1))) != 34)) else (none)) else (none)) else (spec_IsQuoted.j0 k a0 (a0.size : Int) true)) else (none))
theorem spec_IsQuoted.mono_l : ∀ k, (∀ y0 y1 y2, LeO (spec_IsQuoted.j0 k y0 y1 y2) (spec_IsQuoted.j0 (k + 1) y0 y1 y2)) ∧ (∀ y0 y1 y2, LeO (spec_IsQuoted.l0 k y0 y1 y2) (spec_IsQuoted.l0 (k + 1) y0 y1 y2))
  | 0 => ⟨fun _ _ _ r h => by simp [spec_IsQuoted.j0] at h, fun _ _ _ r h => by simp [spec_IsQuoted.l0] at h⟩
  | k + 1 => by
    obtain ⟨ih0, ih1⟩ := spec_IsQuoted.mono_l k
    refine ⟨?_, ?_⟩
    · intro y0 y1 y2
      unfold spec_IsQuoted.j0
      repeat' first
      | (with_reducible exact ih0 _ _ _)
      | (with_reducible exact ih1 _ _ _)
      | (with_reducible exact LeO.refl _)
      | (with_reducible exact LeO.none _)
      | (with_reducible refine LeO.ite ?_ ?_)
      | (with_reducible refine LeO.bind ?_ (fun _ => ?_))
      | exact ih0 _ _ _
      | exact ih1 _ _ _
      | exact LeO.none _
      | refine LeO.ite ?_ ?_
      | refine LeO.bind ?_ (fun _ => ?_)
    · intro y0 y1 y2
      unfold spec_IsQuoted.l0
      repeat' first
      | (with_reducible exact ih0 _ _ _)
      | (with_reducible exact ih1 _ _ _)
      | (with_reducible exact LeO.refl _)
      | (with_reducible exact LeO.none _)
      | (with_reducible refine LeO.ite ?_ ?_)
      | (with_reducible refine LeO.bind ?_ (fun _ => ?_))
      | exact ih0 _ _ _
      | exact ih1 _ _ _
      | exact LeO.none _
      | refine LeO.ite ?_ ?_
      | refine LeO.bind ?_ (fun _ => ?_)
theorem spec_IsQuoted.mono : ∀ a0 k, LeO (spec_IsQuoted.f k a0) (spec_IsQuoted.f (k + 1) a0) := by
  intro a0 k
  obtain ⟨ih0, ih1⟩ := spec_IsQuoted.mono_l k
  unfold spec_IsQuoted.f
  repeat' first
      | (with_reducible exact ih0 _ _ _)
      | (with_reducible exact ih1 _ _ _)
      | (with_reducible exact LeO.refl _)
      | (with_reducible exact LeO.none _)
      | (with_reducible refine LeO.ite ?_ ?_)
      | (with_reducible refine LeO.bind ?_ (fun _ => ?_))
      | exact ih0 _ _ _
      | exact ih1 _ _ _
      | exact LeO.none _
      | refine LeO.ite ?_ ?_
      | refine LeO.bind ?_ (fun _ => ?_)
set_option maxHeartbeats 8000000 in
set_option maxRecDepth 100000 in
theorem spec_IsQuoted.calls (k : Nat) (a0 : ByteArray) (r : Bool) (w : World) (h : spec_IsQuoted.f k a0 = some r) :
    Calls Tryz.prog 40 #[.string a0] w fun e w' => e = .returned (.bool r) ∧ Drawn0 w w' := by
  have H : (if (a0.size : Int) < 2 then (spec_IsQuoted.j0 k a0 (a0.size : Int) true) else (if 0 < (a0.size : Int) then (if (bt a0 0) = 34 then (if 0 ≤ (wrap64 ((a0.size : Int) - 1)) then (if (wrap64 ((a0.size : Int) - 1)) < (a0.size : Int) then (spec_IsQuoted.j0 k a0 (a0.size : Int) ((bt a0 (wrap64 ((a0.size : Int) - 1))) != 34)) else (none)) else (none)) else (spec_IsQuoted.j0 k a0 (a0.size : Int) true)) else (none))) = some r := h
  clear h
  have HC2 := Aside0.mk H
  clear H
  go_enter Tryz.func40, Tryz.ntmps40
  go_upto_region 2 with (fail)
  go_cut [20] (fun v20 wc => ∃ (kq : Nat) (x20_1 : Bool), v20 = .bool x20_1 ∧ Aside0 (spec_IsQuoted.j0 kq a0 (a0.size : Int) x20_1 = some r) ∧ Aside0 (kq ≤ k) ∧ Drawn0 w wc)
  case first =>
    have H := HC2.out
    clear HC2
    by_cases c3 : (a0.size : Int) < 2
    · rw [if_pos c3] at H
      have c3b0 : decide ((a0.size : Int) < 2) = true := decide_eq_true c3
      have c3b1 : decide (a0.size < 2) = true := decide_eq_true (by omega)
      clear c3
      (first | rw [c3b0] | (simp only [i64_w, i32_w]; rw [c3b0]) | skip)
      have H' := Aside0.mk H
      clear H
      go_wp2
      go_meet
      case rel => exact ⟨_, (true), (by first | rfl | (simp; done) | (simp [*]; done)), H', ⟨by first | omega | exact Nat.le_refl _⟩, by repeat (first | exact Drawn0.refl _ | apply Drawn0.step)⟩
    · rw [if_neg c3] at H
      have c3b0 : decide ((a0.size : Int) < 2) = false := decide_eq_false c3
      have c3b1 : decide (a0.size < 2) = false := decide_eq_false (by omega)
      clear c3
      (first | rw [c3b0] | (simp only [i64_w, i32_w]; rw [c3b0]) | skip)
      by_cases c4 : 0 < (a0.size : Int)
      · rw [if_pos c4] at H
        have c4b0 : decide (0 < (a0.size : Int)) = true := decide_eq_true c4
        have c4b1 : decide (0 < a0.size) = true := decide_eq_true (by omega)
        clear c4
        by_cases c6 : (bt a0 0) = 34
        · rw [if_pos c6] at H
          have c6b0 : ((bt a0 0) == 34) = true := beq_iff_eq.mpr c6
          have c6b1 : ((bt a0 0) != 34) = false := bne_eq_false_iff_eq.mpr c6
          clear c6
          obtain ⟨ji7, hji7⟩ : ∃ j_ : Int, (wrap64 ((a0.size : Int) - 1)) = j_ := ⟨_, rfl⟩
          replace H : (if 0 ≤ (ji7) then (if (ji7) < (a0.size : Int) then (spec_IsQuoted.j0 k a0 (a0.size : Int) ((bt a0 (ji7)) != 34)) else (none)) else (none)) = some r := by first | (rw [hji7] at H; exact H) | (simp only [hji7] at H ⊢; exact H)
          have hji7w : (IntKind.i64.wrap ((a0.size : Int) - 1)) = ji7 := (i64_w _).trans hji7
          by_cases c8 : 0 ≤ (ji7)
          · rw [if_pos c8] at H
            have c8b0 : decide (0 ≤ (ji7)) = true := decide_eq_true c8
            clear c8
            by_cases c9 : (ji7) < (a0.size : Int)
            · rw [if_pos c9] at H
              have c9b0 : decide ((ji7) < (a0.size : Int)) = true := decide_eq_true c9
              clear c9
              have H' := Aside0.mk H
              clear H
              have p5 : 0 ≤ (0 : Int) := (by omega)
              have q5 : 0 < a0.size := (by have : (0 : Int) < (a0.size : Int) := of_decide_eq_true (by first | (with_reducible assumption) | assumption); omega)
              have hx5 : ∀ h : 0 < a0.size, ((a0[0]'h).toNat : Int) = bt a0 0 := bt_at a0 0
              clear p5
              have qi5 : (0 < (a0.size : Int)) = True := eq_true (of_decide_eq_true (by first | (with_reducible assumption) | assumption))
              replace q5 := eq_true q5
              have p10 : 0 ≤ ((ji7) : Int) := of_decide_eq_true (by first | (with_reducible assumption) | assumption)
              have q10 : (ji7) < (a0.size : Int) := of_decide_eq_true (by first | (with_reducible assumption) | assumption)
              have hx10 := bt_at a0 (ji7)
              replace p10 := eq_true p10
              replace q10 := eq_true q10
              go_wp2
              go_meet
              case rel => exact ⟨_, (((bt a0 (ji7)) != 34)), (by first | rfl | (simp; done) | (simp only [← hji7] <;> (first | rfl | simp)) | (simp [*]; done)), H', ⟨by first | omega | exact Nat.le_refl _⟩, by repeat (first | exact Drawn0.refl _ | apply Drawn0.step)⟩
            · rw [if_neg c9] at H
              exact absurd H (by simp)
          · rw [if_neg c8] at H
            exact absurd H (by simp)
        · rw [if_neg c6] at H
          have c6b0 : ((bt a0 0) == 34) = false := beq_eq_false_iff_ne.mpr c6
          have c6b1 : ((bt a0 0) != 34) = true := bne_iff_ne.mpr c6
          have H' := Aside0.mk H
          clear H
          have p5 : 0 ≤ (0 : Int) := (by omega)
          have q5 : 0 < a0.size := (by have : (0 : Int) < (a0.size : Int) := of_decide_eq_true (by first | (with_reducible assumption) | assumption); omega)
          have hx5 : ∀ h : 0 < a0.size, ((a0[0]'h).toNat : Int) = bt a0 0 := bt_at a0 0
          clear p5
          have qi5 : (0 < (a0.size : Int)) = True := eq_true (of_decide_eq_true (by first | (with_reducible assumption) | assumption))
          replace q5 := eq_true q5
          go_wp2
          go_meet
          case rel => exact ⟨_, (true), (by first | rfl | (simp; done) | (simp [*]; done)), H', ⟨by first | omega | exact Nat.le_refl _⟩, by repeat (first | exact Drawn0.refl _ | apply Drawn0.step)⟩
      · rw [if_neg c4] at H
        exact absurd H (by simp)
  case rest =>
    clear HC2
    try clear p1
    try clear q1
    try clear hx1
    try clear p2
    try clear c3
    try clear c3b0
    try clear c3b1
    try clear c4
    try clear c4b0
    try clear c4b1
    try clear p5
    try clear q5
    try clear hx5
    try clear qi5
    try clear c6
    try clear c6b0
    try clear c6b1
    try clear p6
    try clear c8
    try clear c8b0
    try clear c9
    try clear c9b0
    try clear p10
    try clear q10
    try clear hx10
    try clear p10
    try clear p5
    try clear q10
    try clear q5
    obtain ⟨kq, x20_1, rfl, HA, HJ1, ⟨mc1, rfl⟩⟩ := hcut
    cases kq with
    | zero => exact absurd HA.out (by simp [spec_IsQuoted.j0])
    | succ kj1 =>
      have H := HA.out
      clear HA
      simp only [spec_IsQuoted.j0] at H
      by_cases c11 : x20_1 = true
      · subst c11
        have H1 : (some false) = some r := by rw [if_pos rfl] at H; exact H
        clear H
        have H := H1
        clear H1
        obtain rfl := Option.some.inj H
        go_wp2
        go_ret
        exact ⟨by first | rfl | (simp; done) | (simp [*]; done), by repeat (first | exact Drawn0.refl _ | apply Drawn0.step)⟩
      · replace c11 := Bool.eq_false_iff.mpr c11
        subst c11
        have H1 : (spec_IsQuoted.l0 kj1 a0 (a0.size : Int) 1) = some r := by rw [if_neg (show ¬ (false = true) by decide)] at H; exact H
        clear H
        have H := H1
        clear H1
        have H' := Aside0.mk H
        clear H
        go_wp2
        go_loopg [4] kj1 (fun kq v4 w' => ∃ (x4_2 : Int), v4 = .int .i64 x4_2 ∧ Aside0 (spec_IsQuoted.l0 kq a0 (a0.size : Int) x4_2 = some r) ∧ Aside0 (kq ≤ kj1) ∧ Drawn0 w w')
        case atStart => exact ⟨(1), (by first | rfl | (simp; done) | (simp [*]; done)), H', ⟨Nat.le_refl _⟩, by repeat (first | exact Drawn0.refl _ | apply Drawn0.step)⟩
        case round =>
          clear H'
          try clear c1
          try clear p1
          try clear q1
          try clear hx1
          try clear p2
          try clear c3
          try clear c3b0
          try clear c3b1
          try clear c4
          try clear c4b0
          try clear c4b1
          try clear p5
          try clear q5
          try clear hx5
          try clear qi5
          try clear c6
          try clear c6b0
          try clear c6b1
          try clear p6
          try clear c8
          try clear c8b0
          try clear c9
          try clear c9b0
          try clear p10
          try clear q10
          try clear hx10
          try clear c11
          try clear p1
          try clear p10
          try clear p2
          try clear p5
          try clear p6
          try clear q1
          try clear q10
          try clear q5
          obtain ⟨x4_2, rfl, HA, HK2, ⟨m2, rfl⟩⟩ := hrel
          cases gk with
          | zero => exact absurd HA.out (by simp [spec_IsQuoted.l0])
          | succ k2 =>
            have H := HA.out
            clear HA
            simp only [spec_IsQuoted.l0] at H
            by_cases c12 : x4_2 < (wrap64 ((a0.size : Int) - 1))
            · rw [if_pos c12] at H
              have c12b0 : decide (x4_2 < (wrap64 ((a0.size : Int) - 1))) = true := decide_eq_true c12
              clear c12
              by_cases c13 : 0 ≤ x4_2
              · rw [if_pos c13] at H
                have c13b0 : decide (0 ≤ x4_2) = true := decide_eq_true c13
                clear c13
                by_cases c14 : x4_2 < (a0.size : Int)
                · rw [if_pos c14] at H
                  have c14b0 : decide (x4_2 < (a0.size : Int)) = true := decide_eq_true c14
                  clear c14
                  by_cases c16 : (bt a0 x4_2) < 32
                  · rw [if_pos c16] at H
                    have c16b0 : decide ((bt a0 x4_2) < 32) = true := decide_eq_true c16
                    clear c16
                    obtain rfl := Option.some.inj H
                    have p15 : 0 ≤ (x4_2 : Int) := of_decide_eq_true (by first | (with_reducible assumption) | assumption)
                    have q15 : x4_2 < (a0.size : Int) := of_decide_eq_true (by first | (with_reducible assumption) | assumption)
                    have hx15 := bt_at a0 x4_2
                    replace p15 := eq_true p15
                    replace q15 := eq_true q15
                    go_wp2
                    go_ret
                    exact ⟨by first | rfl | (simp; done) | (simp [*]; done), by repeat (first | exact Drawn0.refl _ | apply Drawn0.step)⟩
                  · rw [if_neg c16] at H
                    have c16b0 : decide ((bt a0 x4_2) < 32) = false := decide_eq_false c16
                    clear c16
                    by_cases c18 : (bt a0 x4_2) ≥ 127
                    · rw [if_pos c18] at H
                      have c18b0 : decide (127 ≤ (bt a0 x4_2)) = true := decide_eq_true c18
                      clear c18
                      obtain rfl := Option.some.inj H
                      have p15 : 0 ≤ (x4_2 : Int) := of_decide_eq_true (by first | (with_reducible assumption) | assumption)
                      have q15 : x4_2 < (a0.size : Int) := of_decide_eq_true (by first | (with_reducible assumption) | assumption)
                      have hx15 := bt_at a0 x4_2
                      replace p15 := eq_true p15
                      replace q15 := eq_true q15
                      have p17 : 0 ≤ (x4_2 : Int) := of_decide_eq_true (by first | (with_reducible assumption) | assumption)
                      have q17 : x4_2 < (a0.size : Int) := of_decide_eq_true (by first | (with_reducible assumption) | assumption)
                      have hx17 := bt_at a0 x4_2
                      replace p17 := eq_true p17
                      replace q17 := eq_true q17
                      go_wp2
                      go_ret
                      exact ⟨by first | rfl | (simp; done) | (simp [*]; done), by repeat (first | exact Drawn0.refl _ | apply Drawn0.step)⟩
                    · rw [if_neg c18] at H
                      have c18b0 : decide (127 ≤ (bt a0 x4_2)) = false := decide_eq_false c18
                      clear c18
                      by_cases c20 : (bt a0 x4_2) = 34
                      · rw [if_pos c20] at H
                        have c20b0 : ((bt a0 x4_2) == 34) = true := beq_iff_eq.mpr c20
                        have c20b1 : ((bt a0 x4_2) != 34) = false := bne_eq_false_iff_eq.mpr c20
                        clear c20
                        obtain rfl := Option.some.inj H
                        have p15 : 0 ≤ (x4_2 : Int) := of_decide_eq_true (by first | (with_reducible assumption) | assumption)
                        have q15 : x4_2 < (a0.size : Int) := of_decide_eq_true (by first | (with_reducible assumption) | assumption)
                        have hx15 := bt_at a0 x4_2
                        replace p15 := eq_true p15
                        replace q15 := eq_true q15
                        have p17 : 0 ≤ (x4_2 : Int) := of_decide_eq_true (by first | (with_reducible assumption) | assumption)
                        have q17 : x4_2 < (a0.size : Int) := of_decide_eq_true (by first | (with_reducible assumption) | assumption)
                        have hx17 := bt_at a0 x4_2
                        replace p17 := eq_true p17
                        replace q17 := eq_true q17
                        have p19 : 0 ≤ (x4_2 : Int) := of_decide_eq_true (by first | (with_reducible assumption) | assumption)
                        have q19 : x4_2 < (a0.size : Int) := of_decide_eq_true (by first | (with_reducible assumption) | assumption)
                        have hx19 := bt_at a0 x4_2
                        replace p19 := eq_true p19
                        replace q19 := eq_true q19
                        go_wp2
                        go_ret
                        exact ⟨by first | rfl | (simp; done) | (simp [*]; done), by repeat (first | exact Drawn0.refl _ | apply Drawn0.step)⟩
                      · rw [if_neg c20] at H
                        have c20b0 : ((bt a0 x4_2) == 34) = false := beq_eq_false_iff_ne.mpr c20
                        have c20b1 : ((bt a0 x4_2) != 34) = true := bne_iff_ne.mpr c20
                        by_cases c22 : (bt a0 x4_2) = 92
                        · rw [if_pos c22] at H
                          have c22b0 : ((bt a0 x4_2) == 92) = true := beq_iff_eq.mpr c22
                          have c22b1 : ((bt a0 x4_2) != 92) = false := bne_eq_false_iff_eq.mpr c22
                          clear c22
                          obtain rfl := Option.some.inj H
                          have p15 : 0 ≤ (x4_2 : Int) := of_decide_eq_true (by first | (with_reducible assumption) | assumption)
                          have q15 : x4_2 < (a0.size : Int) := of_decide_eq_true (by first | (with_reducible assumption) | assumption)
                          have hx15 := bt_at a0 x4_2
                          replace p15 := eq_true p15
                          replace q15 := eq_true q15
                          have p17 : 0 ≤ (x4_2 : Int) := of_decide_eq_true (by first | (with_reducible assumption) | assumption)
                          have q17 : x4_2 < (a0.size : Int) := of_decide_eq_true (by first | (with_reducible assumption) | assumption)
                          have hx17 := bt_at a0 x4_2
                          replace p17 := eq_true p17
                          replace q17 := eq_true q17
                          have p19 : 0 ≤ (x4_2 : Int) := of_decide_eq_true (by first | (with_reducible assumption) | assumption)
                          have q19 : x4_2 < (a0.size : Int) := of_decide_eq_true (by first | (with_reducible assumption) | assumption)
                          have hx19 := bt_at a0 x4_2
                          replace p19 := eq_true p19
                          replace q19 := eq_true q19
                          have p21 : 0 ≤ (x4_2 : Int) := of_decide_eq_true (by first | (with_reducible assumption) | assumption)
                          have q21 : x4_2 < (a0.size : Int) := of_decide_eq_true (by first | (with_reducible assumption) | assumption)
                          have hx21 := bt_at a0 x4_2
                          replace p21 := eq_true p21
                          replace q21 := eq_true q21
                          go_wp2
                          go_ret
                          exact ⟨by first | rfl | (simp; done) | (simp [*]; done), by repeat (first | exact Drawn0.refl _ | apply Drawn0.step)⟩
                        · rw [if_neg c22] at H
                          have c22b0 : ((bt a0 x4_2) == 92) = false := beq_eq_false_iff_ne.mpr c22
                          have c22b1 : ((bt a0 x4_2) != 92) = true := bne_iff_ne.mpr c22
                          have H' := Aside0.mk H
                          clear H
                          have p15 : 0 ≤ (x4_2 : Int) := of_decide_eq_true (by first | (with_reducible assumption) | assumption)
                          have q15 : x4_2 < (a0.size : Int) := of_decide_eq_true (by first | (with_reducible assumption) | assumption)
                          have hx15 := bt_at a0 x4_2
                          replace p15 := eq_true p15
                          replace q15 := eq_true q15
                          have p17 : 0 ≤ (x4_2 : Int) := of_decide_eq_true (by first | (with_reducible assumption) | assumption)
                          have q17 : x4_2 < (a0.size : Int) := of_decide_eq_true (by first | (with_reducible assumption) | assumption)
                          have hx17 := bt_at a0 x4_2
                          replace p17 := eq_true p17
                          replace q17 := eq_true q17
                          have p19 : 0 ≤ (x4_2 : Int) := of_decide_eq_true (by first | (with_reducible assumption) | assumption)
                          have q19 : x4_2 < (a0.size : Int) := of_decide_eq_true (by first | (with_reducible assumption) | assumption)
                          have hx19 := bt_at a0 x4_2
                          replace p19 := eq_true p19
                          replace q19 := eq_true q19
                          have p21 : 0 ≤ (x4_2 : Int) := of_decide_eq_true (by first | (with_reducible assumption) | assumption)
                          have q21 : x4_2 < (a0.size : Int) := of_decide_eq_true (by first | (with_reducible assumption) | assumption)
                          have hx21 := bt_at a0 x4_2
                          replace p21 := eq_true p21
                          replace q21 := eq_true q21
                          go_wp2
                          go_roundg k2
                          case measure => have := HJ1.out; have := HK2.out; omega
                          case rel => exact ⟨(wrap64 (x4_2 + 1)), (by first | rfl | (simp; done) | (simp [*]; done)), H', ⟨by have := HJ1.out; have := HK2.out; omega⟩, by repeat (first | exact Drawn0.refl _ | apply Drawn0.step)⟩
                · rw [if_neg c14] at H
                  exact absurd H (by simp)
              · rw [if_neg c13] at H
                exact absurd H (by simp)
            · rw [if_neg c12] at H
              have c12b0 : decide (x4_2 < (wrap64 ((a0.size : Int) - 1))) = false := decide_eq_false c12
              clear c12
              obtain rfl := Option.some.inj H
              go_wp2
              go_ret
              exact ⟨by first | rfl | (simp; done) | (simp [*]; done), by repeat (first | exact Drawn0.refl _ | apply Drawn0.step)⟩

/-! ### spec_KindOf: function 27 -/
def spec_KindOf.j0 : Nat → ByteArray → Bool → Option (Int)
  | 0, _, _ => none
  | k + 1, x0, x15 => if x15 = true then (if 0 < (x0.size : Int) then (some (wrap64 (bt x0 0))) else (none)) else ((spec_IsName.f k x0).bind fun t109 => (if t109 = true then (some (-2)) else ((spec_IsNumber.f k x0).bind fun t110 => (if t110 = true then (some (-3)) else ((spec_IsQuoted.f k x0).bind fun t111 => (if t111 = true then (some (-6)) else (some 0)))))))
def spec_KindOf.f (k : Nat) (a0 : ByteArray) : Option (Int) := if a0.toList = ([60, 60] : List UInt8) then (some (-1000)) else (if a0.toList = ([62, 62] : List UInt8) then (some (-1001)) else (if a0.toList = ([45, 62] : List UInt8) then (some (-1002)) else (if a0.toList = ([64, 62] : List UInt8) then (some (-1003)) else (if a0.toList = ([10] : List UInt8) then (spec_KindOf.j0 k a0 true) else ((spec_IsMark.f k a0).bind fun t108 => (spec_KindOf.j0 k a0 t108))))))
theorem spec_KindOf.mono_l : ∀ k, (∀ y0 y1, LeO (spec_KindOf.j0 k y0 y1) (spec_KindOf.j0 (k + 1) y0 y1))
  | 0 => fun _ _ r h => by simp [spec_KindOf.j0] at h
  | k + 1 => by
    have ih0 := spec_KindOf.mono_l k
    · intro y0 y1
      unfold spec_KindOf.j0
      repeat' first
      | (with_reducible exact ih0 _ _)
      | (with_reducible exact spec_IsMark.mono _ _)
      | (with_reducible exact spec_IsName.mono _ _)
      | (with_reducible exact spec_IsNumber.mono _ _)
      | (with_reducible exact spec_IsQuoted.mono _ _)
      | (with_reducible exact LeO.refl _)
      | (with_reducible exact LeO.none _)
      | (with_reducible refine LeO.ite ?_ ?_)
      | (with_reducible refine LeO.bind ?_ (fun _ => ?_))
      | exact ih0 _ _
      | exact spec_IsMark.mono _ _
      | exact spec_IsName.mono _ _
      | exact spec_IsNumber.mono _ _
      | exact spec_IsQuoted.mono _ _
      | exact LeO.none _
      | refine LeO.ite ?_ ?_
      | refine LeO.bind ?_ (fun _ => ?_)
theorem spec_KindOf.mono : ∀ a0 k, LeO (spec_KindOf.f k a0) (spec_KindOf.f (k + 1) a0) := by
  intro a0 k
  have ih0 := spec_KindOf.mono_l k
  unfold spec_KindOf.f
  repeat' first
      | (with_reducible exact ih0 _ _)
      | (with_reducible exact spec_IsMark.mono _ _)
      | (with_reducible exact spec_IsName.mono _ _)
      | (with_reducible exact spec_IsNumber.mono _ _)
      | (with_reducible exact spec_IsQuoted.mono _ _)
      | (with_reducible exact LeO.refl _)
      | (with_reducible exact LeO.none _)
      | (with_reducible refine LeO.ite ?_ ?_)
      | (with_reducible refine LeO.bind ?_ (fun _ => ?_))
      | exact ih0 _ _
      | exact spec_IsMark.mono _ _
      | exact spec_IsName.mono _ _
      | exact spec_IsNumber.mono _ _
      | exact spec_IsQuoted.mono _ _
      | exact LeO.none _
      | refine LeO.ite ?_ ?_
      | refine LeO.bind ?_ (fun _ => ?_)
set_option maxHeartbeats 8000000 in
set_option maxRecDepth 100000 in
theorem spec_KindOf.calls (k : Nat) (a0 : ByteArray) (r : Int) (w : World) (h : spec_KindOf.f k a0 = some r) :
    Calls Tryz.prog 27 #[.string a0] w fun e w' => e = .returned (.int .i64 r) ∧ Drawn0 w w' := by
  have H : (if a0.toList = ([60, 60] : List UInt8) then (some (-1000)) else (if a0.toList = ([62, 62] : List UInt8) then (some (-1001)) else (if a0.toList = ([45, 62] : List UInt8) then (some (-1002)) else (if a0.toList = ([64, 62] : List UInt8) then (some (-1003)) else (if a0.toList = ([10] : List UInt8) then (spec_KindOf.j0 k a0 true) else ((spec_IsMark.f k a0).bind fun t108 => (spec_KindOf.j0 k a0 t108))))))) = some r := h
  clear h
  by_cases c2 : a0.toList = ([60, 60] : List UInt8)
  · rw [if_pos c2] at H
    have c2b0 : (a0.toList == ([60, 60] : List UInt8)) = true := beq_iff_eq.mpr c2
    have c2b1 : (a0.toList != ([60, 60] : List UInt8)) = false := bne_eq_false_iff_eq.mpr c2
    clear c2
    obtain rfl := Option.some.inj H
    go_enter Tryz.func27, Tryz.ntmps27
    go_wp2
    go_ret
    exact ⟨by first | rfl | (simp; done) | (simp [*]; done), by repeat (first | exact Drawn0.refl _ | apply Drawn0.step)⟩
  · rw [if_neg c2] at H
    have c2b0 : (a0.toList == ([60, 60] : List UInt8)) = false := beq_eq_false_iff_ne.mpr c2
    have c2b1 : (a0.toList != ([60, 60] : List UInt8)) = true := bne_iff_ne.mpr c2
    by_cases c3 : a0.toList = ([62, 62] : List UInt8)
    · rw [if_pos c3] at H
      have c3b0 : (a0.toList == ([62, 62] : List UInt8)) = true := beq_iff_eq.mpr c3
      have c3b1 : (a0.toList != ([62, 62] : List UInt8)) = false := bne_eq_false_iff_eq.mpr c3
      clear c3
      obtain rfl := Option.some.inj H
      go_enter Tryz.func27, Tryz.ntmps27
      go_wp2
      go_ret
      exact ⟨by first | rfl | (simp; done) | (simp [*]; done), by repeat (first | exact Drawn0.refl _ | apply Drawn0.step)⟩
    · rw [if_neg c3] at H
      have c3b0 : (a0.toList == ([62, 62] : List UInt8)) = false := beq_eq_false_iff_ne.mpr c3
      have c3b1 : (a0.toList != ([62, 62] : List UInt8)) = true := bne_iff_ne.mpr c3
      by_cases c4 : a0.toList = ([45, 62] : List UInt8)
      · rw [if_pos c4] at H
        have c4b0 : (a0.toList == ([45, 62] : List UInt8)) = true := beq_iff_eq.mpr c4
        have c4b1 : (a0.toList != ([45, 62] : List UInt8)) = false := bne_eq_false_iff_eq.mpr c4
        clear c4
        obtain rfl := Option.some.inj H
        go_enter Tryz.func27, Tryz.ntmps27
        go_wp2
        go_ret
        exact ⟨by first | rfl | (simp; done) | (simp [*]; done), by repeat (first | exact Drawn0.refl _ | apply Drawn0.step)⟩
      · rw [if_neg c4] at H
        have c4b0 : (a0.toList == ([45, 62] : List UInt8)) = false := beq_eq_false_iff_ne.mpr c4
        have c4b1 : (a0.toList != ([45, 62] : List UInt8)) = true := bne_iff_ne.mpr c4
        by_cases c5 : a0.toList = ([64, 62] : List UInt8)
        · rw [if_pos c5] at H
          have c5b0 : (a0.toList == ([64, 62] : List UInt8)) = true := beq_iff_eq.mpr c5
          have c5b1 : (a0.toList != ([64, 62] : List UInt8)) = false := bne_eq_false_iff_eq.mpr c5
          clear c5
          obtain rfl := Option.some.inj H
          go_enter Tryz.func27, Tryz.ntmps27
          go_wp2
          go_ret
          exact ⟨by first | rfl | (simp; done) | (simp [*]; done), by repeat (first | exact Drawn0.refl _ | apply Drawn0.step)⟩
        · rw [if_neg c5] at H
          have c5b0 : (a0.toList == ([64, 62] : List UInt8)) = false := beq_eq_false_iff_ne.mpr c5
          have c5b1 : (a0.toList != ([64, 62] : List UInt8)) = true := bne_iff_ne.mpr c5
          have HC6 := Aside0.mk H
          clear H
          go_enter Tryz.func27, Tryz.ntmps27
          go_upto_region 9 with (fail)
          go_cut [15] (fun v15 wc => ∃ (kq : Nat) (x15_5 : Bool), v15 = .bool x15_5 ∧ Aside0 (spec_KindOf.j0 kq a0 x15_5 = some r) ∧ Aside0 (kq ≤ k) ∧ Drawn0 w wc)
          case first =>
            have H := HC6.out
            clear HC6
            by_cases c7 : a0.toList = ([10] : List UInt8)
            · rw [if_pos c7] at H
              have c7b0 : (a0.toList == ([10] : List UInt8)) = true := beq_iff_eq.mpr c7
              have c7b1 : (a0.toList != ([10] : List UInt8)) = false := bne_eq_false_iff_eq.mpr c7
              clear c7
              (first | rw [c7b0] | (simp only [i64_w, i32_w]; rw [c7b0]) | skip)
              have H' := Aside0.mk H
              clear H
              go_wp2
              go_meet
              case rel => exact ⟨_, (true), (by first | rfl | (simp; done) | (simp [*]; done)), H', ⟨by first | omega | exact Nat.le_refl _⟩, by repeat (first | exact Drawn0.refl _ | apply Drawn0.step)⟩
            · rw [if_neg c7] at H
              have c7b0 : (a0.toList == ([10] : List UInt8)) = false := beq_eq_false_iff_ne.mpr c7
              have c7b1 : (a0.toList != ([10] : List UInt8)) = true := bne_iff_ne.mpr c7
              (first | rw [c7b0] | (simp only [i64_w, i32_w]; rw [c7b0]) | skip)
              replace H := Option.bind_eq_some_iff.mp H
              obtain ⟨t108, A80, H⟩ := H
              replace H : (spec_KindOf.j0 k a0 t108) = some r := H
              have A8 := Aside0.mk A80
              clear A80
              have H' := Aside0.mk H
              clear H
              go_wp2_with (first | (go_at_call 38; (with_reducible refine (spec_IsMark.calls k a0 t108 _ A8.out).mono ?_); rintro e w' ⟨rfl, ⟨nd, rfl⟩⟩))
              go_meet
              case rel => exact ⟨_, (t108), (by first | rfl | (simp; done) | (simp [*]; done)), H', ⟨by first | omega | exact Nat.le_refl _⟩, by repeat (first | exact Drawn0.refl _ | apply Drawn0.step)⟩
          case rest =>
            clear HC6
            try clear c2
            try clear c2b0
            try clear c2b1
            try clear p2
            try clear c3
            try clear c3b0
            try clear c3b1
            try clear c4
            try clear c4b0
            try clear c4b1
            try clear c5
            try clear c5b0
            try clear c5b1
            try clear c7
            try clear c7b0
            try clear c7b1
            obtain ⟨kq, x15_5, rfl, HA, HJ5, ⟨mc5, rfl⟩⟩ := hcut
            cases kq with
            | zero => exact absurd HA.out (by simp [spec_KindOf.j0])
            | succ kj5 =>
              have H := HA.out
              clear HA
              simp only [spec_KindOf.j0] at H
              by_cases c9 : x15_5 = true
              · subst c9
                have H1 : (if 0 < (a0.size : Int) then (some (wrap64 (bt a0 0))) else (none)) = some r := by rw [if_pos rfl] at H; exact H
                clear H
                have H := H1
                clear H1
                by_cases c10 : 0 < (a0.size : Int)
                · rw [if_pos c10] at H
                  have c10b0 : decide (0 < (a0.size : Int)) = true := decide_eq_true c10
                  have c10b1 : decide (0 < a0.size) = true := decide_eq_true (by omega)
                  clear c10
                  obtain rfl := Option.some.inj H
                  have p11 : 0 ≤ (0 : Int) := (by omega)
                  have q11 : 0 < a0.size := (by have : (0 : Int) < (a0.size : Int) := of_decide_eq_true (by first | (with_reducible assumption) | assumption); omega)
                  have hx11 : ∀ h : 0 < a0.size, ((a0[0]'h).toNat : Int) = bt a0 0 := bt_at a0 0
                  clear p11
                  have qi11 : (0 < (a0.size : Int)) = True := eq_true (of_decide_eq_true (by first | (with_reducible assumption) | assumption))
                  replace q11 := eq_true q11
                  go_wp2
                  go_ret
                  exact ⟨by first | rfl | (simp; done) | (simp [*]; done), by repeat (first | exact Drawn0.refl _ | apply Drawn0.step)⟩
                · rw [if_neg c10] at H
                  exact absurd H (by simp)
              · replace c9 := Bool.eq_false_iff.mpr c9
                subst c9
                have H1 : ((spec_IsName.f kj5 a0).bind fun t109 => (if t109 = true then (some (-2)) else ((spec_IsNumber.f kj5 a0).bind fun t110 => (if t110 = true then (some (-3)) else ((spec_IsQuoted.f kj5 a0).bind fun t111 => (if t111 = true then (some (-6)) else (some 0))))))) = some r := by rw [if_neg (show ¬ (false = true) by decide)] at H; exact H
                clear H
                have H := H1
                clear H1
                replace H := Option.bind_eq_some_iff.mp H
                obtain ⟨t109, A120, H⟩ := H
                replace H : (if t109 = true then (some (-2)) else ((spec_IsNumber.f kj5 a0).bind fun t110 => (if t110 = true then (some (-3)) else ((spec_IsQuoted.f kj5 a0).bind fun t111 => (if t111 = true then (some (-6)) else (some 0)))))) = some r := H
                have A12 := Aside0.mk A120
                clear A120
                by_cases c13 : t109 = true
                · subst c13
                  have H1 : (some (-2)) = some r := by rw [if_pos rfl] at H; exact H
                  clear H
                  have H := H1
                  clear H1
                  obtain rfl := Option.some.inj H
                  go_wp2_with (first | ((with_reducible refine gate_callee (f := 24) rfl ?_); refine goesL_ (some 27) rfl rfl Tryz.func24 (by kernel_rfl) rfl #[.string a0] rfl (by (try simp only [List.map_toArray, List.map_cons, List.map_nil]); first | done | rfl | (simp only [List.length_drop, List.length_take]; rfl)) ?_; (with_reducible refine (spec_IsName.calls kj5 a0 true _ A12.out).mono ?_); rintro e w' ⟨rfl, ⟨nd, rfl⟩⟩; refine ⟨_, rfl, ?_⟩))
                  go_ret
                  exact ⟨by first | rfl | (simp; done) | (simp [*]; done), by repeat (first | exact Drawn0.refl _ | apply Drawn0.step)⟩
                · replace c13 := Bool.eq_false_iff.mpr c13
                  subst c13
                  have H1 : ((spec_IsNumber.f kj5 a0).bind fun t110 => (if t110 = true then (some (-3)) else ((spec_IsQuoted.f kj5 a0).bind fun t111 => (if t111 = true then (some (-6)) else (some 0))))) = some r := by rw [if_neg (show ¬ (false = true) by decide)] at H; exact H
                  clear H
                  have H := H1
                  clear H1
                  replace H := Option.bind_eq_some_iff.mp H
                  obtain ⟨t110, A140, H⟩ := H
                  replace H : (if t110 = true then (some (-3)) else ((spec_IsQuoted.f kj5 a0).bind fun t111 => (if t111 = true then (some (-6)) else (some 0)))) = some r := H
                  have A14 := Aside0.mk A140
                  clear A140
                  by_cases c15 : t110 = true
                  · subst c15
                    have H1 : (some (-3)) = some r := by rw [if_pos rfl] at H; exact H
                    clear H
                    have H := H1
                    clear H1
                    obtain rfl := Option.some.inj H
                    go_wp2_with (first | ((with_reducible refine gate_callee (f := 24) rfl ?_); refine goesL_ (some 27) rfl rfl Tryz.func24 (by kernel_rfl) rfl #[.string a0] rfl (by (try simp only [List.map_toArray, List.map_cons, List.map_nil]); first | done | rfl | (simp only [List.length_drop, List.length_take]; rfl)) ?_; (with_reducible refine (spec_IsName.calls kj5 a0 false _ A12.out).mono ?_); rintro e w' ⟨rfl, ⟨nd, rfl⟩⟩; refine ⟨_, rfl, ?_⟩) | ((with_reducible refine gate_callee (f := 39) rfl ?_); refine goesL_ (some 30) rfl rfl Tryz.func39 (by kernel_rfl) rfl #[.string a0] rfl (by (try simp only [List.map_toArray, List.map_cons, List.map_nil]); first | done | rfl | (simp only [List.length_drop, List.length_take]; rfl)) ?_; (with_reducible refine (spec_IsNumber.calls kj5 a0 true _ A14.out).mono ?_); rintro e w' ⟨rfl, ⟨nd, rfl⟩⟩; refine ⟨_, rfl, ?_⟩))
                    go_ret
                    exact ⟨by first | rfl | (simp; done) | (simp [*]; done), by repeat (first | exact Drawn0.refl _ | apply Drawn0.step)⟩
                  · replace c15 := Bool.eq_false_iff.mpr c15
                    subst c15
                    have H1 : ((spec_IsQuoted.f kj5 a0).bind fun t111 => (if t111 = true then (some (-6)) else (some 0))) = some r := by rw [if_neg (show ¬ (false = true) by decide)] at H; exact H
                    clear H
                    have H := H1
                    clear H1
                    replace H := Option.bind_eq_some_iff.mp H
                    obtain ⟨t111, A160, H⟩ := H
                    replace H : (if t111 = true then (some (-6)) else (some 0)) = some r := H
                    have A16 := Aside0.mk A160
                    clear A160
                    by_cases c17 : t111 = true
                    · subst c17
                      have H1 : (some (-6)) = some r := by rw [if_pos rfl] at H; exact H
                      clear H
                      have H := H1
                      clear H1
                      obtain rfl := Option.some.inj H
                      go_wp2_with (first | ((with_reducible refine gate_callee (f := 24) rfl ?_); refine goesL_ (some 27) rfl rfl Tryz.func24 (by kernel_rfl) rfl #[.string a0] rfl (by (try simp only [List.map_toArray, List.map_cons, List.map_nil]); first | done | rfl | (simp only [List.length_drop, List.length_take]; rfl)) ?_; (with_reducible refine (spec_IsName.calls kj5 a0 false _ A12.out).mono ?_); rintro e w' ⟨rfl, ⟨nd, rfl⟩⟩; refine ⟨_, rfl, ?_⟩) | ((with_reducible refine gate_callee (f := 39) rfl ?_); refine goesL_ (some 30) rfl rfl Tryz.func39 (by kernel_rfl) rfl #[.string a0] rfl (by (try simp only [List.map_toArray, List.map_cons, List.map_nil]); first | done | rfl | (simp only [List.length_drop, List.length_take]; rfl)) ?_; (with_reducible refine (spec_IsNumber.calls kj5 a0 false _ A14.out).mono ?_); rintro e w' ⟨rfl, ⟨nd, rfl⟩⟩; refine ⟨_, rfl, ?_⟩) | ((with_reducible refine gate_callee (f := 40) rfl ?_); refine goesL_ (some 33) rfl rfl Tryz.func40 (by kernel_rfl) rfl #[.string a0] rfl (by (try simp only [List.map_toArray, List.map_cons, List.map_nil]); first | done | rfl | (simp only [List.length_drop, List.length_take]; rfl)) ?_; (with_reducible refine (spec_IsQuoted.calls kj5 a0 true _ A16.out).mono ?_); rintro e w' ⟨rfl, ⟨nd, rfl⟩⟩; refine ⟨_, rfl, ?_⟩))
                      go_ret
                      exact ⟨by first | rfl | (simp; done) | (simp [*]; done), by repeat (first | exact Drawn0.refl _ | apply Drawn0.step)⟩
                    · replace c17 := Bool.eq_false_iff.mpr c17
                      subst c17
                      have H1 : (some 0) = some r := by rw [if_neg (show ¬ (false = true) by decide)] at H; exact H
                      clear H
                      have H := H1
                      clear H1
                      obtain rfl := Option.some.inj H
                      go_wp2_with (first | ((with_reducible refine gate_callee (f := 24) rfl ?_); refine goesL_ (some 27) rfl rfl Tryz.func24 (by kernel_rfl) rfl #[.string a0] rfl (by (try simp only [List.map_toArray, List.map_cons, List.map_nil]); first | done | rfl | (simp only [List.length_drop, List.length_take]; rfl)) ?_; (with_reducible refine (spec_IsName.calls kj5 a0 false _ A12.out).mono ?_); rintro e w' ⟨rfl, ⟨nd, rfl⟩⟩; refine ⟨_, rfl, ?_⟩) | ((with_reducible refine gate_callee (f := 39) rfl ?_); refine goesL_ (some 30) rfl rfl Tryz.func39 (by kernel_rfl) rfl #[.string a0] rfl (by (try simp only [List.map_toArray, List.map_cons, List.map_nil]); first | done | rfl | (simp only [List.length_drop, List.length_take]; rfl)) ?_; (with_reducible refine (spec_IsNumber.calls kj5 a0 false _ A14.out).mono ?_); rintro e w' ⟨rfl, ⟨nd, rfl⟩⟩; refine ⟨_, rfl, ?_⟩) | ((with_reducible refine gate_callee (f := 40) rfl ?_); refine goesL_ (some 33) rfl rfl Tryz.func40 (by kernel_rfl) rfl #[.string a0] rfl (by (try simp only [List.map_toArray, List.map_cons, List.map_nil]); first | done | rfl | (simp only [List.length_drop, List.length_take]; rfl)) ?_; (with_reducible refine (spec_IsQuoted.calls kj5 a0 false _ A16.out).mono ?_); rintro e w' ⟨rfl, ⟨nd, rfl⟩⟩; refine ⟨_, rfl, ?_⟩))
                      go_ret
                      exact ⟨by first | rfl | (simp; done) | (simp [*]; done), by repeat (first | exact Drawn0.refl _ | apply Drawn0.step)⟩

/-! ### laws_wordsOk: function 22 -/
def laws_wordsOk.l0 : Nat → List ByteArray → List ByteArray → Int → Int → Option (Bool)
  | 0, _, _, _, _ => none
  | k + 1, x0, x5, x6, x7 => if x7 < x6 then (if 0 ≤ x7 then (if x7 < (x5.length : Int) then ((spec_KindOf.f k (rdOf ByteArray.empty x5 x7)).bind fun t113 => (if t113 = 0 then (some false) else (if ((rdOf ByteArray.empty x5 x7).size : Int) > 60 then (some false) else (laws_wordsOk.l0 k x0 x5 x6 (wrap64 (x7 + 1)))))) else (none)) else (none)) else (some (decide ((x0.length : Int) ≤ 60)))
def laws_wordsOk.f (k : Nat) (l0 : List ByteArray) : Option (Bool) := laws_wordsOk.l0 k l0 l0 (l0.length : Int) 0
theorem laws_wordsOk.mono_l : ∀ k, (∀ y0 y1 y2 y3, LeO (laws_wordsOk.l0 k y0 y1 y2 y3) (laws_wordsOk.l0 (k + 1) y0 y1 y2 y3))
  | 0 => fun _ _ _ _ r h => by simp [laws_wordsOk.l0] at h
  | k + 1 => by
    have ih0 := laws_wordsOk.mono_l k
    · intro y0 y1 y2 y3
      unfold laws_wordsOk.l0
      repeat' first
      | (with_reducible exact ih0 _ _ _ _)
      | (with_reducible exact spec_KindOf.mono _ _)
      | (with_reducible exact LeO.refl _)
      | (with_reducible exact LeO.none _)
      | (with_reducible refine LeO.ite ?_ ?_)
      | (with_reducible refine LeO.bind ?_ (fun _ => ?_))
      | exact ih0 _ _ _ _
      | exact spec_KindOf.mono _ _
      | exact LeO.none _
      | refine LeO.ite ?_ ?_
      | refine LeO.bind ?_ (fun _ => ?_)
theorem laws_wordsOk.mono : ∀ a0 k, LeO (laws_wordsOk.f k a0) (laws_wordsOk.f (k + 1) a0) := by
  intro a0 k
  have ih0 := laws_wordsOk.mono_l k
  unfold laws_wordsOk.f
  repeat' first
      | (with_reducible exact ih0 _ _ _ _)
      | (with_reducible exact spec_KindOf.mono _ _)
      | (with_reducible exact LeO.refl _)
      | (with_reducible exact LeO.none _)
      | (with_reducible refine LeO.ite ?_ ?_)
      | (with_reducible refine LeO.bind ?_ (fun _ => ?_))
      | exact ih0 _ _ _ _
      | exact spec_KindOf.mono _ _
      | exact LeO.none _
      | refine LeO.ite ?_ ?_
      | refine LeO.bind ?_ (fun _ => ?_)
set_option maxHeartbeats 8000000 in
set_option maxRecDepth 100000 in
theorem laws_wordsOk.calls (k : Nat) (A0 : Option Addr) (c0 : Nat) (l0 : List ByteArray) (r : Bool) (w : World) (hr0 : Kd.C Kd.string w A0 l0.length l0) (hc0 : l0.length ≤ c0) (h : laws_wordsOk.f k l0 = some r) :
    Calls Tryz.prog 22 #[.slice A0 l0.length c0] w fun e w' => e = .returned (.bool r) ∧ Drawn0 w w' := by
  have HR0 := Aside0.mk hr0
  have HC0 := Aside0.mk hc0
  clear hr0 hc0
  have H : (laws_wordsOk.l0 k l0 l0 (l0.length : Int) 0) = some r := h
  clear h
  have H' := Aside0.mk H
  clear H
  go_enter Tryz.func22, Tryz.ntmps22
  go_wp2
  go_loopg [7] k (fun kq v7 w' => ∃ (x7_1 : Int), v7 = .int .i64 x7_1 ∧ Aside0 (laws_wordsOk.l0 kq l0 l0 (l0.length : Int) x7_1 = some r) ∧ Aside0 (kq ≤ k) ∧ Drawn0 w w')
  case atStart => exact ⟨(0), (by first | rfl | (simp; done) | (simp [*]; done)), H', ⟨Nat.le_refl _⟩, by repeat (first | exact Drawn0.refl _ | apply Drawn0.step)⟩
  case round =>
    clear H'
    obtain ⟨x7_1, rfl, HA, HK1, ⟨m1, rfl⟩⟩ := hrel
    cases gk with
    | zero => exact absurd HA.out (by simp [laws_wordsOk.l0])
    | succ k1 =>
      have H := HA.out
      clear HA
      simp only [laws_wordsOk.l0] at H
      by_cases c2 : x7_1 < (l0.length : Int)
      · rw [if_pos c2] at H
        have c2b0 : decide (x7_1 < (l0.length : Int)) = true := decide_eq_true c2
        clear c2
        by_cases c3 : 0 ≤ x7_1
        · rw [if_pos c3] at H
          have c3b0 : decide (0 ≤ x7_1) = true := decide_eq_true c3
          clear c3
          by_cases c4 : x7_1 < (l0.length : Int)
          · rw [if_pos c4] at H
            have c4b0 : decide (x7_1 < (l0.length : Int)) = true := decide_eq_true c4
            clear c4
            replace H := Option.bind_eq_some_iff.mp H
            obtain ⟨t113, A50, H⟩ := H
            replace H : (if t113 = 0 then (some false) else (if ((rdOf ByteArray.empty l0 x7_1).size : Int) > 60 then (some false) else (laws_wordsOk.l0 k1 l0 l0 (l0.length : Int) (wrap64 (x7_1 + 1))))) = some r := H
            have A5 := Aside0.mk A50
            clear A50
            by_cases c6 : t113 = 0
            · rw [if_pos c6] at H
              have c6b0 : (t113 == 0) = true := beq_iff_eq.mpr c6
              have c6b1 : (t113 != 0) = false := bne_eq_false_iff_eq.mpr c6
              clear c6
              obtain rfl := Option.some.inj H
              have p112 : 0 ≤ (x7_1 : Int) := of_decide_eq_true (by first | (with_reducible assumption) | assumption)
              have q112 : x7_1 < (l0.length : Int) := of_decide_eq_true (by first | (with_reducible assumption) | assumption)
              obtain ⟨ad112, e112, hx112_0⟩ := Kd.at_string HR0.out x7_1 p112 q112
              cases e112
              replace p112 := eq_true p112
              replace q112 := eq_true q112
              go_wp2_with (first | ((with_reducible refine gate_callee (f := 27) rfl ?_); refine goesL_ (some 12) rfl rfl Tryz.func27 (by kernel_rfl) rfl #[.string (rdOf ByteArray.empty l0 x7_1)] rfl (by (try simp only [List.map_toArray, List.map_cons, List.map_nil]); first | done | rfl | (simp only [List.length_drop, List.length_take]; rfl)) ?_; (with_reducible refine (spec_KindOf.calls k1 (rdOf ByteArray.empty l0 x7_1) t113 _ A5.out).mono ?_); rintro e w' ⟨rfl, ⟨nd, rfl⟩⟩; refine ⟨_, rfl, ?_⟩))
              go_ret
              exact ⟨by first | rfl | (simp; done) | (simp [*]; done), by repeat (first | exact Drawn0.refl _ | apply Drawn0.step)⟩
            · rw [if_neg c6] at H
              have c6b0 : (t113 == 0) = false := beq_eq_false_iff_ne.mpr c6
              have c6b1 : (t113 != 0) = true := bne_iff_ne.mpr c6
              by_cases c7 : ((rdOf ByteArray.empty l0 x7_1).size : Int) > 60
              · rw [if_pos c7] at H
                have c7b0 : decide (60 < ((rdOf ByteArray.empty l0 x7_1).size : Int)) = true := decide_eq_true c7
                have c7b1 : decide (60 < (rdOf ByteArray.empty l0 x7_1).size) = true := decide_eq_true (by omega)
                clear c7
                obtain rfl := Option.some.inj H
                have p112 : 0 ≤ (x7_1 : Int) := of_decide_eq_true (by first | (with_reducible assumption) | assumption)
                have q112 : x7_1 < (l0.length : Int) := of_decide_eq_true (by first | (with_reducible assumption) | assumption)
                obtain ⟨ad112, e112, hx112_0⟩ := Kd.at_string HR0.out x7_1 p112 q112
                cases e112
                replace p112 := eq_true p112
                replace q112 := eq_true q112
                go_wp2_with (first | ((with_reducible refine gate_callee (f := 27) rfl ?_); refine goesL_ (some 12) rfl rfl Tryz.func27 (by kernel_rfl) rfl #[.string (rdOf ByteArray.empty l0 x7_1)] rfl (by (try simp only [List.map_toArray, List.map_cons, List.map_nil]); first | done | rfl | (simp only [List.length_drop, List.length_take]; rfl)) ?_; (with_reducible refine (spec_KindOf.calls k1 (rdOf ByteArray.empty l0 x7_1) t113 _ A5.out).mono ?_); rintro e w' ⟨rfl, ⟨nd, rfl⟩⟩; refine ⟨_, rfl, ?_⟩))
                go_ret
                exact ⟨by first | rfl | (simp; done) | (simp [*]; done), by repeat (first | exact Drawn0.refl _ | apply Drawn0.step)⟩
              · rw [if_neg c7] at H
                have c7b0 : decide (60 < ((rdOf ByteArray.empty l0 x7_1).size : Int)) = false := decide_eq_false c7
                have c7b1 : decide (60 < (rdOf ByteArray.empty l0 x7_1).size) = false := decide_eq_false (by omega)
                clear c7
                have H' := Aside0.mk H
                clear H
                have p112 : 0 ≤ (x7_1 : Int) := of_decide_eq_true (by first | (with_reducible assumption) | assumption)
                have q112 : x7_1 < (l0.length : Int) := of_decide_eq_true (by first | (with_reducible assumption) | assumption)
                obtain ⟨ad112, e112, hx112_0⟩ := Kd.at_string HR0.out x7_1 p112 q112
                cases e112
                replace p112 := eq_true p112
                replace q112 := eq_true q112
                go_wp2_with (first | ((with_reducible refine gate_callee (f := 27) rfl ?_); refine goesL_ (some 12) rfl rfl Tryz.func27 (by kernel_rfl) rfl #[.string (rdOf ByteArray.empty l0 x7_1)] rfl (by (try simp only [List.map_toArray, List.map_cons, List.map_nil]); first | done | rfl | (simp only [List.length_drop, List.length_take]; rfl)) ?_; (with_reducible refine (spec_KindOf.calls k1 (rdOf ByteArray.empty l0 x7_1) t113 _ A5.out).mono ?_); rintro e w' ⟨rfl, ⟨nd, rfl⟩⟩; refine ⟨_, rfl, ?_⟩))
                go_roundg k1
                case measure => have := HK1.out; omega
                case rel => exact ⟨(wrap64 (x7_1 + 1)), (by first | rfl | (simp; done) | (simp [*]; done)), H', ⟨by have := HK1.out; omega⟩, by repeat (first | exact Drawn0.refl _ | apply Drawn0.step)⟩
          · rw [if_neg c4] at H
            exact absurd H (by simp)
        · rw [if_neg c3] at H
          exact absurd H (by simp)
      · rw [if_neg c2] at H
        have c2b0 : decide (x7_1 < (l0.length : Int)) = false := decide_eq_false c2
        clear c2
        obtain rfl := Option.some.inj H
        go_wp2
        go_ret
        exact ⟨by first | rfl | (simp; done) | (simp [*]; done), by repeat (first | exact Drawn0.refl _ | apply Drawn0.step)⟩


/-! ### spec_IsPlainName: function 12 -/
def spec_IsPlainName.l0 : Nat → ByteArray → Int → Int → Option (Bool)
  | 0, _, _, _ => none
  | k + 1, x0, x5, x6 => if x6 < x5 then (if 0 ≤ x6 then (if x6 < (x0.size : Int) then (if (bt x0 x6) ≥ 128 then (some false) else (spec_IsPlainName.l0 k x0 x5 (wrap64 (x6 + 1)))) else (none)) else (none)) else ((spec_IsName.f k x0).bind fun t114 => (some t114))
def spec_IsPlainName.f (k : Nat) (a0 : ByteArray) : Option (Bool) := spec_IsPlainName.l0 k a0 (a0.size : Int) 0
theorem spec_IsPlainName.mono_l : ∀ k, (∀ y0 y1 y2, LeO (spec_IsPlainName.l0 k y0 y1 y2) (spec_IsPlainName.l0 (k + 1) y0 y1 y2))
  | 0 => fun _ _ _ r h => by simp [spec_IsPlainName.l0] at h
  | k + 1 => by
    have ih0 := spec_IsPlainName.mono_l k
    · intro y0 y1 y2
      unfold spec_IsPlainName.l0
      repeat' first
      | (with_reducible exact ih0 _ _ _)
      | (with_reducible exact spec_IsName.mono _ _)
      | (with_reducible exact LeO.refl _)
      | (with_reducible exact LeO.none _)
      | (with_reducible refine LeO.ite ?_ ?_)
      | (with_reducible refine LeO.bind ?_ (fun _ => ?_))
      | exact ih0 _ _ _
      | exact spec_IsName.mono _ _
      | exact LeO.none _
      | refine LeO.ite ?_ ?_
      | refine LeO.bind ?_ (fun _ => ?_)
theorem spec_IsPlainName.mono : ∀ a0 k, LeO (spec_IsPlainName.f k a0) (spec_IsPlainName.f (k + 1) a0) := by
  intro a0 k
  have ih0 := spec_IsPlainName.mono_l k
  unfold spec_IsPlainName.f
  repeat' first
      | (with_reducible exact ih0 _ _ _)
      | (with_reducible exact spec_IsName.mono _ _)
      | (with_reducible exact LeO.refl _)
      | (with_reducible exact LeO.none _)
      | (with_reducible refine LeO.ite ?_ ?_)
      | (with_reducible refine LeO.bind ?_ (fun _ => ?_))
      | exact ih0 _ _ _
      | exact spec_IsName.mono _ _
      | exact LeO.none _
      | refine LeO.ite ?_ ?_
      | refine LeO.bind ?_ (fun _ => ?_)
set_option maxHeartbeats 8000000 in
set_option maxRecDepth 100000 in
theorem spec_IsPlainName.calls (k : Nat) (a0 : ByteArray) (r : Bool) (w : World) (h : spec_IsPlainName.f k a0 = some r) :
    Calls Tryz.prog 12 #[.string a0] w fun e w' => e = .returned (.bool r) ∧ Drawn0 w w' := by
  have H : (spec_IsPlainName.l0 k a0 (a0.size : Int) 0) = some r := h
  clear h
  have H' := Aside0.mk H
  clear H
  go_enter Tryz.func12, Tryz.ntmps12
  go_wp2
  go_loopg [6] k (fun kq v6 w' => ∃ (x6_1 : Int), v6 = .int .i64 x6_1 ∧ Aside0 (spec_IsPlainName.l0 kq a0 (a0.size : Int) x6_1 = some r) ∧ Aside0 (kq ≤ k) ∧ Drawn0 w w')
  case atStart => exact ⟨(0), (by first | rfl | (simp; done) | (simp [*]; done)), H', ⟨Nat.le_refl _⟩, by repeat (first | exact Drawn0.refl _ | apply Drawn0.step)⟩
  case round =>
    clear H'
    try clear c1
    obtain ⟨x6_1, rfl, HA, HK1, ⟨m1, rfl⟩⟩ := hrel
    cases gk with
    | zero => exact absurd HA.out (by simp [spec_IsPlainName.l0])
    | succ k1 =>
      have H := HA.out
      clear HA
      simp only [spec_IsPlainName.l0] at H
      by_cases c2 : x6_1 < (a0.size : Int)
      · rw [if_pos c2] at H
        have c2b0 : decide (x6_1 < (a0.size : Int)) = true := decide_eq_true c2
        clear c2
        by_cases c3 : 0 ≤ x6_1
        · rw [if_pos c3] at H
          have c3b0 : decide (0 ≤ x6_1) = true := decide_eq_true c3
          clear c3
          by_cases c4 : x6_1 < (a0.size : Int)
          · rw [if_pos c4] at H
            have c4b0 : decide (x6_1 < (a0.size : Int)) = true := decide_eq_true c4
            clear c4
            by_cases c6 : (bt a0 x6_1) ≥ 128
            · rw [if_pos c6] at H
              have c6b0 : decide (128 ≤ (bt a0 x6_1)) = true := decide_eq_true c6
              clear c6
              obtain rfl := Option.some.inj H
              have p5 : 0 ≤ (x6_1 : Int) := of_decide_eq_true (by first | (with_reducible assumption) | assumption)
              have q5 : x6_1 < (a0.size : Int) := of_decide_eq_true (by first | (with_reducible assumption) | assumption)
              have hx5 := bt_at a0 x6_1
              replace p5 := eq_true p5
              replace q5 := eq_true q5
              go_wp2
              go_ret
              exact ⟨by first | rfl | (simp; done) | (simp [*]; done), by repeat (first | exact Drawn0.refl _ | apply Drawn0.step)⟩
            · rw [if_neg c6] at H
              have c6b0 : decide (128 ≤ (bt a0 x6_1)) = false := decide_eq_false c6
              clear c6
              have H' := Aside0.mk H
              clear H
              have p5 : 0 ≤ (x6_1 : Int) := of_decide_eq_true (by first | (with_reducible assumption) | assumption)
              have q5 : x6_1 < (a0.size : Int) := of_decide_eq_true (by first | (with_reducible assumption) | assumption)
              have hx5 := bt_at a0 x6_1
              replace p5 := eq_true p5
              replace q5 := eq_true q5
              go_wp2
              go_roundg k1
              case measure => have := HK1.out; omega
              case rel => exact ⟨(wrap64 (x6_1 + 1)), (by first | rfl | (simp; done) | (simp [*]; done)), H', ⟨by have := HK1.out; omega⟩, by repeat (first | exact Drawn0.refl _ | apply Drawn0.step)⟩
          · rw [if_neg c4] at H
            exact absurd H (by simp)
        · rw [if_neg c3] at H
          exact absurd H (by simp)
      · rw [if_neg c2] at H
        have c2b0 : decide (x6_1 < (a0.size : Int)) = false := decide_eq_false c2
        clear c2
        replace H := Option.bind_eq_some_iff.mp H
        obtain ⟨t114, A70, H⟩ := H
        replace H : (some t114) = some r := H
        have A7 := Aside0.mk A70
        clear A70
        obtain rfl := Option.some.inj H
        go_wp2_with (first | ((with_reducible refine gate_callee (f := 24) rfl ?_); refine goesL_ (some 15) rfl rfl Tryz.func24 (by kernel_rfl) rfl #[.string a0] rfl (by (try simp only [List.map_toArray, List.map_cons, List.map_nil]); first | done | rfl | (simp only [List.length_drop, List.length_take]; rfl)) ?_; (with_reducible refine (spec_IsName.calls k1 a0 t114 _ A7.out).mono ?_); rintro e w' ⟨rfl, ⟨nd, rfl⟩⟩; refine ⟨_, rfl, ?_⟩))
        go_ret
        exact ⟨by first | rfl | (simp; done) | (simp [*]; done), by repeat (first | exact Drawn0.refl _ | apply Drawn0.step)⟩

/-! ### laws_plainWords: function 23 -/
def laws_plainWords.l0 : Nat → List ByteArray → Int → Int → Option (Bool)
  | 0, _, _, _ => none
  | k + 1, x5, x6, x7 => if x7 < x6 then (if 0 ≤ x7 then (if x7 < (x5.length : Int) then ((spec_KindOf.f k (rdOf ByteArray.empty x5 x7)).bind fun t116 => (if t116 = (-2) then ((spec_IsPlainName.f k (rdOf ByteArray.empty x5 x7)).bind fun t117 => (if t117 = true then (laws_plainWords.l0 k x5 x6 (wrap64 (x7 + 1))) else (some false))) else (laws_plainWords.l0 k x5 x6 (wrap64 (x7 + 1))))) else (none)) else (none)) else (some true)
def laws_plainWords.f (k : Nat) (l0 : List ByteArray) : Option (Bool) := laws_plainWords.l0 k l0 (l0.length : Int) 0
theorem laws_plainWords.mono_l : ∀ k, (∀ y0 y1 y2, LeO (laws_plainWords.l0 k y0 y1 y2) (laws_plainWords.l0 (k + 1) y0 y1 y2))
  | 0 => fun _ _ _ r h => by simp [laws_plainWords.l0] at h
  | k + 1 => by
    have ih0 := laws_plainWords.mono_l k
    · intro y0 y1 y2
      unfold laws_plainWords.l0
      repeat' first
      | (with_reducible exact ih0 _ _ _)
      | (with_reducible exact spec_IsPlainName.mono _ _)
      | (with_reducible exact spec_KindOf.mono _ _)
      | (with_reducible exact LeO.refl _)
      | (with_reducible exact LeO.none _)
      | (with_reducible refine LeO.ite ?_ ?_)
      | (with_reducible refine LeO.bind ?_ (fun _ => ?_))
      | exact ih0 _ _ _
      | exact spec_IsPlainName.mono _ _
      | exact spec_KindOf.mono _ _
      | exact LeO.none _
      | refine LeO.ite ?_ ?_
      | refine LeO.bind ?_ (fun _ => ?_)
theorem laws_plainWords.mono : ∀ a0 k, LeO (laws_plainWords.f k a0) (laws_plainWords.f (k + 1) a0) := by
  intro a0 k
  have ih0 := laws_plainWords.mono_l k
  unfold laws_plainWords.f
  repeat' first
      | (with_reducible exact ih0 _ _ _)
      | (with_reducible exact spec_IsPlainName.mono _ _)
      | (with_reducible exact spec_KindOf.mono _ _)
      | (with_reducible exact LeO.refl _)
      | (with_reducible exact LeO.none _)
      | (with_reducible refine LeO.ite ?_ ?_)
      | (with_reducible refine LeO.bind ?_ (fun _ => ?_))
      | exact ih0 _ _ _
      | exact spec_IsPlainName.mono _ _
      | exact spec_KindOf.mono _ _
      | exact LeO.none _
      | refine LeO.ite ?_ ?_
      | refine LeO.bind ?_ (fun _ => ?_)
set_option maxHeartbeats 8000000 in
set_option maxRecDepth 100000 in
theorem laws_plainWords.calls (k : Nat) (A0 : Option Addr) (c0 : Nat) (l0 : List ByteArray) (r : Bool) (w : World) (hr0 : Kd.C Kd.string w A0 l0.length l0) (hc0 : l0.length ≤ c0) (h : laws_plainWords.f k l0 = some r) :
    Calls Tryz.prog 23 #[.slice A0 l0.length c0] w fun e w' => e = .returned (.bool r) ∧ Drawn0 w w' := by
  have HR0 := Aside0.mk hr0
  have HC0 := Aside0.mk hc0
  clear hr0 hc0
  have H : (laws_plainWords.l0 k l0 (l0.length : Int) 0) = some r := h
  clear h
  have H' := Aside0.mk H
  clear H
  go_enter Tryz.func23, Tryz.ntmps23
  go_wp2
  go_loopg [7] k (fun kq v7 w' => ∃ (x7_1 : Int), v7 = .int .i64 x7_1 ∧ Aside0 (laws_plainWords.l0 kq l0 (l0.length : Int) x7_1 = some r) ∧ Aside0 (kq ≤ k) ∧ Drawn0 w w')
  case atStart => exact ⟨(0), (by first | rfl | (simp; done) | (simp [*]; done)), H', ⟨Nat.le_refl _⟩, by repeat (first | exact Drawn0.refl _ | apply Drawn0.step)⟩
  case round =>
    clear H'
    obtain ⟨x7_1, rfl, HA, HK1, ⟨m1, rfl⟩⟩ := hrel
    cases gk with
    | zero => exact absurd HA.out (by simp [laws_plainWords.l0])
    | succ k1 =>
      have H := HA.out
      clear HA
      simp only [laws_plainWords.l0] at H
      by_cases c2 : x7_1 < (l0.length : Int)
      · rw [if_pos c2] at H
        have c2b0 : decide (x7_1 < (l0.length : Int)) = true := decide_eq_true c2
        clear c2
        by_cases c3 : 0 ≤ x7_1
        · rw [if_pos c3] at H
          have c3b0 : decide (0 ≤ x7_1) = true := decide_eq_true c3
          clear c3
          by_cases c4 : x7_1 < (l0.length : Int)
          · rw [if_pos c4] at H
            have c4b0 : decide (x7_1 < (l0.length : Int)) = true := decide_eq_true c4
            clear c4
            replace H := Option.bind_eq_some_iff.mp H
            obtain ⟨t116, A50, H⟩ := H
            replace H : (if t116 = (-2) then ((spec_IsPlainName.f k1 (rdOf ByteArray.empty l0 x7_1)).bind fun t117 => (if t117 = true then (laws_plainWords.l0 k1 l0 (l0.length : Int) (wrap64 (x7_1 + 1))) else (some false))) else (laws_plainWords.l0 k1 l0 (l0.length : Int) (wrap64 (x7_1 + 1)))) = some r := H
            have A5 := Aside0.mk A50
            clear A50
            by_cases c6 : t116 = (-2)
            · rw [if_pos c6] at H
              have c6b0 : (t116 == (-2)) = true := beq_iff_eq.mpr c6
              have c6b1 : (t116 != (-2)) = false := bne_eq_false_iff_eq.mpr c6
              clear c6
              replace H := Option.bind_eq_some_iff.mp H
              obtain ⟨t117, A70, H⟩ := H
              replace H : (if t117 = true then (laws_plainWords.l0 k1 l0 (l0.length : Int) (wrap64 (x7_1 + 1))) else (some false)) = some r := H
              have A7 := Aside0.mk A70
              clear A70
              by_cases c8 : t117 = true
              · subst c8
                have H1 : (laws_plainWords.l0 k1 l0 (l0.length : Int) (wrap64 (x7_1 + 1))) = some r := by rw [if_pos rfl] at H; exact H
                clear H
                have H := H1
                clear H1
                have H' := Aside0.mk H
                clear H
                have p115 : 0 ≤ (x7_1 : Int) := of_decide_eq_true (by first | (with_reducible assumption) | assumption)
                have q115 : x7_1 < (l0.length : Int) := of_decide_eq_true (by first | (with_reducible assumption) | assumption)
                obtain ⟨ad115, e115, hx115_0⟩ := Kd.at_string HR0.out x7_1 p115 q115
                cases e115
                replace p115 := eq_true p115
                replace q115 := eq_true q115
                go_wp2_with (first | ((with_reducible refine gate_callee (f := 27) rfl ?_); refine goesL_ (some 12) rfl rfl Tryz.func27 (by kernel_rfl) rfl #[.string (rdOf ByteArray.empty l0 x7_1)] rfl (by (try simp only [List.map_toArray, List.map_cons, List.map_nil]); first | done | rfl | (simp only [List.length_drop, List.length_take]; rfl)) ?_; (with_reducible refine (spec_KindOf.calls k1 (rdOf ByteArray.empty l0 x7_1) t116 _ A5.out).mono ?_); rintro e w' ⟨rfl, ⟨nd, rfl⟩⟩; refine ⟨_, rfl, ?_⟩) | (go_at_call 12; (with_reducible refine (spec_IsPlainName.calls k1 (rdOf ByteArray.empty l0 x7_1) true _ A7.out).mono ?_); rintro e w' ⟨rfl, ⟨nd, rfl⟩⟩))
                go_roundg k1
                case measure => have := HK1.out; omega
                case rel => exact ⟨(wrap64 (x7_1 + 1)), (by first | rfl | (simp; done) | (simp [*]; done)), H', ⟨by have := HK1.out; omega⟩, by repeat (first | exact Drawn0.refl _ | apply Drawn0.step)⟩
              · replace c8 := Bool.eq_false_iff.mpr c8
                subst c8
                have H1 : (some false) = some r := by rw [if_neg (show ¬ (false = true) by decide)] at H; exact H
                clear H
                have H := H1
                clear H1
                obtain rfl := Option.some.inj H
                have p115 : 0 ≤ (x7_1 : Int) := of_decide_eq_true (by first | (with_reducible assumption) | assumption)
                have q115 : x7_1 < (l0.length : Int) := of_decide_eq_true (by first | (with_reducible assumption) | assumption)
                obtain ⟨ad115, e115, hx115_0⟩ := Kd.at_string HR0.out x7_1 p115 q115
                cases e115
                replace p115 := eq_true p115
                replace q115 := eq_true q115
                go_wp2_with (first | ((with_reducible refine gate_callee (f := 27) rfl ?_); refine goesL_ (some 12) rfl rfl Tryz.func27 (by kernel_rfl) rfl #[.string (rdOf ByteArray.empty l0 x7_1)] rfl (by (try simp only [List.map_toArray, List.map_cons, List.map_nil]); first | done | rfl | (simp only [List.length_drop, List.length_take]; rfl)) ?_; (with_reducible refine (spec_KindOf.calls k1 (rdOf ByteArray.empty l0 x7_1) t116 _ A5.out).mono ?_); rintro e w' ⟨rfl, ⟨nd, rfl⟩⟩; refine ⟨_, rfl, ?_⟩) | (go_at_call 12; (with_reducible refine (spec_IsPlainName.calls k1 (rdOf ByteArray.empty l0 x7_1) false _ A7.out).mono ?_); rintro e w' ⟨rfl, ⟨nd, rfl⟩⟩))
                go_ret
                exact ⟨by first | rfl | (simp; done) | (simp [*]; done), by repeat (first | exact Drawn0.refl _ | apply Drawn0.step)⟩
            · rw [if_neg c6] at H
              have c6b0 : (t116 == (-2)) = false := beq_eq_false_iff_ne.mpr c6
              have c6b1 : (t116 != (-2)) = true := bne_iff_ne.mpr c6
              have H' := Aside0.mk H
              clear H
              have p115 : 0 ≤ (x7_1 : Int) := of_decide_eq_true (by first | (with_reducible assumption) | assumption)
              have q115 : x7_1 < (l0.length : Int) := of_decide_eq_true (by first | (with_reducible assumption) | assumption)
              obtain ⟨ad115, e115, hx115_0⟩ := Kd.at_string HR0.out x7_1 p115 q115
              cases e115
              replace p115 := eq_true p115
              replace q115 := eq_true q115
              go_wp2_with (first | ((with_reducible refine gate_callee (f := 27) rfl ?_); refine goesL_ (some 12) rfl rfl Tryz.func27 (by kernel_rfl) rfl #[.string (rdOf ByteArray.empty l0 x7_1)] rfl (by (try simp only [List.map_toArray, List.map_cons, List.map_nil]); first | done | rfl | (simp only [List.length_drop, List.length_take]; rfl)) ?_; (with_reducible refine (spec_KindOf.calls k1 (rdOf ByteArray.empty l0 x7_1) t116 _ A5.out).mono ?_); rintro e w' ⟨rfl, ⟨nd, rfl⟩⟩; refine ⟨_, rfl, ?_⟩))
              go_roundg k1
              case measure => have := HK1.out; omega
              case rel => exact ⟨(wrap64 (x7_1 + 1)), (by first | rfl | (simp; done) | (simp [*]; done)), H', ⟨by have := HK1.out; omega⟩, by repeat (first | exact Drawn0.refl _ | apply Drawn0.step)⟩
          · rw [if_neg c4] at H
            exact absurd H (by simp)
        · rw [if_neg c3] at H
          exact absurd H (by simp)
      · rw [if_neg c2] at H
        have c2b0 : decide (x7_1 < (l0.length : Int)) = false := decide_eq_false c2
        clear c2
        obtain rfl := Option.some.inj H
        go_wp2
        go_ret
        exact ⟨by first | rfl | (simp; done) | (simp [*]; done), by repeat (first | exact Drawn0.refl _ | apply Drawn0.step)⟩

/-! ### laws_lineOk: function 11 -/
def laws_lineOk.l0 : Nat → List ByteArray → List ByteArray → Int → Int → Option (Bool)
  | 0, _, _, _, _ => none
  | k + 1, x0, x5, x6, x7 => if x7 < x6 then (if 0 ≤ x7 then (if x7 < (x5.length : Int) then (if (rdOf ByteArray.empty x5 x7).toList = ([10] : List UInt8) then (some false) else (laws_lineOk.l0 k x0 x5 x6 (wrap64 (x7 + 1)))) else (none)) else (none)) else ((laws_wordsOk.f k x0).bind fun t119 => (if t119 = true then ((laws_plainWords.f k x0).bind fun t120 => (if t120 = true then (some (decide ((x0.length : Int) ≤ 20))) else (some false))) else (some false)))
def laws_lineOk.f (k : Nat) (l0 : List ByteArray) : Option (Bool) := laws_lineOk.l0 k l0 l0 (l0.length : Int) 0
theorem laws_lineOk.mono_l : ∀ k, (∀ y0 y1 y2 y3, LeO (laws_lineOk.l0 k y0 y1 y2 y3) (laws_lineOk.l0 (k + 1) y0 y1 y2 y3))
  | 0 => fun _ _ _ _ r h => by simp [laws_lineOk.l0] at h
  | k + 1 => by
    have ih0 := laws_lineOk.mono_l k
    · intro y0 y1 y2 y3
      unfold laws_lineOk.l0
      repeat' first
      | (with_reducible exact ih0 _ _ _ _)
      | (with_reducible exact laws_plainWords.mono _ _)
      | (with_reducible exact laws_wordsOk.mono _ _)
      | (with_reducible exact LeO.refl _)
      | (with_reducible exact LeO.none _)
      | (with_reducible refine LeO.ite ?_ ?_)
      | (with_reducible refine LeO.bind ?_ (fun _ => ?_))
      | exact ih0 _ _ _ _
      | exact laws_plainWords.mono _ _
      | exact laws_wordsOk.mono _ _
      | exact LeO.none _
      | refine LeO.ite ?_ ?_
      | refine LeO.bind ?_ (fun _ => ?_)
theorem laws_lineOk.mono : ∀ a0 k, LeO (laws_lineOk.f k a0) (laws_lineOk.f (k + 1) a0) := by
  intro a0 k
  have ih0 := laws_lineOk.mono_l k
  unfold laws_lineOk.f
  repeat' first
      | (with_reducible exact ih0 _ _ _ _)
      | (with_reducible exact laws_plainWords.mono _ _)
      | (with_reducible exact laws_wordsOk.mono _ _)
      | (with_reducible exact LeO.refl _)
      | (with_reducible exact LeO.none _)
      | (with_reducible refine LeO.ite ?_ ?_)
      | (with_reducible refine LeO.bind ?_ (fun _ => ?_))
      | exact ih0 _ _ _ _
      | exact laws_plainWords.mono _ _
      | exact laws_wordsOk.mono _ _
      | exact LeO.none _
      | refine LeO.ite ?_ ?_
      | refine LeO.bind ?_ (fun _ => ?_)
set_option maxHeartbeats 8000000 in
set_option maxRecDepth 100000 in
theorem laws_lineOk.calls (k : Nat) (A0 : Option Addr) (c0 : Nat) (l0 : List ByteArray) (r : Bool) (w : World) (hr0 : Kd.C Kd.string w A0 l0.length l0) (hc0 : l0.length ≤ c0) (h : laws_lineOk.f k l0 = some r) :
    Calls Tryz.prog 11 #[.slice A0 l0.length c0] w fun e w' => e = .returned (.bool r) ∧ Drawn0 w w' := by
  have HR0 := Aside0.mk hr0
  have HC0 := Aside0.mk hc0
  clear hr0 hc0
  have H : (laws_lineOk.l0 k l0 l0 (l0.length : Int) 0) = some r := h
  clear h
  have H' := Aside0.mk H
  clear H
  go_enter Tryz.func11, Tryz.ntmps11
  go_wp2
  go_loopg [7] k (fun kq v7 w' => ∃ (x7_1 : Int), v7 = .int .i64 x7_1 ∧ Aside0 (laws_lineOk.l0 kq l0 l0 (l0.length : Int) x7_1 = some r) ∧ Aside0 (kq ≤ k) ∧ Drawn0 w w')
  case atStart => exact ⟨(0), (by first | rfl | (simp; done) | (simp [*]; done)), H', ⟨Nat.le_refl _⟩, by repeat (first | exact Drawn0.refl _ | apply Drawn0.step)⟩
  case round =>
    clear H'
    try clear c1
    obtain ⟨x7_1, rfl, HA, HK1, ⟨m1, rfl⟩⟩ := hrel
    cases gk with
    | zero => exact absurd HA.out (by simp [laws_lineOk.l0])
    | succ k1 =>
      have H := HA.out
      clear HA
      simp only [laws_lineOk.l0] at H
      by_cases c2 : x7_1 < (l0.length : Int)
      · rw [if_pos c2] at H
        have c2b0 : decide (x7_1 < (l0.length : Int)) = true := decide_eq_true c2
        clear c2
        by_cases c3 : 0 ≤ x7_1
        · rw [if_pos c3] at H
          have c3b0 : decide (0 ≤ x7_1) = true := decide_eq_true c3
          clear c3
          by_cases c4 : x7_1 < (l0.length : Int)
          · rw [if_pos c4] at H
            have c4b0 : decide (x7_1 < (l0.length : Int)) = true := decide_eq_true c4
            clear c4
            by_cases c5 : (rdOf ByteArray.empty l0 x7_1).toList = ([10] : List UInt8)
            · rw [if_pos c5] at H
              have c5b0 : ((rdOf ByteArray.empty l0 x7_1).toList == ([10] : List UInt8)) = true := beq_iff_eq.mpr c5
              have c5b1 : ((rdOf ByteArray.empty l0 x7_1).toList != ([10] : List UInt8)) = false := bne_eq_false_iff_eq.mpr c5
              clear c5
              obtain rfl := Option.some.inj H
              have p118 : 0 ≤ (x7_1 : Int) := of_decide_eq_true (by first | (with_reducible assumption) | assumption)
              have q118 : x7_1 < (l0.length : Int) := of_decide_eq_true (by first | (with_reducible assumption) | assumption)
              obtain ⟨ad118, e118, hx118_0⟩ := Kd.at_string HR0.out x7_1 p118 q118
              cases e118
              replace p118 := eq_true p118
              replace q118 := eq_true q118
              go_wp2
              go_ret
              exact ⟨by first | rfl | (simp; done) | (simp [*]; done), by repeat (first | exact Drawn0.refl _ | apply Drawn0.step)⟩
            · rw [if_neg c5] at H
              have c5b0 : ((rdOf ByteArray.empty l0 x7_1).toList == ([10] : List UInt8)) = false := beq_eq_false_iff_ne.mpr c5
              have c5b1 : ((rdOf ByteArray.empty l0 x7_1).toList != ([10] : List UInt8)) = true := bne_iff_ne.mpr c5
              have H' := Aside0.mk H
              clear H
              have p118 : 0 ≤ (x7_1 : Int) := of_decide_eq_true (by first | (with_reducible assumption) | assumption)
              have q118 : x7_1 < (l0.length : Int) := of_decide_eq_true (by first | (with_reducible assumption) | assumption)
              obtain ⟨ad118, e118, hx118_0⟩ := Kd.at_string HR0.out x7_1 p118 q118
              cases e118
              replace p118 := eq_true p118
              replace q118 := eq_true q118
              go_wp2
              go_roundg k1
              case measure => have := HK1.out; omega
              case rel => exact ⟨(wrap64 (x7_1 + 1)), (by first | rfl | (simp; done) | (simp [*]; done)), H', ⟨by have := HK1.out; omega⟩, by repeat (first | exact Drawn0.refl _ | apply Drawn0.step)⟩
          · rw [if_neg c4] at H
            exact absurd H (by simp)
        · rw [if_neg c3] at H
          exact absurd H (by simp)
      · rw [if_neg c2] at H
        have c2b0 : decide (x7_1 < (l0.length : Int)) = false := decide_eq_false c2
        clear c2
        replace H := Option.bind_eq_some_iff.mp H
        obtain ⟨t119, A60, H⟩ := H
        replace H : (if t119 = true then ((laws_plainWords.f k1 l0).bind fun t120 => (if t120 = true then (some (decide ((l0.length : Int) ≤ 20))) else (some false))) else (some false)) = some r := H
        have A6 := Aside0.mk A60
        clear A60
        by_cases c7 : t119 = true
        · subst c7
          have H1 : ((laws_plainWords.f k1 l0).bind fun t120 => (if t120 = true then (some (decide ((l0.length : Int) ≤ 20))) else (some false))) = some r := by rw [if_pos rfl] at H; exact H
          clear H
          have H := H1
          clear H1
          replace H := Option.bind_eq_some_iff.mp H
          obtain ⟨t120, A80, H⟩ := H
          replace H : (if t120 = true then (some (decide ((l0.length : Int) ≤ 20))) else (some false)) = some r := H
          have A8 := Aside0.mk A80
          clear A80
          by_cases c9 : t120 = true
          · subst c9
            have H1 : (some (decide ((l0.length : Int) ≤ 20))) = some r := by rw [if_pos rfl] at H; exact H
            clear H
            have H := H1
            clear H1
            obtain rfl := Option.some.inj H
            go_wp2_with (first | ((with_reducible refine gate_callee (f := 22) rfl ?_); refine goesL_ (some 15) rfl rfl Tryz.func22 (by kernel_rfl) rfl #[.slice A0 l0.length c0] rfl (by (try simp only [List.map_toArray, List.map_cons, List.map_nil]); first | done | rfl | (simp only [List.length_drop, List.length_take]; rfl)) ?_; (with_reducible refine (laws_wordsOk.calls k1 _ _ l0 true _ ?side1 ?side2 A6.out).mono ?_); (case side1 => repeat (first | exact HR0.out | (with_reducible refine Kd.C_alloc ?_ _) | (with_reducible refine Kd.C_drewN ?_ _) | (with_reducible refine Kd.C_drew ?_))); (case side2 => exact HC0.out); rintro e w' ⟨rfl, ⟨nd, rfl⟩⟩; refine ⟨_, rfl, ?_⟩) | (go_at_call 23; (with_reducible refine (laws_plainWords.calls k1 _ _ l0 true _ ?side1 ?side2 A8.out).mono ?_); (case side1 => repeat (first | exact HR0.out | (with_reducible refine Kd.C_alloc ?_ _) | (with_reducible refine Kd.C_drewN ?_ _) | (with_reducible refine Kd.C_drew ?_))); (case side2 => exact HC0.out); rintro e w' ⟨rfl, ⟨nd, rfl⟩⟩))
            go_ret
            exact ⟨by first | rfl | (simp; done) | (simp [*]; done), by repeat (first | exact Drawn0.refl _ | apply Drawn0.step)⟩
          · replace c9 := Bool.eq_false_iff.mpr c9
            subst c9
            have H1 : (some false) = some r := by rw [if_neg (show ¬ (false = true) by decide)] at H; exact H
            clear H
            have H := H1
            clear H1
            obtain rfl := Option.some.inj H
            go_wp2_with (first | ((with_reducible refine gate_callee (f := 22) rfl ?_); refine goesL_ (some 15) rfl rfl Tryz.func22 (by kernel_rfl) rfl #[.slice A0 l0.length c0] rfl (by (try simp only [List.map_toArray, List.map_cons, List.map_nil]); first | done | rfl | (simp only [List.length_drop, List.length_take]; rfl)) ?_; (with_reducible refine (laws_wordsOk.calls k1 _ _ l0 true _ ?side1 ?side2 A6.out).mono ?_); (case side1 => repeat (first | exact HR0.out | (with_reducible refine Kd.C_alloc ?_ _) | (with_reducible refine Kd.C_drewN ?_ _) | (with_reducible refine Kd.C_drew ?_))); (case side2 => exact HC0.out); rintro e w' ⟨rfl, ⟨nd, rfl⟩⟩; refine ⟨_, rfl, ?_⟩) | (go_at_call 23; (with_reducible refine (laws_plainWords.calls k1 _ _ l0 false _ ?side1 ?side2 A8.out).mono ?_); (case side1 => repeat (first | exact HR0.out | (with_reducible refine Kd.C_alloc ?_ _) | (with_reducible refine Kd.C_drewN ?_ _) | (with_reducible refine Kd.C_drew ?_))); (case side2 => exact HC0.out); rintro e w' ⟨rfl, ⟨nd, rfl⟩⟩))
            go_ret
            exact ⟨by first | rfl | (simp; done) | (simp [*]; done), by repeat (first | exact Drawn0.refl _ | apply Drawn0.step)⟩
        · replace c7 := Bool.eq_false_iff.mpr c7
          subst c7
          have H1 : (some false) = some r := by rw [if_neg (show ¬ (false = true) by decide)] at H; exact H
          clear H
          have H := H1
          clear H1
          obtain rfl := Option.some.inj H
          go_wp2_with (first | ((with_reducible refine gate_callee (f := 22) rfl ?_); refine goesL_ (some 15) rfl rfl Tryz.func22 (by kernel_rfl) rfl #[.slice A0 l0.length c0] rfl (by (try simp only [List.map_toArray, List.map_cons, List.map_nil]); first | done | rfl | (simp only [List.length_drop, List.length_take]; rfl)) ?_; (with_reducible refine (laws_wordsOk.calls k1 _ _ l0 false _ ?side1 ?side2 A6.out).mono ?_); (case side1 => repeat (first | exact HR0.out | (with_reducible refine Kd.C_alloc ?_ _) | (with_reducible refine Kd.C_drewN ?_ _) | (with_reducible refine Kd.C_drew ?_))); (case side2 => exact HC0.out); rintro e w' ⟨rfl, ⟨nd, rfl⟩⟩; refine ⟨_, rfl, ?_⟩))
          go_ret
          exact ⟨by first | rfl | (simp; done) | (simp [*]; done), by repeat (first | exact Drawn0.refl _ | apply Drawn0.step)⟩

/-! ### laws_has: function 13 -/
def laws_has.l0 : Nat → ByteArray → List ByteArray → Int → Int → Option (Bool)
  | 0, _, _, _, _ => none
  | k + 1, x1, x7, x8, x9 => if x9 < x8 then (if 0 ≤ x9 then (if x9 < (x7.length : Int) then (if (rdOf ByteArray.empty x7 x9).toList = x1.toList then (some true) else (laws_has.l0 k x1 x7 x8 (wrap64 (x9 + 1)))) else (none)) else (none)) else (some false)
def laws_has.f (k : Nat) (l0 : List ByteArray) (a1 : ByteArray) : Option (Bool) := laws_has.l0 k a1 l0 (l0.length : Int) 0
theorem laws_has.mono_l : ∀ k, (∀ y0 y1 y2 y3, LeO (laws_has.l0 k y0 y1 y2 y3) (laws_has.l0 (k + 1) y0 y1 y2 y3))
  | 0 => fun _ _ _ _ r h => by simp [laws_has.l0] at h
  | k + 1 => by
    have ih0 := laws_has.mono_l k
    · intro y0 y1 y2 y3
      unfold laws_has.l0
      repeat' first
      | (with_reducible exact ih0 _ _ _ _)
      | (with_reducible exact LeO.refl _)
      | (with_reducible exact LeO.none _)
      | (with_reducible refine LeO.ite ?_ ?_)
      | (with_reducible refine LeO.bind ?_ (fun _ => ?_))
      | exact ih0 _ _ _ _
      | exact LeO.none _
      | refine LeO.ite ?_ ?_
      | refine LeO.bind ?_ (fun _ => ?_)
theorem laws_has.mono : ∀ a0 a1 k, LeO (laws_has.f k a0 a1) (laws_has.f (k + 1) a0 a1) := by
  intro a0 a1 k
  have ih0 := laws_has.mono_l k
  unfold laws_has.f
  repeat' first
      | (with_reducible exact ih0 _ _ _ _)
      | (with_reducible exact LeO.refl _)
      | (with_reducible exact LeO.none _)
      | (with_reducible refine LeO.ite ?_ ?_)
      | (with_reducible refine LeO.bind ?_ (fun _ => ?_))
      | exact ih0 _ _ _ _
      | exact LeO.none _
      | refine LeO.ite ?_ ?_
      | refine LeO.bind ?_ (fun _ => ?_)
set_option maxHeartbeats 8000000 in
set_option maxRecDepth 100000 in
theorem laws_has.calls (k : Nat) (A0 : Option Addr) (c0 : Nat) (l0 : List ByteArray) (a1 : ByteArray) (r : Bool) (w : World) (hr0 : Kd.C Kd.string w A0 l0.length l0) (hc0 : l0.length ≤ c0) (h : laws_has.f k l0 a1 = some r) :
    Calls Tryz.prog 13 #[.slice A0 l0.length c0, .string a1] w fun e w' => e = .returned (.bool r) ∧ Drawn0 w w' := by
  have HR0 := Aside0.mk hr0
  have HC0 := Aside0.mk hc0
  clear hr0 hc0
  have H : (laws_has.l0 k a1 l0 (l0.length : Int) 0) = some r := h
  clear h
  have H' := Aside0.mk H
  clear H
  go_enter Tryz.func13, Tryz.ntmps13
  go_wp2
  go_loopg [9] k (fun kq v9 w' => ∃ (x9_1 : Int), v9 = .int .i64 x9_1 ∧ Aside0 (laws_has.l0 kq a1 l0 (l0.length : Int) x9_1 = some r) ∧ Aside0 (kq ≤ k) ∧ Drawn0 w w')
  case atStart => exact ⟨(0), (by first | rfl | (simp; done) | (simp [*]; done)), H', ⟨Nat.le_refl _⟩, by repeat (first | exact Drawn0.refl _ | apply Drawn0.step)⟩
  case round =>
    clear H'
    try clear c1
    try clear p2
    obtain ⟨x9_1, rfl, HA, HK1, ⟨m1, rfl⟩⟩ := hrel
    cases gk with
    | zero => exact absurd HA.out (by simp [laws_has.l0])
    | succ k1 =>
      have H := HA.out
      clear HA
      simp only [laws_has.l0] at H
      by_cases c3 : x9_1 < (l0.length : Int)
      · rw [if_pos c3] at H
        have c3b0 : decide (x9_1 < (l0.length : Int)) = true := decide_eq_true c3
        clear c3
        by_cases c4 : 0 ≤ x9_1
        · rw [if_pos c4] at H
          have c4b0 : decide (0 ≤ x9_1) = true := decide_eq_true c4
          clear c4
          by_cases c5 : x9_1 < (l0.length : Int)
          · rw [if_pos c5] at H
            have c5b0 : decide (x9_1 < (l0.length : Int)) = true := decide_eq_true c5
            clear c5
            by_cases c6 : (rdOf ByteArray.empty l0 x9_1).toList = a1.toList
            · rw [if_pos c6] at H
              have c6b0 : ((rdOf ByteArray.empty l0 x9_1).toList == a1.toList) = true := beq_iff_eq.mpr c6
              have c6b1 : ((rdOf ByteArray.empty l0 x9_1).toList != a1.toList) = false := bne_eq_false_iff_eq.mpr c6
              clear c6
              obtain rfl := Option.some.inj H
              have p121 : 0 ≤ (x9_1 : Int) := of_decide_eq_true (by first | (with_reducible assumption) | assumption)
              have q121 : x9_1 < (l0.length : Int) := of_decide_eq_true (by first | (with_reducible assumption) | assumption)
              obtain ⟨ad121, e121, hx121_0⟩ := Kd.at_string HR0.out x9_1 p121 q121
              cases e121
              replace p121 := eq_true p121
              replace q121 := eq_true q121
              go_wp2
              go_ret
              exact ⟨by first | rfl | (simp; done) | (simp [*]; done), by repeat (first | exact Drawn0.refl _ | apply Drawn0.step)⟩
            · rw [if_neg c6] at H
              have c6b0 : ((rdOf ByteArray.empty l0 x9_1).toList == a1.toList) = false := beq_eq_false_iff_ne.mpr c6
              have c6b1 : ((rdOf ByteArray.empty l0 x9_1).toList != a1.toList) = true := bne_iff_ne.mpr c6
              have H' := Aside0.mk H
              clear H
              have p121 : 0 ≤ (x9_1 : Int) := of_decide_eq_true (by first | (with_reducible assumption) | assumption)
              have q121 : x9_1 < (l0.length : Int) := of_decide_eq_true (by first | (with_reducible assumption) | assumption)
              obtain ⟨ad121, e121, hx121_0⟩ := Kd.at_string HR0.out x9_1 p121 q121
              cases e121
              replace p121 := eq_true p121
              replace q121 := eq_true q121
              go_wp2
              go_roundg k1
              case measure => have := HK1.out; omega
              case rel => exact ⟨(wrap64 (x9_1 + 1)), (by first | rfl | (simp; done) | (simp [*]; done)), H', ⟨by have := HK1.out; omega⟩, by repeat (first | exact Drawn0.refl _ | apply Drawn0.step)⟩
          · rw [if_neg c5] at H
            exact absurd H (by simp)
        · rw [if_neg c4] at H
          exact absurd H (by simp)
      · rw [if_neg c3] at H
        have c3b0 : decide (x9_1 < (l0.length : Int)) = false := decide_eq_false c3
        clear c3
        obtain rfl := Option.some.inj H
        go_wp2
        go_ret
        exact ⟨by first | rfl | (simp; done) | (simp [*]; done), by repeat (first | exact Drawn0.refl _ | apply Drawn0.step)⟩

/-! ### laws_textOf: function 14 -/
def laws_textOf.l0 : Nat → ByteArray → List ByteArray → Int → Int → Option (ByteArray)
  | 0, _, _, _, _ => none
  | k + 1, x3, x6, x7, x8 => if x8 < x7 then (if 0 ≤ x8 then (if x8 < (x6.length : Int) then (if (rdOf ByteArray.empty x6 x8).size + 1 ≤ 9223372036854775807 then (if x3.size + ((rdOf ByteArray.empty x6 x8) ++ (⟨#[32]⟩ : ByteArray)).size ≤ 9223372036854775807 then (laws_textOf.l0 k (x3 ++ ((rdOf ByteArray.empty x6 x8) ++ (⟨#[32]⟩ : ByteArray))) x6 x7 (wrap64 (x8 + 1))) else (none)) else (none)) else (none)) else (none)) else (some x3)
def laws_textOf.f (k : Nat) (l0 : List ByteArray) : Option (ByteArray) := laws_textOf.l0 k (⟨#[]⟩ : ByteArray) l0 (l0.length : Int) 0
theorem laws_textOf.mono_l : ∀ k, (∀ y0 y1 y2 y3, LeO (laws_textOf.l0 k y0 y1 y2 y3) (laws_textOf.l0 (k + 1) y0 y1 y2 y3))
  | 0 => fun _ _ _ _ r h => by simp [laws_textOf.l0] at h
  | k + 1 => by
    have ih0 := laws_textOf.mono_l k
    · intro y0 y1 y2 y3
      unfold laws_textOf.l0
      repeat' first
      | (with_reducible exact ih0 _ _ _ _)
      | (with_reducible exact LeO.refl _)
      | (with_reducible exact LeO.none _)
      | (with_reducible refine LeO.ite ?_ ?_)
      | (with_reducible refine LeO.bind ?_ (fun _ => ?_))
      | exact ih0 _ _ _ _
      | exact LeO.none _
      | refine LeO.ite ?_ ?_
      | refine LeO.bind ?_ (fun _ => ?_)
theorem laws_textOf.mono : ∀ a0 k, LeO (laws_textOf.f k a0) (laws_textOf.f (k + 1) a0) := by
  intro a0 k
  have ih0 := laws_textOf.mono_l k
  unfold laws_textOf.f
  repeat' first
      | (with_reducible exact ih0 _ _ _ _)
      | (with_reducible exact LeO.refl _)
      | (with_reducible exact LeO.none _)
      | (with_reducible refine LeO.ite ?_ ?_)
      | (with_reducible refine LeO.bind ?_ (fun _ => ?_))
      | exact ih0 _ _ _ _
      | exact LeO.none _
      | refine LeO.ite ?_ ?_
      | refine LeO.bind ?_ (fun _ => ?_)
set_option maxHeartbeats 8000000 in
set_option maxRecDepth 100000 in
theorem laws_textOf.calls (k : Nat) (A0 : Option Addr) (c0 : Nat) (l0 : List ByteArray) (r : ByteArray) (w : World) (hr0 : Kd.C Kd.string w A0 l0.length l0) (hc0 : l0.length ≤ c0) (h : laws_textOf.f k l0 = some r) :
    Calls Tryz.prog 14 #[.slice A0 l0.length c0] w fun e w' => e = .returned (.string r) ∧ Drawn0 w w' := by
  have HR0 := Aside0.mk hr0
  have HC0 := Aside0.mk hc0
  clear hr0 hc0
  have H : (laws_textOf.l0 k (⟨#[]⟩ : ByteArray) l0 (l0.length : Int) 0) = some r := h
  clear h
  have H' := Aside0.mk H
  clear H
  go_enter Tryz.func14, Tryz.ntmps14
  go_wp2
  go_loopg [3, 8] k (fun kq v3 v8 w' => ∃ (x3_1 : ByteArray) (x8_1 : Int), v3 = .string x3_1 ∧ v8 = .int .i64 x8_1 ∧ Aside0 (laws_textOf.l0 kq x3_1 l0 (l0.length : Int) x8_1 = some r) ∧ Aside0 (kq ≤ k) ∧ Drawn0 w w')
  case atStart => exact ⟨((⟨#[]⟩ : ByteArray)), (0), (by first | rfl | (simp; done) | (simp [*]; done)), (by first | rfl | (simp; done) | (simp [*]; done)), H', ⟨Nat.le_refl _⟩, by repeat (first | exact Drawn0.refl _ | apply Drawn0.step)⟩
  case round =>
    clear H'
    try clear c1
    obtain ⟨x3_1, x8_1, rfl, rfl, HA, HK1, ⟨m1, rfl⟩⟩ := hrel
    cases gk with
    | zero => exact absurd HA.out (by simp [laws_textOf.l0])
    | succ k1 =>
      have H := HA.out
      clear HA
      simp only [laws_textOf.l0] at H
      by_cases c2 : x8_1 < (l0.length : Int)
      · rw [if_pos c2] at H
        have c2b0 : decide (x8_1 < (l0.length : Int)) = true := decide_eq_true c2
        clear c2
        by_cases c3 : 0 ≤ x8_1
        · rw [if_pos c3] at H
          have c3b0 : decide (0 ≤ x8_1) = true := decide_eq_true c3
          clear c3
          by_cases c4 : x8_1 < (l0.length : Int)
          · rw [if_pos c4] at H
            have c4b0 : decide (x8_1 < (l0.length : Int)) = true := decide_eq_true c4
            clear c4
            by_cases c5 : (rdOf ByteArray.empty l0 x8_1).size + 1 ≤ 9223372036854775807
            · rw [if_pos c5] at H
              have c5b0 := eq_true c5
              have c5b1 : decide ((rdOf ByteArray.empty l0 x8_1).size + 1 ≤ 9223372036854775807) = true := decide_eq_true c5
              try have c5b2 : (9223372036854775807 < (rdOf ByteArray.empty l0 x8_1).size + 1) = False := eq_false (Nat.not_lt.2 c5)
              by_cases c6 : x3_1.size + ((rdOf ByteArray.empty l0 x8_1) ++ (⟨#[32]⟩ : ByteArray)).size ≤ 9223372036854775807
              · rw [if_pos c6] at H
                have c6b0 := eq_true c6
                have c6b1 : decide (x3_1.size + ((rdOf ByteArray.empty l0 x8_1) ++ (⟨#[32]⟩ : ByteArray)).size ≤ 9223372036854775807) = true := decide_eq_true c6
                try have c6b2 : (9223372036854775807 < x3_1.size + ((rdOf ByteArray.empty l0 x8_1) ++ (⟨#[32]⟩ : ByteArray)).size) = False := eq_false (Nat.not_lt.2 c6)
                have H' := Aside0.mk H
                clear H
                have p122 : 0 ≤ (x8_1 : Int) := of_decide_eq_true (by first | (with_reducible assumption) | assumption)
                have q122 : x8_1 < (l0.length : Int) := of_decide_eq_true (by first | (with_reducible assumption) | assumption)
                obtain ⟨ad122, e122, hx122_0⟩ := Kd.at_string HR0.out x8_1 p122 q122
                cases e122
                replace p122 := eq_true p122
                replace q122 := eq_true q122
                go_wp2
                go_roundg k1
                case measure => have := HK1.out; omega
                case rel => exact ⟨(x3_1 ++ ((rdOf ByteArray.empty l0 x8_1) ++ (⟨#[32]⟩ : ByteArray))), (wrap64 (x8_1 + 1)), (by first | rfl | (simp; done) | (simp [*]; done)), (by first | rfl | (simp; done) | (simp [*]; done)), H', ⟨by have := HK1.out; omega⟩, by repeat (first | exact Drawn0.refl _ | apply Drawn0.step)⟩
              · rw [if_neg c6] at H
                exact absurd H (by simp)
            · rw [if_neg c5] at H
              exact absurd H (by simp)
          · rw [if_neg c4] at H
            exact absurd H (by simp)
        · rw [if_neg c3] at H
          exact absurd H (by simp)
      · rw [if_neg c2] at H
        have c2b0 : decide (x8_1 < (l0.length : Int)) = false := decide_eq_false c2
        clear c2
        obtain rfl := Option.some.inj H
        go_wp2
        go_ret
        exact ⟨by first | rfl | (simp; done) | (simp [*]; done), by repeat (first | exact Drawn0.refl _ | apply Drawn0.step)⟩

end Go.Proofs.YtpoimmpdncickaaGreatDoor.PHelp
