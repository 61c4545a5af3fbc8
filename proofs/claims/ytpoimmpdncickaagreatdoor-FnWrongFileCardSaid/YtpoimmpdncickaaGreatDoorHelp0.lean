/- What the printed parts share: the kinds of the structs and the comparison of tokens (by the kit's print, cut out by gen_help.py). -/
import Derived.Test.YtpoimmpdncickaaGreatDoorProg
import Derived.Below
import Derived.Deep.Draws
import Derived.Deep.AppendLies
import Derived.Maps.AppendAt
import Derived.OwnWalk
import Derived.Laws.BytesArg
import Derived.Laws.MakeOwn
import Derived.Laws.OwnMore
import Derived.Deep.OwnRows
import Derived.Tactics
import Derived.Lib.ConvBytes
import Derived.Laws.Slices
import Derived.WalkKit
import Derived.KernelRfl
import Derived.RowKit3
import Derived.Deep.LoopGhost
import Derived.Deep.QuietTactic
import Derived.BigQuiet
import Derived.WideLaws
import Derived.Deep.DeepCutAuto
import Derived.Deep.CutBlock
import Derived.Deep.RegionHeld3
import Derived.Laws.Rows
import Derived.Lib.AppendStr
import Derived.ArgAppend
import Derived.Laws.IdiomCopy
import Derived.OrdersHeld
import Derived.Laws.BitsLemmas
import Derived.RowKit
import Derived.Test.YtpoimmpdncickaaGreatDoorWWords
import Derived.Test.YtpoimmpdncickaaGreatDoorWLast
import Derived.Test.YtpoimmpdncickaaGreatDoorWApart
import Derived.Test.YtpoimmpdncickaaGreatDoorWFoot
import Derived.Test.YtpoimmpdncickaaGreatDoorWKept
import Derived.Test.YtpoimmpdncickaaGreatDoorWShare
import Derived.Test.YtpoimmpdncickaaGreatDoorWN
import Derived.Test.YtpoimmpdncickaaGreatDoorWEqStruct
import Derived.Test.YtpoimmpdncickaaGreatDoorWRepsOne
import Derived.Test.YtpoimmpdncickaaGreatDoorWMore
namespace Go.Proofs.YtpoimmpdncickaaGreatDoor.PHelp
open Go.RowKit Go.Proofs.YtpoimmpdncickaaGreatDoorW.PrintWords Go.Proofs.YtpoimmpdncickaaGreatDoorW.PrintLast Go.Proofs.YtpoimmpdncickaaGreatDoorW.PrintMore
attribute [local go_sem] max2_int min2_int max_two min_two max_three min_three max_four min_four   -- for this text's walks alone
set_option linter.unusedVariables false
set_option linter.unusedSimpArgs false



def errW : Option Int → Value
  | none => .nilIface
  | some c => .iface 202 (.int .i64 c)
theorem errW_none : errW none = .nilIface := rfl
theorem errW_some (c : Int) : errW (some c) = .iface 202 (.int .i64 c) := rfl

theorem info5 : (Tryz.prog.info? 5).map (fun i => (i.zero, i.size, i.bytes)) = some (some (.int .u8 0), 1, 1) := by kernel_rfl
theorem info9 : (Tryz.prog.info? 9).map (fun i => (i.zero, i.size, i.bytes)) = some (some (.string ⟨#[]⟩), 1, 16) := by kernel_rfl
-- the values' own types
/-! #### struct type 176 -/
/-! #### struct type 179 -/
/-! #### struct type 33 -/
structure S33 where
  f0 : ByteArray
  f1 : ByteArray
def k33 : Kd S33 := Kd.iso (Kd.pair Kd.string Kd.string) (fun x : S33 => (x.f0, x.f1))
theorem k33_mkM (w : World) (base : Nat) (ok : Nat → Prop) (x : S33)  : k33.M w base ok x [.string x.f0, .string x.f1] := ⟨[.string x.f0], [.string x.f1], rfl, rfl, rfl⟩
/-! #### struct type 54 -/
structure S54 where
  f0 : Int
  f1 : ByteArray
  f2 : ByteArray
  f3 : Int
def z54 : S54 := ⟨(0 : Int), (⟨#[]⟩ : ByteArray), (⟨#[]⟩ : ByteArray), (0 : Int)⟩
def k54 : Kd S54 := Kd.iso (Kd.pair (Kd.int .i64) (Kd.pair Kd.string (Kd.pair Kd.string (Kd.int .i64)))) (fun x : S54 => (x.f0, x.f1, x.f2, x.f3))
theorem k54_open {w : World} {x : S54} {cs : List Value} (h : k54.K w x cs) : cs = [.int .i64 x.f0, .string x.f1, .string x.f2, .int .i64 x.f3] := by
  obtain ⟨_, _, rfl, rfl, ⟨_, _, rfl, rfl, ⟨_, _, rfl, rfl, rfl⟩⟩⟩ := h
  exact rfl
theorem k54_mk (w : World) (x : S54)  : k54.K w x [.int .i64 x.f0, .string x.f1, .string x.f2, .int .i64 x.f3] := ⟨[.int .i64 x.f0], [.string x.f1, .string x.f2, .int .i64 x.f3], rfl, rfl, ⟨[.string x.f1], [.string x.f2, .int .i64 x.f3], rfl, rfl, ⟨[.string x.f2], [.int .i64 x.f3], rfl, rfl, rfl⟩⟩⟩
def rd_T54 (xs : List S54) (i : Int) : S54 := xs.getD i.toNat z54
theorem at_T54 {w : World} {A : Option Addr} {n : Nat} {xs : List S54} (h : Kd.C k54 w A n xs) (i : Int) (h0 : 0 ≤ i) (h1 : i < n) : ∃ ad , A = some ad ∧ w.cell? (ad.add (i.toNat * 4)) = some (.int .i64 (rd_T54 xs i).f0) ∧ w.cell? ⟨(ad.add (i.toNat * 4)).block, (ad.add (i.toNat * 4)).off + 1, none⟩ = some (.string (rd_T54 xs i).f1) ∧ w.cell? ⟨(ad.add (i.toNat * 4)).block, (ad.add (i.toNat * 4)).off + 2, none⟩ = some (.string (rd_T54 xs i).f2) ∧ w.cell? ⟨(ad.add (i.toNat * 4)).block, (ad.add (i.toNat * 4)).off + 3, none⟩ = some (.int .i64 (rd_T54 xs i).f3) := by
  obtain ⟨ad, c, e, _, hK, hc0⟩ := Kd.C_get h z54 i h0 h1
  have hc : ∀ j u, c[j]? = some u → w.cell? (ad.add (i.toNat * 4 + j)) = some u := hc0
  obtain rfl := k54_open hK
  exact ⟨ad, e, hc 0 _ rfl, by rw [← add_field _ _ 1 (by omega)]; exact hc 1 _ rfl, by rw [← add_field _ _ 2 (by omega)]; exact hc 2 _ rfl, by rw [← add_field _ _ 3 (by omega)]; exact hc 3 _ rfl⟩


/-! ### laws_zzFits5: function 10 -/
def laws_zzFits5.l0 : Nat → List ByteArray → Int → Int → Option (Bool)
  | 0, _, _, _ => none
  | k + 1, x8, x9, x10 => if x10 < x9 then (if 0 ≤ x10 then (if x10 < (x8.length : Int) then (if ((rdOf ByteArray.empty x8 x10).size : Int) > 2147483647 then (some false) else (laws_zzFits5.l0 k x8 x9 (wrap64 (x10 + 1)))) else (none)) else (none)) else (some true)
def laws_zzFits5.f (k : Nat) (l0 : List ByteArray) : Option (Bool) := if (l0.length : Int) > 2147483647 then (some false) else (laws_zzFits5.l0 k l0 (l0.length : Int) 0)
theorem laws_zzFits5.mono_l : ∀ k, (∀ y0 y1 y2, LeO (laws_zzFits5.l0 k y0 y1 y2) (laws_zzFits5.l0 (k + 1) y0 y1 y2))
  | 0 => fun _ _ _ r h => by simp [laws_zzFits5.l0] at h
  | k + 1 => by
    have ih0 := laws_zzFits5.mono_l k
    · intro y0 y1 y2
      unfold laws_zzFits5.l0
      repeat' first
      | (with_reducible exact ih0 _ _ _)
      | (with_reducible exact LeO.refl _)
      | (with_reducible exact LeO.none _)
      | (with_reducible refine LeO.ite ?_ ?_)
      | (with_reducible refine LeO.bind ?_ (fun _ => ?_))
      | exact ih0 _ _ _
      | exact LeO.none _
      | refine LeO.ite ?_ ?_
      | refine LeO.bind ?_ (fun _ => ?_)
theorem laws_zzFits5.mono : ∀ a0 k, LeO (laws_zzFits5.f k a0) (laws_zzFits5.f (k + 1) a0) := by
  intro a0 k
  have ih0 := laws_zzFits5.mono_l k
  unfold laws_zzFits5.f
  repeat' first
      | (with_reducible exact ih0 _ _ _)
      | (with_reducible exact LeO.refl _)
      | (with_reducible exact LeO.none _)
      | (with_reducible refine LeO.ite ?_ ?_)
      | (with_reducible refine LeO.bind ?_ (fun _ => ?_))
      | exact ih0 _ _ _
      | exact LeO.none _
      | refine LeO.ite ?_ ?_
      | refine LeO.bind ?_ (fun _ => ?_)
set_option maxHeartbeats 8000000 in
set_option maxRecDepth 100000 in
theorem laws_zzFits5.calls (k : Nat) (A0 : Option Addr) (c0 : Nat) (l0 : List ByteArray) (r : Bool) (w : World) (hr0 : Kd.C Kd.string w A0 l0.length l0) (hc0 : l0.length ≤ c0) (h : laws_zzFits5.f k l0 = some r) :
    Calls Tryz.prog 10 #[.slice A0 l0.length c0] w fun e w' => e = .returned (.bool r) ∧ Drawn0 w w' := by
  have HR0 := Aside0.mk hr0
  have HC0 := Aside0.mk hc0
  clear hr0 hc0
  have H : (if (l0.length : Int) > 2147483647 then (some false) else (laws_zzFits5.l0 k l0 (l0.length : Int) 0)) = some r := h
  clear h
  by_cases c2 : (l0.length : Int) > 2147483647
  · rw [if_pos c2] at H
    have c2b0 : decide (2147483647 < (l0.length : Int)) = true := decide_eq_true c2
    have c2b1 : decide (2147483647 < l0.length) = true := decide_eq_true (by omega)
    clear c2
    obtain rfl := Option.some.inj H
    go_enter Tryz.func10, Tryz.ntmps10
    go_wp2
    go_ret
    exact ⟨by first | rfl | (simp; done) | (simp [*]; done), by repeat (first | exact Drawn0.refl _ | apply Drawn0.step)⟩
  · rw [if_neg c2] at H
    have c2b0 : decide (2147483647 < (l0.length : Int)) = false := decide_eq_false c2
    have c2b1 : decide (2147483647 < l0.length) = false := decide_eq_false (by omega)
    clear c2
    have H' := Aside0.mk H
    clear H
    go_enter Tryz.func10, Tryz.ntmps10
    go_wp2
    go_loopg [10] k (fun kq v10 w' => ∃ (x10_1 : Int), v10 = .int .i64 x10_1 ∧ Aside0 (laws_zzFits5.l0 kq l0 (l0.length : Int) x10_1 = some r) ∧ Aside0 (kq ≤ k) ∧ Drawn0 w w')
    case atStart => exact ⟨(0), (by first | rfl | (simp; done) | (simp [*]; done)), H', ⟨Nat.le_refl _⟩, by repeat (first | exact Drawn0.refl _ | apply Drawn0.step)⟩
    case round =>
      clear H'
      try clear c1
      try clear c2
      try clear c2b0
      try clear c2b1
      try clear p2
      obtain ⟨x10_1, rfl, HA, HK1, ⟨m1, rfl⟩⟩ := hrel
      cases gk with
      | zero => exact absurd HA.out (by simp [laws_zzFits5.l0])
      | succ k1 =>
        have H := HA.out
        clear HA
        simp only [laws_zzFits5.l0] at H
        by_cases c3 : x10_1 < (l0.length : Int)
        · rw [if_pos c3] at H
          have c3b0 : decide (x10_1 < (l0.length : Int)) = true := decide_eq_true c3
          clear c3
          by_cases c4 : 0 ≤ x10_1
          · rw [if_pos c4] at H
            have c4b0 : decide (0 ≤ x10_1) = true := decide_eq_true c4
            clear c4
            by_cases c5 : x10_1 < (l0.length : Int)
            · rw [if_pos c5] at H
              have c5b0 : decide (x10_1 < (l0.length : Int)) = true := decide_eq_true c5
              clear c5
              by_cases c6 : ((rdOf ByteArray.empty l0 x10_1).size : Int) > 2147483647
              · rw [if_pos c6] at H
                have c6b0 : decide (2147483647 < ((rdOf ByteArray.empty l0 x10_1).size : Int)) = true := decide_eq_true c6
                have c6b1 : decide (2147483647 < (rdOf ByteArray.empty l0 x10_1).size) = true := decide_eq_true (by omega)
                clear c6
                obtain rfl := Option.some.inj H
                have p101 : 0 ≤ (x10_1 : Int) := of_decide_eq_true (by first | (with_reducible assumption) | assumption)
                have q101 : x10_1 < (l0.length : Int) := of_decide_eq_true (by first | (with_reducible assumption) | assumption)
                obtain ⟨ad101, e101, hx101_0⟩ := Kd.at_string HR0.out x10_1 p101 q101
                cases e101
                replace p101 := eq_true p101
                replace q101 := eq_true q101
                go_wp2
                go_ret
                exact ⟨by first | rfl | (simp; done) | (simp [*]; done), by repeat (first | exact Drawn0.refl _ | apply Drawn0.step)⟩
              · rw [if_neg c6] at H
                have c6b0 : decide (2147483647 < ((rdOf ByteArray.empty l0 x10_1).size : Int)) = false := decide_eq_false c6
                have c6b1 : decide (2147483647 < (rdOf ByteArray.empty l0 x10_1).size) = false := decide_eq_false (by omega)
                clear c6
                have H' := Aside0.mk H
                clear H
                have p101 : 0 ≤ (x10_1 : Int) := of_decide_eq_true (by first | (with_reducible assumption) | assumption)
                have q101 : x10_1 < (l0.length : Int) := of_decide_eq_true (by first | (with_reducible assumption) | assumption)
                obtain ⟨ad101, e101, hx101_0⟩ := Kd.at_string HR0.out x10_1 p101 q101
                cases e101
                replace p101 := eq_true p101
                replace q101 := eq_true q101
                go_wp2
                go_roundg k1
                case measure => have := HK1.out; omega
                case rel => exact ⟨(wrap64 (x10_1 + 1)), (by first | rfl | (simp; done) | (simp [*]; done)), H', ⟨by have := HK1.out; omega⟩, by repeat (first | exact Drawn0.refl _ | apply Drawn0.step)⟩
            · rw [if_neg c5] at H
              exact absurd H (by simp)
          · rw [if_neg c4] at H
            exact absurd H (by simp)
        · rw [if_neg c3] at H
          have c3b0 : decide (x10_1 < (l0.length : Int)) = false := decide_eq_false c3
          clear c3
          obtain rfl := Option.some.inj H
          go_wp2
          go_ret
          exact ⟨by first | rfl | (simp; done) | (simp [*]; done), by repeat (first | exact Drawn0.refl _ | apply Drawn0.step)⟩

/-! ### spec_IsLetter: function 41 -/
def spec_IsLetter.f (a0 : Int) : Option (Bool) := if a0 ≥ 97 then (if a0 ≤ 122 then (some true) else (if a0 ≥ 65 then (if a0 ≤ 90 then (some true) else (some (a0 == 95))) else (some (a0 == 95)))) else (if a0 ≥ 65 then (if a0 ≤ 90 then (some true) else (some (a0 == 95))) else (some (a0 == 95)))
set_option maxHeartbeats 8000000 in
set_option maxRecDepth 100000 in
theorem spec_IsLetter.calls (a0 : Int) (r : Bool) (w : World) (h : spec_IsLetter.f a0 = some r) :
    Calls Tryz.prog 41 #[.int .u8 a0] w fun e w' => e = .returned (.bool r) ∧ Drawn0 w w' := by
  have H : (if a0 ≥ 97 then (if a0 ≤ 122 then (some true) else (if a0 ≥ 65 then (if a0 ≤ 90 then (some true) else (some (a0 == 95))) else (some (a0 == 95)))) else (if a0 ≥ 65 then (if a0 ≤ 90 then (some true) else (some (a0 == 95))) else (some (a0 == 95)))) = some r := h
  clear h
  by_cases c2 : a0 ≥ 97
  · rw [if_pos c2] at H
    have c2b0 : decide (97 ≤ a0) = true := decide_eq_true c2
    clear c2
    by_cases c3 : a0 ≤ 122
    · rw [if_pos c3] at H
      have c3b0 : decide (a0 ≤ 122) = true := decide_eq_true c3
      clear c3
      obtain rfl := Option.some.inj H
      go_enter Tryz.func41, Tryz.ntmps41
      go_wp2
      go_ret
      exact ⟨by first | rfl | (simp; done) | (simp [*]; done), by repeat (first | exact Drawn0.refl _ | apply Drawn0.step)⟩
    · rw [if_neg c3] at H
      have c3b0 : decide (a0 ≤ 122) = false := decide_eq_false c3
      clear c3
      by_cases c4 : a0 ≥ 65
      · rw [if_pos c4] at H
        have c4b0 : decide (65 ≤ a0) = true := decide_eq_true c4
        clear c4
        by_cases c5 : a0 ≤ 90
        · rw [if_pos c5] at H
          have c5b0 : decide (a0 ≤ 90) = true := decide_eq_true c5
          clear c5
          obtain rfl := Option.some.inj H
          go_enter Tryz.func41, Tryz.ntmps41
          go_wp2
          go_ret
          exact ⟨by first | rfl | (simp; done) | (simp [*]; done), by repeat (first | exact Drawn0.refl _ | apply Drawn0.step)⟩
        · rw [if_neg c5] at H
          have c5b0 : decide (a0 ≤ 90) = false := decide_eq_false c5
          clear c5
          obtain rfl := Option.some.inj H
          go_enter Tryz.func41, Tryz.ntmps41
          go_wp2
          go_ret
          exact ⟨by first | rfl | (simp; done) | (simp [*]; done), by repeat (first | exact Drawn0.refl _ | apply Drawn0.step)⟩
      · rw [if_neg c4] at H
        have c4b0 : decide (65 ≤ a0) = false := decide_eq_false c4
        clear c4
        obtain rfl := Option.some.inj H
        go_enter Tryz.func41, Tryz.ntmps41
        go_wp2
        go_ret
        exact ⟨by first | rfl | (simp; done) | (simp [*]; done), by repeat (first | exact Drawn0.refl _ | apply Drawn0.step)⟩
  · rw [if_neg c2] at H
    have c2b0 : decide (97 ≤ a0) = false := decide_eq_false c2
    clear c2
    by_cases c6 : a0 ≥ 65
    · rw [if_pos c6] at H
      have c6b0 : decide (65 ≤ a0) = true := decide_eq_true c6
      clear c6
      by_cases c7 : a0 ≤ 90
      · rw [if_pos c7] at H
        have c7b0 : decide (a0 ≤ 90) = true := decide_eq_true c7
        clear c7
        obtain rfl := Option.some.inj H
        go_enter Tryz.func41, Tryz.ntmps41
        go_wp2
        go_ret
        exact ⟨by first | rfl | (simp; done) | (simp [*]; done), by repeat (first | exact Drawn0.refl _ | apply Drawn0.step)⟩
      · rw [if_neg c7] at H
        have c7b0 : decide (a0 ≤ 90) = false := decide_eq_false c7
        clear c7
        obtain rfl := Option.some.inj H
        go_enter Tryz.func41, Tryz.ntmps41
        go_wp2
        go_ret
        exact ⟨by first | rfl | (simp; done) | (simp [*]; done), by repeat (first | exact Drawn0.refl _ | apply Drawn0.step)⟩
    · rw [if_neg c6] at H
      have c6b0 : decide (65 ≤ a0) = false := decide_eq_false c6
      clear c6
      obtain rfl := Option.some.inj H
      go_enter Tryz.func41, Tryz.ntmps41
      go_wp2
      go_ret
      exact ⟨by first | rfl | (simp; done) | (simp [*]; done), by repeat (first | exact Drawn0.refl _ | apply Drawn0.step)⟩

/-! ### spec_IsDigit: function 42 -/
def spec_IsDigit.f (a0 : Int) : Option (Bool) := if a0 ≥ 48 then (some (decide (a0 ≤ 57))) else (some false)
set_option maxHeartbeats 8000000 in
set_option maxRecDepth 100000 in
theorem spec_IsDigit.calls (a0 : Int) (r : Bool) (w : World) (h : spec_IsDigit.f a0 = some r) :
    Calls Tryz.prog 42 #[.int .u8 a0] w fun e w' => e = .returned (.bool r) ∧ Drawn0 w w' := by
  have H : (if a0 ≥ 48 then (some (decide (a0 ≤ 57))) else (some false)) = some r := h
  clear h
  by_cases c2 : a0 ≥ 48
  · rw [if_pos c2] at H
    have c2b0 : decide (48 ≤ a0) = true := decide_eq_true c2
    clear c2
    obtain rfl := Option.some.inj H
    go_enter Tryz.func42, Tryz.ntmps42
    go_wp2
    go_ret
    exact ⟨by first | rfl | (simp; done) | (simp [*]; done), by repeat (first | exact Drawn0.refl _ | apply Drawn0.step)⟩
  · rw [if_neg c2] at H
    have c2b0 : decide (48 ≤ a0) = false := decide_eq_false c2
    clear c2
    obtain rfl := Option.some.inj H
    go_enter Tryz.func42, Tryz.ntmps42
    go_wp2
    go_ret
    exact ⟨by first | rfl | (simp; done) | (simp [*]; done), by repeat (first | exact Drawn0.refl _ | apply Drawn0.step)⟩

/-! ### spec_skipped: function 28 -/
mutual
def spec_skipped.j0 : Nat → ByteArray → Bool → Option (Int)
  | 0, _, _ => none
  | k + 1, x0, x8 => if x8 = true then (some 1) else (if (x0.size : Int) ≥ 2 then (if 0 ≤ 2 then (if 2 ≤ (x0.size : Int) then (spec_skipped.j1 k x0 ((x0.extract 0 2).toList == ([194, 183] : List UInt8))) else (none)) else (none)) else (spec_skipped.j1 k x0 false))
def spec_skipped.j1 : Nat → ByteArray → Bool → Option (Int)
  | 0, _, _ => none
  | k + 1, x0, x21 => if x21 = true then (some 2) else (if (x0.size : Int) ≥ 3 then (if 0 ≤ 3 then (if 3 ≤ (x0.size : Int) then (if (x0.extract 0 3).toList = ([226, 136, 149] : List UInt8) then (some 3) else (some 0)) else (none)) else (none)) else (some 0))
end
def spec_skipped.f (k : Nat) (a0 : ByteArray) (a1 : Bool) : Option (Int) := if a0.toList = ([] : List UInt8) then (some 0) else (if 0 < (a0.size : Int) then ((spec_IsLetter.f (bt a0 0)).bind fun t102 => (if t102 = true then (spec_skipped.j0 k a0 true) else (if a1 = true then (spec_skipped.j0 k a0 false) else ((spec_IsDigit.f (bt a0 0)).bind fun t103 => (spec_skipped.j0 k a0 t103))))) else (none))
theorem spec_skipped.mono_l : ∀ k, (∀ y0 y1, LeO (spec_skipped.j0 k y0 y1) (spec_skipped.j0 (k + 1) y0 y1)) ∧ (∀ y0 y1, LeO (spec_skipped.j1 k y0 y1) (spec_skipped.j1 (k + 1) y0 y1))
  | 0 => ⟨fun _ _ r h => by simp [spec_skipped.j0] at h, fun _ _ r h => by simp [spec_skipped.j1] at h⟩
  | k + 1 => by
    obtain ⟨ih0, ih1⟩ := spec_skipped.mono_l k
    refine ⟨?_, ?_⟩
    · intro y0 y1
      unfold spec_skipped.j0
      repeat' first
      | (with_reducible exact ih0 _ _)
      | (with_reducible exact ih1 _ _)
      | (with_reducible exact LeO.refl _)
      | (with_reducible exact LeO.none _)
      | (with_reducible refine LeO.ite ?_ ?_)
      | (with_reducible refine LeO.bind ?_ (fun _ => ?_))
      | exact ih0 _ _
      | exact ih1 _ _
      | exact LeO.none _
      | refine LeO.ite ?_ ?_
      | refine LeO.bind ?_ (fun _ => ?_)
    · intro y0 y1
      unfold spec_skipped.j1
      repeat' first
      | (with_reducible exact ih0 _ _)
      | (with_reducible exact ih1 _ _)
      | (with_reducible exact LeO.refl _)
      | (with_reducible exact LeO.none _)
      | (with_reducible refine LeO.ite ?_ ?_)
      | (with_reducible refine LeO.bind ?_ (fun _ => ?_))
      | exact ih0 _ _
      | exact ih1 _ _
      | exact LeO.none _
      | refine LeO.ite ?_ ?_
      | refine LeO.bind ?_ (fun _ => ?_)
theorem spec_skipped.mono : ∀ a0 a1 k, LeO (spec_skipped.f k a0 a1) (spec_skipped.f (k + 1) a0 a1) := by
  intro a0 a1 k
  obtain ⟨ih0, ih1⟩ := spec_skipped.mono_l k
  unfold spec_skipped.f
  repeat' first
      | (with_reducible exact ih0 _ _)
      | (with_reducible exact ih1 _ _)
      | (with_reducible exact LeO.refl _)
      | (with_reducible exact LeO.none _)
      | (with_reducible refine LeO.ite ?_ ?_)
      | (with_reducible refine LeO.bind ?_ (fun _ => ?_))
      | exact ih0 _ _
      | exact ih1 _ _
      | exact LeO.none _
      | refine LeO.ite ?_ ?_
      | refine LeO.bind ?_ (fun _ => ?_)
set_option maxHeartbeats 8000000 in
set_option maxRecDepth 100000 in
theorem spec_skipped.calls (k : Nat) (a0 : ByteArray) (a1 : Bool) (r : Int) (w : World) (h : spec_skipped.f k a0 a1 = some r) :
    Calls Tryz.prog 28 #[.string a0, .bool a1] w fun e w' => e = .returned (.int .i64 r) ∧ Drawn0 w w' := by
  have H : (if a0.toList = ([] : List UInt8) then (some 0) else (if 0 < (a0.size : Int) then ((spec_IsLetter.f (bt a0 0)).bind fun t102 => (if t102 = true then (spec_skipped.j0 k a0 true) else (if a1 = true then (spec_skipped.j0 k a0 false) else ((spec_IsDigit.f (bt a0 0)).bind fun t103 => (spec_skipped.j0 k a0 t103))))) else (none))) = some r := h
  clear h
  by_cases c3 : a0.toList = ([] : List UInt8)
  · rw [if_pos c3] at H
    have c3b0 : (a0.toList == ([] : List UInt8)) = true := beq_iff_eq.mpr c3
    have c3b1 : (a0.toList != ([] : List UInt8)) = false := bne_eq_false_iff_eq.mpr c3
    clear c3
    obtain rfl := Option.some.inj H
    go_enter Tryz.func28, Tryz.ntmps28
    go_wp2
    go_ret
    exact ⟨by first | rfl | (simp; done) | (simp [*]; done), by repeat (first | exact Drawn0.refl _ | apply Drawn0.step)⟩
  · rw [if_neg c3] at H
    have c3b0 : (a0.toList == ([] : List UInt8)) = false := beq_eq_false_iff_ne.mpr c3
    have c3b1 : (a0.toList != ([] : List UInt8)) = true := bne_iff_ne.mpr c3
    have HC4 := Aside0.mk H
    clear H
    go_enter Tryz.func28, Tryz.ntmps28
    go_upto_region 3 with (fail)
    go_cut [8] (fun v8 wc => ∃ (kq : Nat) (x8_3 : Bool), v8 = .bool x8_3 ∧ Aside0 (spec_skipped.j0 kq a0 x8_3 = some r) ∧ Aside0 (kq ≤ k) ∧ Drawn0 w wc)
    case first =>
      have H := HC4.out
      clear HC4
      by_cases c5 : 0 < (a0.size : Int)
      · rw [if_pos c5] at H
        have c5b0 : decide (0 < (a0.size : Int)) = true := decide_eq_true c5
        have c5b1 : decide (0 < a0.size) = true := decide_eq_true (by omega)
        clear c5
        (first | rw [c5b0] | (simp only [i64_w, i32_w]; rw [c5b0]) | skip)
        replace H := Option.bind_eq_some_iff.mp H
        obtain ⟨t102, A70, H⟩ := H
        replace H : (if t102 = true then (spec_skipped.j0 k a0 true) else (if a1 = true then (spec_skipped.j0 k a0 false) else ((spec_IsDigit.f (bt a0 0)).bind fun t103 => (spec_skipped.j0 k a0 t103)))) = some r := H
        have A7 := Aside0.mk A70
        clear A70
        by_cases c8 : t102 = true
        · subst c8
          have H1 : (spec_skipped.j0 k a0 true) = some r := by rw [if_pos rfl] at H; exact H
          clear H
          have H := H1
          clear H1
          have H' := Aside0.mk H
          clear H
          have p6 : 0 ≤ (0 : Int) := (by omega)
          have q6 : 0 < a0.size := (by have : (0 : Int) < (a0.size : Int) := of_decide_eq_true (by first | (with_reducible assumption) | assumption); omega)
          have hx6 : ∀ h : 0 < a0.size, ((a0[0]'h).toNat : Int) = bt a0 0 := bt_at a0 0
          clear p6
          have qi6 : (0 < (a0.size : Int)) = True := eq_true (of_decide_eq_true (by first | (with_reducible assumption) | assumption))
          replace q6 := eq_true q6
          go_wp2_with (first | ((with_reducible refine gate_callee (f := 41) rfl ?_); refine goesL_ (some 11) rfl rfl Tryz.func41 (by kernel_rfl) rfl #[.int .u8 (bt a0 0)] rfl (by (try simp only [List.map_toArray, List.map_cons, List.map_nil]); first | done | rfl | (simp only [List.length_drop, List.length_take]; rfl)) ?_; (with_reducible refine (spec_IsLetter.calls (bt a0 0) true _ A7.out).mono ?_); rintro e w' ⟨rfl, ⟨nd, rfl⟩⟩; refine ⟨_, rfl, ?_⟩))
          go_meet
          case rel => exact ⟨_, (true), (by first | rfl | (simp; done) | (simp [*]; done)), H', ⟨by first | omega | exact Nat.le_refl _⟩, by repeat (first | exact Drawn0.refl _ | apply Drawn0.step)⟩
        · replace c8 := Bool.eq_false_iff.mpr c8
          subst c8
          have H1 : (if a1 = true then (spec_skipped.j0 k a0 false) else ((spec_IsDigit.f (bt a0 0)).bind fun t103 => (spec_skipped.j0 k a0 t103))) = some r := by rw [if_neg (show ¬ (false = true) by decide)] at H; exact H
          clear H
          have H := H1
          clear H1
          by_cases c9 : a1 = true
          · subst c9
            have H1 : (spec_skipped.j0 k a0 false) = some r := by rw [if_pos rfl] at H; exact H
            clear H
            have H := H1
            clear H1
            have H' := Aside0.mk H
            clear H
            have p6 : 0 ≤ (0 : Int) := (by omega)
            have q6 : 0 < a0.size := (by have : (0 : Int) < (a0.size : Int) := of_decide_eq_true (by first | (with_reducible assumption) | assumption); omega)
            have hx6 : ∀ h : 0 < a0.size, ((a0[0]'h).toNat : Int) = bt a0 0 := bt_at a0 0
            clear p6
            have qi6 : (0 < (a0.size : Int)) = True := eq_true (of_decide_eq_true (by first | (with_reducible assumption) | assumption))
            replace q6 := eq_true q6
            go_wp2_with (first | ((with_reducible refine gate_callee (f := 41) rfl ?_); refine goesL_ (some 11) rfl rfl Tryz.func41 (by kernel_rfl) rfl #[.int .u8 (bt a0 0)] rfl (by (try simp only [List.map_toArray, List.map_cons, List.map_nil]); first | done | rfl | (simp only [List.length_drop, List.length_take]; rfl)) ?_; (with_reducible refine (spec_IsLetter.calls (bt a0 0) false _ A7.out).mono ?_); rintro e w' ⟨rfl, ⟨nd, rfl⟩⟩; refine ⟨_, rfl, ?_⟩))
            go_meet
            case rel => exact ⟨_, (false), (by first | rfl | (simp; done) | (simp [*]; done)), H', ⟨by first | omega | exact Nat.le_refl _⟩, by repeat (first | exact Drawn0.refl _ | apply Drawn0.step)⟩
          · replace c9 := Bool.eq_false_iff.mpr c9
            subst c9
            have H1 : ((spec_IsDigit.f (bt a0 0)).bind fun t103 => (spec_skipped.j0 k a0 t103)) = some r := by rw [if_neg (show ¬ (false = true) by decide)] at H; exact H
            clear H
            have H := H1
            clear H1
            replace H := Option.bind_eq_some_iff.mp H
            obtain ⟨t103, A110, H⟩ := H
            replace H : (spec_skipped.j0 k a0 t103) = some r := H
            have A11 := Aside0.mk A110
            clear A110
            have H' := Aside0.mk H
            clear H
            have p6 : 0 ≤ (0 : Int) := (by omega)
            have q6 : 0 < a0.size := (by have : (0 : Int) < (a0.size : Int) := of_decide_eq_true (by first | (with_reducible assumption) | assumption); omega)
            have hx6 : ∀ h : 0 < a0.size, ((a0[0]'h).toNat : Int) = bt a0 0 := bt_at a0 0
            clear p6
            have qi6 : (0 < (a0.size : Int)) = True := eq_true (of_decide_eq_true (by first | (with_reducible assumption) | assumption))
            replace q6 := eq_true q6
            go_wp2_with (first | ((with_reducible refine gate_callee (f := 41) rfl ?_); refine goesL_ (some 11) rfl rfl Tryz.func41 (by kernel_rfl) rfl #[.int .u8 (bt a0 0)] rfl (by (try simp only [List.map_toArray, List.map_cons, List.map_nil]); first | done | rfl | (simp only [List.length_drop, List.length_take]; rfl)) ?_; (with_reducible refine (spec_IsLetter.calls (bt a0 0) false _ A7.out).mono ?_); rintro e w' ⟨rfl, ⟨nd, rfl⟩⟩; refine ⟨_, rfl, ?_⟩; have p10 : 0 ≤ (0 : Int) := (by omega); have q10 : 0 < a0.size := (by have : (0 : Int) < (a0.size : Int) := of_decide_eq_true (by first | (with_reducible assumption) | assumption); omega); have hx10 : ∀ h : 0 < a0.size, ((a0[0]'h).toNat : Int) = bt a0 0 := bt_at a0 0; clear p10; have qi10 : (0 < (a0.size : Int)) = True := eq_true (of_decide_eq_true (by first | (with_reducible assumption) | assumption)); replace q10 := eq_true q10) | (go_at_call 42; (with_reducible refine (spec_IsDigit.calls (bt a0 0) t103 _ A11.out).mono ?_); rintro e w' ⟨rfl, ⟨nd, rfl⟩⟩))
            go_meet
            case rel => exact ⟨_, (t103), (by first | rfl | (simp; done) | (simp [*]; done)), H', ⟨by first | omega | exact Nat.le_refl _⟩, by repeat (first | exact Drawn0.refl _ | apply Drawn0.step)⟩
      · rw [if_neg c5] at H
        exact absurd H (by simp)
    case rest =>
      clear HC4
      try clear p1
      try clear q1
      try clear hx1
      try clear qi1
      try clear c2
      try clear p2
      try clear c3
      try clear c3b0
      try clear c3b1
      try clear c4
      try clear c5
      try clear c5b0
      try clear c5b1
      try clear p6
      try clear q6
      try clear hx6
      try clear qi6
      try clear c8
      try clear c9
      try clear p10
      try clear q10
      try clear hx10
      try clear qi10
      try clear p10
      try clear p6
      try clear q10
      try clear q6
      obtain ⟨kq, x8_3, rfl, HA, HJ3, ⟨mc3, rfl⟩⟩ := hcut
      cases kq with
      | zero => exact absurd HA.out (by simp [spec_skipped.j0])
      | succ kj3 =>
        have H := HA.out
        clear HA
        simp only [spec_skipped.j0] at H
        by_cases c12 : x8_3 = true
        · subst c12
          have H1 : (some 1) = some r := by rw [if_pos rfl] at H; exact H
          clear H
          have H := H1
          clear H1
          obtain rfl := Option.some.inj H
          go_wp2
          go_ret
          exact ⟨by first | rfl | (simp; done) | (simp [*]; done), by repeat (first | exact Drawn0.refl _ | apply Drawn0.step)⟩
        · replace c12 := Bool.eq_false_iff.mpr c12
          subst c12
          have H1 : (if (a0.size : Int) ≥ 2 then (if 0 ≤ 2 then (if 2 ≤ (a0.size : Int) then (spec_skipped.j1 kj3 a0 ((a0.extract 0 2).toList == ([194, 183] : List UInt8))) else (none)) else (none)) else (spec_skipped.j1 kj3 a0 false)) = some r := by rw [if_neg (show ¬ (false = true) by decide)] at H; exact H
          clear H
          have H := H1
          clear H1
          have HC13 := Aside0.mk H
          clear H
          go_upto_region 5 with (fail)
          go_cut [21] (fun v21 wc => ∃ (kq : Nat) (x21_12 : Bool), v21 = .bool x21_12 ∧ Aside0 (spec_skipped.j1 kq a0 x21_12 = some r) ∧ Aside0 (kq ≤ kj3) ∧ Drawn0 w wc)
          case first =>
            have H := HC13.out
            clear HC13
            by_cases c14 : (a0.size : Int) ≥ 2
            · rw [if_pos c14] at H
              have c14b0 : decide (2 ≤ (a0.size : Int)) = true := decide_eq_true c14
              have c14b1 : decide (2 ≤ a0.size) = true := decide_eq_true (by omega)
              clear c14
              (first | rw [c14b0] | (simp only [i64_w, i32_w]; rw [c14b0]) | skip)
              by_cases c15 : 0 ≤ 2
              · rw [if_pos c15] at H
                have c15b0 := eq_true c15
                have c15b1 : decide (0 ≤ 2) = true := decide_eq_true c15
                clear c15
                by_cases c16 : 2 ≤ (a0.size : Int)
                · rw [if_pos c16] at H
                  have c16b0 := eq_true c16
                  have c16b1 : decide (2 ≤ (a0.size : Int)) = true := decide_eq_true c16
                  clear c16
                  have H' := Aside0.mk H
                  clear H
                  go_wp2
                  go_meet
                  case rel => exact ⟨_, (((a0.extract 0 2).toList == ([194, 183] : List UInt8))), (by first | rfl | (simp; done) | (simp [*]; done)), H', ⟨by have := HJ3.out; first | omega | exact Nat.le_refl _⟩, by repeat (first | exact Drawn0.refl _ | apply Drawn0.step)⟩
                · rw [if_neg c16] at H
                  exact absurd H (by simp)
              · rw [if_neg c15] at H
                exact absurd H (by simp)
            · rw [if_neg c14] at H
              have c14b0 : decide (2 ≤ (a0.size : Int)) = false := decide_eq_false c14
              have c14b1 : decide (2 ≤ a0.size) = false := decide_eq_false (by omega)
              clear c14
              (first | rw [c14b0] | (simp only [i64_w, i32_w]; rw [c14b0]) | skip)
              have H' := Aside0.mk H
              clear H
              go_wp2
              go_meet
              case rel => exact ⟨_, (false), (by first | rfl | (simp; done) | (simp [*]; done)), H', ⟨by have := HJ3.out; first | omega | exact Nat.le_refl _⟩, by repeat (first | exact Drawn0.refl _ | apply Drawn0.step)⟩
          case rest =>
            clear HC13
            try clear c1
            try clear p1
            try clear q1
            try clear hx1
            try clear qi1
            try clear c2
            try clear p2
            try clear c3
            try clear c3b0
            try clear c3b1
            try clear c4
            try clear c5
            try clear c5b0
            try clear c5b1
            try clear p6
            try clear q6
            try clear hx6
            try clear qi6
            try clear c8
            try clear c9
            try clear p10
            try clear q10
            try clear hx10
            try clear qi10
            try clear c12
            try clear c14
            try clear c14b0
            try clear c14b1
            try clear c15
            try clear c15b0
            try clear c15b1
            try clear c16
            try clear c16b0
            try clear c16b1
            try clear p1
            try clear p10
            try clear p2
            try clear p6
            try clear q1
            try clear q10
            try clear q6
            obtain ⟨kq, x21_12, rfl, HA, HJ12, ⟨mc12, rfl⟩⟩ := hcut
            cases kq with
            | zero => exact absurd HA.out (by simp [spec_skipped.j1])
            | succ kj12 =>
              have H := HA.out
              clear HA
              simp only [spec_skipped.j1] at H
              by_cases c17 : x21_12 = true
              · subst c17
                have H1 : (some 2) = some r := by rw [if_pos rfl] at H; exact H
                clear H
                have H := H1
                clear H1
                obtain rfl := Option.some.inj H
                go_wp2
                go_ret
                exact ⟨by first | rfl | (simp; done) | (simp [*]; done), by repeat (first | exact Drawn0.refl _ | apply Drawn0.step)⟩
              · replace c17 := Bool.eq_false_iff.mpr c17
                subst c17
                have H1 : (if (a0.size : Int) ≥ 3 then (if 0 ≤ 3 then (if 3 ≤ (a0.size : Int) then (if (a0.extract 0 3).toList = ([226, 136, 149] : List UInt8) then (some 3) else (some 0)) else (none)) else (none)) else (some 0)) = some r := by rw [if_neg (show ¬ (false = true) by decide)] at H; exact H
                clear H
                have H := H1
                clear H1
                by_cases c18 : (a0.size : Int) ≥ 3
                · rw [if_pos c18] at H
                  have c18b0 : decide (3 ≤ (a0.size : Int)) = true := decide_eq_true c18
                  have c18b1 : decide (3 ≤ a0.size) = true := decide_eq_true (by omega)
                  clear c18
                  by_cases c19 : 0 ≤ 3
                  · rw [if_pos c19] at H
                    have c19b0 := eq_true c19
                    have c19b1 : decide (0 ≤ 3) = true := decide_eq_true c19
                    clear c19
                    by_cases c20 : 3 ≤ (a0.size : Int)
                    · rw [if_pos c20] at H
                      have c20b0 := eq_true c20
                      have c20b1 : decide (3 ≤ (a0.size : Int)) = true := decide_eq_true c20
                      clear c20
                      by_cases c21 : (a0.extract 0 3).toList = ([226, 136, 149] : List UInt8)
                      · rw [if_pos c21] at H
                        have c21b0 : ((a0.extract 0 3).toList == ([226, 136, 149] : List UInt8)) = true := beq_iff_eq.mpr c21
                        have c21b1 : ((a0.extract 0 3).toList != ([226, 136, 149] : List UInt8)) = false := bne_eq_false_iff_eq.mpr c21
                        clear c21
                        obtain rfl := Option.some.inj H
                        go_wp2
                        go_ret
                        exact ⟨by first | rfl | (simp; done) | (simp [*]; done), by repeat (first | exact Drawn0.refl _ | apply Drawn0.step)⟩
                      · rw [if_neg c21] at H
                        have c21b0 : ((a0.extract 0 3).toList == ([226, 136, 149] : List UInt8)) = false := beq_eq_false_iff_ne.mpr c21
                        have c21b1 : ((a0.extract 0 3).toList != ([226, 136, 149] : List UInt8)) = true := bne_iff_ne.mpr c21
                        obtain rfl := Option.some.inj H
                        go_wp2
                        go_ret
                        exact ⟨by first | rfl | (simp; done) | (simp [*]; done), by repeat (first | exact Drawn0.refl _ | apply Drawn0.step)⟩
                    · rw [if_neg c20] at H
                      exact absurd H (by simp)
                  · rw [if_neg c19] at H
                    exact absurd H (by simp)
                · rw [if_neg c18] at H
                  have c18b0 : decide (3 ≤ (a0.size : Int)) = false := decide_eq_false c18
                  have c18b1 : decide (3 ≤ a0.size) = false := decide_eq_false (by omega)
                  clear c18
                  obtain rfl := Option.some.inj H
                  go_wp2
                  go_ret
                  exact ⟨by first | rfl | (simp; done) | (simp [*]; done), by repeat (first | exact Drawn0.refl _ | apply Drawn0.step)⟩

/-! ### spec_IsName: function 24 -/
def spec_IsName.l0 : Nat → ByteArray → Int → Option (Bool)
  | 0, _, _ => none
  | k + 1, x0, x3 => if x3 < (x0.size : Int) then (if 0 ≤ x3 then (if x3 ≤ (x0.size : Int) then ((spec_skipped.f k (x0.extract (x3 : Int).toNat x0.size) (x3 == 0)).bind fun t104 => (if t104 = 0 then (some false) else (spec_IsName.l0 k x0 (wrap64 (x3 + t104))))) else (none)) else (none)) else (some true)
def spec_IsName.f (k : Nat) (a0 : ByteArray) : Option (Bool) := if a0.toList = ([] : List UInt8) then (some false) else (spec_IsName.l0 k a0 0)
theorem spec_IsName.mono_l : ∀ k, (∀ y0 y1, LeO (spec_IsName.l0 k y0 y1) (spec_IsName.l0 (k + 1) y0 y1))
  | 0 => fun _ _ r h => by simp [spec_IsName.l0] at h
  | k + 1 => by
    have ih0 := spec_IsName.mono_l k
    · intro y0 y1
      unfold spec_IsName.l0
      repeat' first
      | (with_reducible exact ih0 _ _)
      | (with_reducible exact spec_skipped.mono _ _ _)
      | (with_reducible exact LeO.refl _)
      | (with_reducible exact LeO.none _)
      | (with_reducible refine LeO.ite ?_ ?_)
      | (with_reducible refine LeO.bind ?_ (fun _ => ?_))
      | exact ih0 _ _
      | exact spec_skipped.mono _ _ _
      | exact LeO.none _
      | refine LeO.ite ?_ ?_
      | refine LeO.bind ?_ (fun _ => ?_)
theorem spec_IsName.mono : ∀ a0 k, LeO (spec_IsName.f k a0) (spec_IsName.f (k + 1) a0) := by
  intro a0 k
  have ih0 := spec_IsName.mono_l k
  unfold spec_IsName.f
  repeat' first
      | (with_reducible exact ih0 _ _)
      | (with_reducible exact spec_skipped.mono _ _ _)
      | (with_reducible exact LeO.refl _)
      | (with_reducible exact LeO.none _)
      | (with_reducible refine LeO.ite ?_ ?_)
      | (with_reducible refine LeO.bind ?_ (fun _ => ?_))
      | exact ih0 _ _
      | exact spec_skipped.mono _ _ _
      | exact LeO.none _
      | refine LeO.ite ?_ ?_
      | refine LeO.bind ?_ (fun _ => ?_)
set_option maxHeartbeats 8000000 in
set_option maxRecDepth 100000 in
theorem spec_IsName.calls (k : Nat) (a0 : ByteArray) (r : Bool) (w : World) (h : spec_IsName.f k a0 = some r) :
    Calls Tryz.prog 24 #[.string a0] w fun e w' => e = .returned (.bool r) ∧ Drawn0 w w' := by
  have H : (if a0.toList = ([] : List UInt8) then (some false) else (spec_IsName.l0 k a0 0)) = some r := h
  clear h
  by_cases c2 : a0.toList = ([] : List UInt8)
  · rw [if_pos c2] at H
    have c2b0 : (a0.toList == ([] : List UInt8)) = true := beq_iff_eq.mpr c2
    have c2b1 : (a0.toList != ([] : List UInt8)) = false := bne_eq_false_iff_eq.mpr c2
    clear c2
    obtain rfl := Option.some.inj H
    go_enter Tryz.func24, Tryz.ntmps24
    go_wp2
    go_ret
    exact ⟨by first | rfl | (simp; done) | (simp [*]; done), by repeat (first | exact Drawn0.refl _ | apply Drawn0.step)⟩
  · rw [if_neg c2] at H
    have c2b0 : (a0.toList == ([] : List UInt8)) = false := beq_eq_false_iff_ne.mpr c2
    have c2b1 : (a0.toList != ([] : List UInt8)) = true := bne_iff_ne.mpr c2
    have H' := Aside0.mk H
    clear H
    go_enter Tryz.func24, Tryz.ntmps24
    go_wp2
    go_loopg [3] k (fun kq v3 w' => ∃ (x3_1 : Int), v3 = .int .i64 x3_1 ∧ Aside0 (spec_IsName.l0 kq a0 x3_1 = some r) ∧ Aside0 (kq ≤ k) ∧ Drawn0 w w')
    case atStart => exact ⟨(0), (by first | rfl | (simp; done) | (simp [*]; done)), H', ⟨Nat.le_refl _⟩, by repeat (first | exact Drawn0.refl _ | apply Drawn0.step)⟩
    case round =>
      clear H'
      try clear c2
      try clear c2b0
      try clear c2b1
      try clear p2
      obtain ⟨x3_1, rfl, HA, HK1, ⟨m1, rfl⟩⟩ := hrel
      cases gk with
      | zero => exact absurd HA.out (by simp [spec_IsName.l0])
      | succ k1 =>
        have H := HA.out
        clear HA
        simp only [spec_IsName.l0] at H
        by_cases c3 : x3_1 < (a0.size : Int)
        · rw [if_pos c3] at H
          have c3b0 : decide (x3_1 < (a0.size : Int)) = true := decide_eq_true c3
          clear c3
          by_cases c4 : 0 ≤ x3_1
          · rw [if_pos c4] at H
            have c4b0 := eq_true c4
            have c4b1 : decide (0 ≤ x3_1) = true := decide_eq_true c4
            clear c4
            by_cases c5 : x3_1 ≤ (a0.size : Int)
            · rw [if_pos c5] at H
              have c5b0 := eq_true c5
              have c5b1 : decide (x3_1 ≤ (a0.size : Int)) = true := decide_eq_true c5
              clear c5
              replace H := Option.bind_eq_some_iff.mp H
              obtain ⟨t104, A60, H⟩ := H
              replace H : (if t104 = 0 then (some false) else (spec_IsName.l0 k1 a0 (wrap64 (x3_1 + t104)))) = some r := H
              have A6 := Aside0.mk A60
              clear A60
              by_cases c7 : t104 = 0
              · rw [if_pos c7] at H
                have c7b0 : (t104 == 0) = true := beq_iff_eq.mpr c7
                have c7b1 : (t104 != 0) = false := bne_eq_false_iff_eq.mpr c7
                clear c7
                obtain rfl := Option.some.inj H
                go_wp2_with (first | ((with_reducible refine gate_callee (f := 28) rfl ?_); refine goesL_ (some 16) rfl rfl Tryz.func28 (by kernel_rfl) rfl #[.string (a0.extract (x3_1 : Int).toNat a0.size), .bool (x3_1 == 0)] rfl (by (try simp only [List.map_toArray, List.map_cons, List.map_nil]); first | done | rfl | (simp only [List.length_drop, List.length_take]; rfl)) ?_; (with_reducible refine (spec_skipped.calls k1 (a0.extract (x3_1 : Int).toNat a0.size) (x3_1 == 0) t104 _ A6.out).mono ?_); rintro e w' ⟨rfl, ⟨nd, rfl⟩⟩; refine ⟨_, rfl, ?_⟩))
                go_ret
                exact ⟨by first | rfl | (simp; done) | (simp [*]; done), by repeat (first | exact Drawn0.refl _ | apply Drawn0.step)⟩
              · rw [if_neg c7] at H
                have c7b0 : (t104 == 0) = false := beq_eq_false_iff_ne.mpr c7
                have c7b1 : (t104 != 0) = true := bne_iff_ne.mpr c7
                have H' := Aside0.mk H
                clear H
                go_wp2_with (first | ((with_reducible refine gate_callee (f := 28) rfl ?_); refine goesL_ (some 16) rfl rfl Tryz.func28 (by kernel_rfl) rfl #[.string (a0.extract (x3_1 : Int).toNat a0.size), .bool (x3_1 == 0)] rfl (by (try simp only [List.map_toArray, List.map_cons, List.map_nil]); first | done | rfl | (simp only [List.length_drop, List.length_take]; rfl)) ?_; (with_reducible refine (spec_skipped.calls k1 (a0.extract (x3_1 : Int).toNat a0.size) (x3_1 == 0) t104 _ A6.out).mono ?_); rintro e w' ⟨rfl, ⟨nd, rfl⟩⟩; refine ⟨_, rfl, ?_⟩))
                go_roundg k1
                case measure => have := HK1.out; omega
                case rel => exact ⟨(wrap64 (x3_1 + t104)), (by first | rfl | (simp; done) | (simp [*]; done)), H', ⟨by have := HK1.out; omega⟩, by repeat (first | exact Drawn0.refl _ | apply Drawn0.step)⟩
            · rw [if_neg c5] at H
              exact absurd H (by simp)
          · rw [if_neg c4] at H
            exact absurd H (by simp)
        · rw [if_neg c3] at H
          have c3b0 : decide (x3_1 < (a0.size : Int)) = false := decide_eq_false c3
          clear c3
          obtain rfl := Option.some.inj H
          go_wp2
          go_ret
          exact ⟨by first | rfl | (simp; done) | (simp [*]; done), by repeat (first | exact Drawn0.refl _ | apply Drawn0.step)⟩

/-! ### spec_IsMark: function 38 -/
def spec_IsMark.l0 : Nat → ByteArray → Int → Option (Bool)
  | 0, _, _ => none
  | k + 1, x0, x4 => if x4 < 24 then (if 0 ≤ x4 then (if x4 ≤ (wrap64 (x4 + 1)) then (if (wrap64 (x4 + 1)) ≤ 24 then (if x0.toList = ((⟨#[43, 45, 42, 37, 38, 124, 94, 126, 40, 41, 91, 93, 123, 125, 44, 59, 58, 36, 33, 61, 60, 62, 64, 63]⟩ : ByteArray).extract (x4 : Int).toNat ((wrap64 (x4 + 1)) : Int).toNat).toList then (some true) else (spec_IsMark.l0 k x0 (wrap64 (x4 + 1)))) else (none)) else (none)) else (none)) else (some false)
def spec_IsMark.f (k : Nat) (a0 : ByteArray) : Option (Bool) := spec_IsMark.l0 k a0 0
theorem spec_IsMark.mono_l : ∀ k, (∀ y0 y1, LeO (spec_IsMark.l0 k y0 y1) (spec_IsMark.l0 (k + 1) y0 y1))
  | 0 => fun _ _ r h => by simp [spec_IsMark.l0] at h
  | k + 1 => by
    have ih0 := spec_IsMark.mono_l k
    · intro y0 y1
      unfold spec_IsMark.l0
      repeat' first
      | (with_reducible exact ih0 _ _)
      | (with_reducible exact LeO.refl _)
      | (with_reducible exact LeO.none _)
      | (with_reducible refine LeO.ite ?_ ?_)
      | (with_reducible refine LeO.bind ?_ (fun _ => ?_))
      | exact ih0 _ _
      | exact LeO.none _
      | refine LeO.ite ?_ ?_
      | refine LeO.bind ?_ (fun _ => ?_)
theorem spec_IsMark.mono : ∀ a0 k, LeO (spec_IsMark.f k a0) (spec_IsMark.f (k + 1) a0) := by
  intro a0 k
  have ih0 := spec_IsMark.mono_l k
  unfold spec_IsMark.f
  repeat' first
      | (with_reducible exact ih0 _ _)
      | (with_reducible exact LeO.refl _)
      | (with_reducible exact LeO.none _)
      | (with_reducible refine LeO.ite ?_ ?_)
      | (with_reducible refine LeO.bind ?_ (fun _ => ?_))
      | exact ih0 _ _
      | exact LeO.none _
      | refine LeO.ite ?_ ?_
      | refine LeO.bind ?_ (fun _ => ?_)
set_option maxHeartbeats 8000000 in
set_option maxRecDepth 100000 in
theorem spec_IsMark.calls (k : Nat) (a0 : ByteArray) (r : Bool) (w : World) (h : spec_IsMark.f k a0 = some r) :
    Calls Tryz.prog 38 #[.string a0] w fun e w' => e = .returned (.bool r) ∧ Drawn0 w w' := by
  have H : (spec_IsMark.l0 k a0 0) = some r := h
  clear h
  have H' := Aside0.mk H
  clear H
  go_enter Tryz.func38, Tryz.ntmps38
  go_wp2
  go_loopg [4] k (fun kq v4 w' => ∃ (x4_1 : Int), v4 = .int .i64 x4_1 ∧ Aside0 (spec_IsMark.l0 kq a0 x4_1 = some r) ∧ Aside0 (kq ≤ k) ∧ Drawn0 w w')
  case atStart => exact ⟨(0), (by first | rfl | (simp; done) | (simp [*]; done)), H', ⟨Nat.le_refl _⟩, by repeat (first | exact Drawn0.refl _ | apply Drawn0.step)⟩
  case round =>
    clear H'
    obtain ⟨x4_1, rfl, HA, HK1, ⟨m1, rfl⟩⟩ := hrel
    cases gk with
    | zero => exact absurd HA.out (by simp [spec_IsMark.l0])
    | succ k1 =>
      have H := HA.out
      clear HA
      simp only [spec_IsMark.l0] at H
      by_cases c2 : x4_1 < 24
      · rw [if_pos c2] at H
        have c2b0 : decide (x4_1 < 24) = true := decide_eq_true c2
        clear c2
        by_cases c3 : 0 ≤ x4_1
        · rw [if_pos c3] at H
          have c3b0 := eq_true c3
          have c3b1 : decide (0 ≤ x4_1) = true := decide_eq_true c3
          clear c3
          by_cases c4 : x4_1 ≤ (wrap64 (x4_1 + 1))
          · rw [if_pos c4] at H
            have c4b0 := eq_true c4
            have c4b1 : decide (x4_1 ≤ (wrap64 (x4_1 + 1))) = true := decide_eq_true c4
            by_cases c5 : (wrap64 (x4_1 + 1)) ≤ 24
            · rw [if_pos c5] at H
              have c5b0 := eq_true c5
              have c5b1 : decide ((wrap64 (x4_1 + 1)) ≤ 24) = true := decide_eq_true c5
              by_cases c6 : a0.toList = ((⟨#[43, 45, 42, 37, 38, 124, 94, 126, 40, 41, 91, 93, 123, 125, 44, 59, 58, 36, 33, 61, 60, 62, 64, 63]⟩ : ByteArray).extract (x4_1 : Int).toNat ((wrap64 (x4_1 + 1)) : Int).toNat).toList
              · rw [if_pos c6] at H
                have c6b0 : (a0.toList == ((⟨#[43, 45, 42, 37, 38, 124, 94, 126, 40, 41, 91, 93, 123, 125, 44, 59, 58, 36, 33, 61, 60, 62, 64, 63]⟩ : ByteArray).extract (x4_1 : Int).toNat ((wrap64 (x4_1 + 1)) : Int).toNat).toList) = true := beq_iff_eq.mpr c6
                have c6b1 : (a0.toList != ((⟨#[43, 45, 42, 37, 38, 124, 94, 126, 40, 41, 91, 93, 123, 125, 44, 59, 58, 36, 33, 61, 60, 62, 64, 63]⟩ : ByteArray).extract (x4_1 : Int).toNat ((wrap64 (x4_1 + 1)) : Int).toNat).toList) = false := bne_eq_false_iff_eq.mpr c6
                clear c6
                obtain rfl := Option.some.inj H
                go_wp2
                go_ret
                exact ⟨by first | rfl | (simp; done) | (simp [*]; done), by repeat (first | exact Drawn0.refl _ | apply Drawn0.step)⟩
              · rw [if_neg c6] at H
                have c6b0 : (a0.toList == ((⟨#[43, 45, 42, 37, 38, 124, 94, 126, 40, 41, 91, 93, 123, 125, 44, 59, 58, 36, 33, 61, 60, 62, 64, 63]⟩ : ByteArray).extract (x4_1 : Int).toNat ((wrap64 (x4_1 + 1)) : Int).toNat).toList) = false := beq_eq_false_iff_ne.mpr c6
                have c6b1 : (a0.toList != ((⟨#[43, 45, 42, 37, 38, 124, 94, 126, 40, 41, 91, 93, 123, 125, 44, 59, 58, 36, 33, 61, 60, 62, 64, 63]⟩ : ByteArray).extract (x4_1 : Int).toNat ((wrap64 (x4_1 + 1)) : Int).toNat).toList) = true := bne_iff_ne.mpr c6
                have H' := Aside0.mk H
                clear H
                go_wp2
                go_roundg k1
                case measure => have := HK1.out; omega
                case rel => exact ⟨(wrap64 (x4_1 + 1)), (by first | rfl | (simp; done) | (simp [*]; done)), H', ⟨by have := HK1.out; omega⟩, by repeat (first | exact Drawn0.refl _ | apply Drawn0.step)⟩
            · rw [if_neg c5] at H
              exact absurd H (by simp)
          · rw [if_neg c4] at H
            exact absurd H (by simp)
        · rw [if_neg c3] at H
          exact absurd H (by simp)
      · rw [if_neg c2] at H
        have c2b0 : decide (x4_1 < 24) = false := decide_eq_false c2
        clear c2
        obtain rfl := Option.some.inj H
        go_wp2
        go_ret
        exact ⟨by first | rfl | (simp; done) | (simp [*]; done), by repeat (first | exact Drawn0.refl _ | apply Drawn0.step)⟩

end Go.Proofs.YtpoimmpdncickaaGreatDoor.PHelp
