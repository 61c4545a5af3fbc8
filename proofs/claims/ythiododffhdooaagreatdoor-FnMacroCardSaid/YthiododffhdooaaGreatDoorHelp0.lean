/- What the printed parts share: the kinds of the structs and the comparison of tokens (by the kit's print, cut out by gen_help.py). -/
import Derived.Test.YthiododffhdooaaGreatDoorProg
import Derived.Below
import Derived.Deep.Draws
import Derived.Deep.AppendLies
import Derived.Maps.AppendAt
import Derived.OwnWalk
import Derived.Laws.BytesArg
import Derived.Laws.MakeOwn
import Derived.Laws.OwnMore
import Derived.Deep.OwnRows
import Derived.Tactics
import Derived.Lib.ConvBytes
import Derived.Laws.Slices
import Derived.WalkKit
import Derived.KernelRfl
import Derived.RowKit3
import Derived.Deep.LoopGhost
import Derived.Deep.QuietTactic
import Derived.BigQuiet
import Derived.WideLaws
import Derived.Deep.DeepCutAuto
import Derived.Deep.CutBlock
import Derived.Deep.RegionHeld3
import Derived.Laws.Rows
import Derived.Lib.AppendStr
import Derived.ArgAppend
import Derived.Laws.IdiomCopy
import Derived.OrdersHeld
import Derived.Laws.BitsLemmas
import Derived.RowKit
import Derived.Test.YthiododffhdooaaGreatDoorWWords
import Derived.Test.YthiododffhdooaaGreatDoorWLast
import Derived.Test.YthiododffhdooaaGreatDoorWApart
import Derived.Test.YthiododffhdooaaGreatDoorWFoot
import Derived.Test.YthiododffhdooaaGreatDoorWKept
import Derived.Test.YthiododffhdooaaGreatDoorWShare
import Derived.Test.YthiododffhdooaaGreatDoorWN
import Derived.Test.YthiododffhdooaaGreatDoorWEqStruct
import Derived.Test.YthiododffhdooaaGreatDoorWRepsOne
import Derived.Test.YthiododffhdooaaGreatDoorWMore
namespace Go.Proofs.YthiododffhdooaaGreatDoor.PHelp
open Go.RowKit Go.Proofs.YthiododffhdooaaGreatDoorW.PrintWords Go.Proofs.YthiododffhdooaaGreatDoorW.PrintLast Go.Proofs.YthiododffhdooaaGreatDoorW.PrintMore
attribute [local go_sem] max2_int min2_int max_two min_two max_three min_three max_four min_four   -- for this text's walks alone
set_option linter.unusedVariables false
set_option linter.unusedSimpArgs false



def errW : Option Int → Value
  | none => .nilIface
  | some c => .iface 207 (.int .i64 c)
theorem errW_none : errW none = .nilIface := rfl
theorem errW_some (c : Int) : errW (some c) = .iface 207 (.int .i64 c) := rfl

theorem info5 : (Tryz.prog.info? 5).map (fun i => (i.zero, i.size, i.bytes)) = some (some (.int .u8 0), 1, 1) := by kernel_rfl
theorem info36 : (Tryz.prog.info? 36).map (fun i => (i.zero, i.size, i.bytes)) = some (some (.agg #[(.string ⟨#[]⟩), (.string ⟨#[]⟩)]), 2, 32) := by kernel_rfl
theorem info56 : (Tryz.prog.info? 56).map (fun i => (i.zero, i.size, i.bytes)) = some (some (.agg #[(.int .i64 0), (.string ⟨#[]⟩)]), 2, 24) := by kernel_rfl
-- the values' own types
/-! #### struct type 152 -/
structure S152 where
  f0 : Int
  f1 : Int
  f2 : Int
def z152 : S152 := ⟨(0 : Int), (0 : Int), (0 : Int)⟩
def k152 : Kd S152 := Kd.iso (Kd.pair (Kd.int .u16) (Kd.pair (Kd.int .u16) (Kd.int .u16))) (fun x : S152 => (x.f0, x.f1, x.f2))
theorem k152_open {w : World} {x : S152} {cs : List Value} (h : k152.K w x cs) : cs = [.int .u16 x.f0, .int .u16 x.f1, .int .u16 x.f2] := by
  obtain ⟨_, _, rfl, rfl, ⟨_, _, rfl, rfl, rfl⟩⟩ := h
  exact rfl
theorem k152_openM {w : World} {base : Nat} {ok : Nat → Prop} {x : S152} {cs : List Value} (h : k152.M w base ok x cs) : cs = [.int .u16 x.f0, .int .u16 x.f1, .int .u16 x.f2] := by
  obtain ⟨_, _, rfl, rfl, ⟨_, _, rfl, rfl, rfl⟩⟩ := h
  exact rfl
theorem k152_mk (w : World) (x : S152)  : k152.K w x [.int .u16 x.f0, .int .u16 x.f1, .int .u16 x.f2] := ⟨[.int .u16 x.f0], [.int .u16 x.f1, .int .u16 x.f2], rfl, rfl, ⟨[.int .u16 x.f1], [.int .u16 x.f2], rfl, rfl, rfl⟩⟩
theorem k152_mkM (w : World) (base : Nat) (ok : Nat → Prop) (x : S152)  : k152.M w base ok x [.int .u16 x.f0, .int .u16 x.f1, .int .u16 x.f2] := ⟨[.int .u16 x.f0], [.int .u16 x.f1, .int .u16 x.f2], rfl, rfl, ⟨[.int .u16 x.f1], [.int .u16 x.f2], rfl, rfl, rfl⟩⟩
def rd_T152 (xs : List S152) (i : Int) : S152 := xs.getD i.toNat z152
theorem at_T152 {w : World} {A : Option Addr} {n : Nat} {xs : List S152} (h : Kd.C k152 w A n xs) (i : Int) (h0 : 0 ≤ i) (h1 : i < n) : ∃ ad , A = some ad ∧ w.cell? (ad.add (i.toNat * 3)) = some (.int .u16 (rd_T152 xs i).f0) ∧ w.cell? ⟨(ad.add (i.toNat * 3)).block, (ad.add (i.toNat * 3)).off + 1, none⟩ = some (.int .u16 (rd_T152 xs i).f1) ∧ w.cell? ⟨(ad.add (i.toNat * 3)).block, (ad.add (i.toNat * 3)).off + 2, none⟩ = some (.int .u16 (rd_T152 xs i).f2) := by
  obtain ⟨ad, c, e, _, hK, hc0⟩ := Kd.C_get h z152 i h0 h1
  have hc : ∀ j u, c[j]? = some u → w.cell? (ad.add (i.toNat * 3 + j)) = some u := hc0
  obtain rfl := k152_open hK
  exact ⟨ad, e, hc 0 _ rfl, by rw [← add_field _ _ 1 (by omega)]; exact hc 1 _ rfl, by rw [← add_field _ _ 2 (by omega)]; exact hc 2 _ rfl⟩

/-! #### struct type 155 -/
structure S155 where
  f0 : Int
  f1 : Int
  f2 : Int
def z155 : S155 := ⟨(0 : Int), (0 : Int), (0 : Int)⟩
def k155 : Kd S155 := Kd.iso (Kd.pair (Kd.int .u32) (Kd.pair (Kd.int .u32) (Kd.int .u32))) (fun x : S155 => (x.f0, x.f1, x.f2))
theorem k155_open {w : World} {x : S155} {cs : List Value} (h : k155.K w x cs) : cs = [.int .u32 x.f0, .int .u32 x.f1, .int .u32 x.f2] := by
  obtain ⟨_, _, rfl, rfl, ⟨_, _, rfl, rfl, rfl⟩⟩ := h
  exact rfl
theorem k155_openM {w : World} {base : Nat} {ok : Nat → Prop} {x : S155} {cs : List Value} (h : k155.M w base ok x cs) : cs = [.int .u32 x.f0, .int .u32 x.f1, .int .u32 x.f2] := by
  obtain ⟨_, _, rfl, rfl, ⟨_, _, rfl, rfl, rfl⟩⟩ := h
  exact rfl
theorem k155_mk (w : World) (x : S155)  : k155.K w x [.int .u32 x.f0, .int .u32 x.f1, .int .u32 x.f2] := ⟨[.int .u32 x.f0], [.int .u32 x.f1, .int .u32 x.f2], rfl, rfl, ⟨[.int .u32 x.f1], [.int .u32 x.f2], rfl, rfl, rfl⟩⟩
theorem k155_mkM (w : World) (base : Nat) (ok : Nat → Prop) (x : S155)  : k155.M w base ok x [.int .u32 x.f0, .int .u32 x.f1, .int .u32 x.f2] := ⟨[.int .u32 x.f0], [.int .u32 x.f1, .int .u32 x.f2], rfl, rfl, ⟨[.int .u32 x.f1], [.int .u32 x.f2], rfl, rfl, rfl⟩⟩
def rd_T155 (xs : List S155) (i : Int) : S155 := xs.getD i.toNat z155
theorem at_T155 {w : World} {A : Option Addr} {n : Nat} {xs : List S155} (h : Kd.C k155 w A n xs) (i : Int) (h0 : 0 ≤ i) (h1 : i < n) : ∃ ad , A = some ad ∧ w.cell? (ad.add (i.toNat * 3)) = some (.int .u32 (rd_T155 xs i).f0) ∧ w.cell? ⟨(ad.add (i.toNat * 3)).block, (ad.add (i.toNat * 3)).off + 1, none⟩ = some (.int .u32 (rd_T155 xs i).f1) ∧ w.cell? ⟨(ad.add (i.toNat * 3)).block, (ad.add (i.toNat * 3)).off + 2, none⟩ = some (.int .u32 (rd_T155 xs i).f2) := by
  obtain ⟨ad, c, e, _, hK, hc0⟩ := Kd.C_get h z155 i h0 h1
  have hc : ∀ j u, c[j]? = some u → w.cell? (ad.add (i.toNat * 3 + j)) = some u := hc0
  obtain rfl := k155_open hK
  exact ⟨ad, e, hc 0 _ rfl, by rw [← add_field _ _ 1 (by omega)]; exact hc 1 _ rfl, by rw [← add_field _ _ 2 (by omega)]; exact hc 2 _ rfl⟩

/-! #### struct type 36 -/
structure S36 where
  f0 : ByteArray
  f1 : ByteArray
def z36 : S36 := ⟨(⟨#[]⟩ : ByteArray), (⟨#[]⟩ : ByteArray)⟩
def k36 : Kd S36 := Kd.iso (Kd.pair Kd.string Kd.string) (fun x : S36 => (x.f0, x.f1))
theorem k36_open {w : World} {x : S36} {cs : List Value} (h : k36.K w x cs) : cs = [.string x.f0, .string x.f1] := by
  obtain ⟨_, _, rfl, rfl, rfl⟩ := h
  exact rfl
theorem k36_openM {w : World} {base : Nat} {ok : Nat → Prop} {x : S36} {cs : List Value} (h : k36.M w base ok x cs) : cs = [.string x.f0, .string x.f1] := by
  obtain ⟨_, _, rfl, rfl, rfl⟩ := h
  exact rfl
theorem k36_mk (w : World) (x : S36)  : k36.K w x [.string x.f0, .string x.f1] := ⟨[.string x.f0], [.string x.f1], rfl, rfl, rfl⟩
theorem k36_mkM (w : World) (base : Nat) (ok : Nat → Prop) (x : S36)  : k36.M w base ok x [.string x.f0, .string x.f1] := ⟨[.string x.f0], [.string x.f1], rfl, rfl, rfl⟩
def rd_T36 (xs : List S36) (i : Int) : S36 := xs.getD i.toNat z36
theorem at_T36 {w : World} {A : Option Addr} {n : Nat} {xs : List S36} (h : Kd.C k36 w A n xs) (i : Int) (h0 : 0 ≤ i) (h1 : i < n) : ∃ ad , A = some ad ∧ w.cell? (ad.add (i.toNat * 2)) = some (.string (rd_T36 xs i).f0) ∧ w.cell? ⟨(ad.add (i.toNat * 2)).block, (ad.add (i.toNat * 2)).off + 1, none⟩ = some (.string (rd_T36 xs i).f1) := by
  obtain ⟨ad, c, e, _, hK, hc0⟩ := Kd.C_get h z36 i h0 h1
  have hc : ∀ j u, c[j]? = some u → w.cell? (ad.add (i.toNat * 2 + j)) = some u := hc0
  obtain rfl := k36_open hK
  exact ⟨ad, e, hc 0 _ rfl, by rw [← add_field _ _ 1 (by omega)]; exact hc 1 _ rfl⟩

/-! #### struct type 56 -/
structure S56 where
  f0 : Int
  f1 : ByteArray
def z56 : S56 := ⟨(0 : Int), (⟨#[]⟩ : ByteArray)⟩
def k56 : Kd S56 := Kd.iso (Kd.pair (Kd.int .i64) Kd.string) (fun x : S56 => (x.f0, x.f1))
theorem k56_open {w : World} {x : S56} {cs : List Value} (h : k56.K w x cs) : cs = [.int .i64 x.f0, .string x.f1] := by
  obtain ⟨_, _, rfl, rfl, rfl⟩ := h
  exact rfl
theorem k56_openM {w : World} {base : Nat} {ok : Nat → Prop} {x : S56} {cs : List Value} (h : k56.M w base ok x cs) : cs = [.int .i64 x.f0, .string x.f1] := by
  obtain ⟨_, _, rfl, rfl, rfl⟩ := h
  exact rfl
theorem k56_mk (w : World) (x : S56)  : k56.K w x [.int .i64 x.f0, .string x.f1] := ⟨[.int .i64 x.f0], [.string x.f1], rfl, rfl, rfl⟩
theorem k56_mkM (w : World) (base : Nat) (ok : Nat → Prop) (x : S56)  : k56.M w base ok x [.int .i64 x.f0, .string x.f1] := ⟨[.int .i64 x.f0], [.string x.f1], rfl, rfl, rfl⟩
def rd_T56 (xs : List S56) (i : Int) : S56 := xs.getD i.toNat z56
theorem at_T56 {w : World} {A : Option Addr} {n : Nat} {xs : List S56} (h : Kd.C k56 w A n xs) (i : Int) (h0 : 0 ≤ i) (h1 : i < n) : ∃ ad , A = some ad ∧ w.cell? (ad.add (i.toNat * 2)) = some (.int .i64 (rd_T56 xs i).f0) ∧ w.cell? ⟨(ad.add (i.toNat * 2)).block, (ad.add (i.toNat * 2)).off + 1, none⟩ = some (.string (rd_T56 xs i).f1) := by
  obtain ⟨ad, c, e, _, hK, hc0⟩ := Kd.C_get h z56 i h0 h1
  have hc : ∀ j u, c[j]? = some u → w.cell? (ad.add (i.toNat * 2 + j)) = some u := hc0
  obtain rfl := k56_open hK
  exact ⟨ad, e, hc 0 _ rfl, by rw [← add_field _ _ 1 (by omega)]; exact hc 1 _ rfl⟩


theorem eqA56 (d : Nat) (w : World) (x0 y0 : Int) (x1 y1 : ByteArray) :
    (Op.equalIn (d + 2) 56 (.agg #[.int .i64 x0, .string x1]) (.agg #[.int .i64 y0, .string y1])).run Tryz.prog w = .ok (x0 == y0 && (x1.toList == y1.toList)) w := by
  refine eqA_of Tryz.underlying56 (by kernel_rfl) ?_
  refine eqf_cons (by rfl) (by go_simp; rfl) (by go_simp; rfl) (by go_simp) ?_
  exact eqf_last (by rfl) (by go_simp; rfl) (by go_simp; rfl) (by go_simp)
end Go.Proofs.YthiododffhdooaaGreatDoor.PHelp
