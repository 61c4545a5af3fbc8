/- What the printed parts share: the kinds of the structs and the comparison of tokens (by the kit's print, cut out by gen_help.py). -/
import Derived.Test.YtkoeeolmbhobkaaGreatDoorProg
import Derived.Below
import Derived.Deep.Draws
import Derived.Deep.AppendLies
import Derived.Maps.AppendAt
import Derived.OwnWalk
import Derived.Laws.BytesArg
import Derived.Laws.MakeOwn
import Derived.Laws.OwnMore
import Derived.Deep.OwnRows
import Derived.Tactics
import Derived.Lib.ConvBytes
import Derived.Laws.Slices
import Derived.WalkKit
import Derived.KernelRfl
import Derived.RowKit3
import Derived.Deep.LoopGhost
import Derived.Deep.QuietTactic
import Derived.BigQuiet
import Derived.WideLaws
import Derived.Deep.DeepCutAuto
import Derived.Deep.CutBlock
import Derived.Deep.RegionHeld3
import Derived.Laws.Rows
import Derived.Lib.AppendStr
import Derived.ArgAppend
import Derived.Laws.IdiomCopy
import Derived.OrdersHeld
import Derived.Laws.BitsLemmas
import Derived.RowKit
import Derived.Test.YtkoeeolmbhobkaaGreatDoorWWords
import Derived.Test.YtkoeeolmbhobkaaGreatDoorWLast
import Derived.Test.YtkoeeolmbhobkaaGreatDoorWApart
import Derived.Test.YtkoeeolmbhobkaaGreatDoorWFoot
import Derived.Test.YtkoeeolmbhobkaaGreatDoorWKept
import Derived.Test.YtkoeeolmbhobkaaGreatDoorWShare
import Derived.Test.YtkoeeolmbhobkaaGreatDoorWN
import Derived.Test.YtkoeeolmbhobkaaGreatDoorWEqStruct
import Derived.Test.YtkoeeolmbhobkaaGreatDoorWRepsOne
import Derived.Test.YtkoeeolmbhobkaaGreatDoorWMore
namespace Go.Proofs.YtkoeeolmbhobkaaGreatDoor.PHelp
open Go.RowKit Go.Proofs.YtkoeeolmbhobkaaGreatDoorW.PrintWords Go.Proofs.YtkoeeolmbhobkaaGreatDoorW.PrintLast Go.Proofs.YtkoeeolmbhobkaaGreatDoorW.PrintMore
attribute [local go_sem] max2_int min2_int max_two min_two max_three min_three max_four min_four   -- for this text's walks alone
set_option linter.unusedVariables false
set_option linter.unusedSimpArgs false



def errW : Option Int → Value
  | none => .nilIface
  | some c => .iface 237 (.int .i64 c)
theorem errW_none : errW none = .nilIface := rfl
theorem errW_some (c : Int) : errW (some c) = .iface 237 (.int .i64 c) := rfl

theorem info5 : (Tryz.prog.info? 5).map (fun i => (i.zero, i.size, i.bytes)) = some (some (.int .u8 0), 1, 1) := by kernel_rfl
theorem info71 : (Tryz.prog.info? 71).map (fun i => (i.zero, i.size, i.bytes)) = some (some (.agg #[(.int .i64 0), (.string ⟨#[]⟩)]), 2, 24) := by kernel_rfl
-- the values' own types
/-! #### struct type 48 -/
/-! #### struct type 183 -/
/-! #### struct type 186 -/
/-! #### struct type 51 -/
structure S51 where
  f0 : ByteArray
  f1 : ByteArray
def k51 : Kd S51 := Kd.iso (Kd.pair Kd.string Kd.string) (fun x : S51 => (x.f0, x.f1))
theorem k51_mkM (w : World) (base : Nat) (ok : Nat → Prop) (x : S51)  : k51.M w base ok x [.string x.f0, .string x.f1] := ⟨[.string x.f0], [.string x.f1], rfl, rfl, rfl⟩
/-! #### struct type 71 -/
structure S71 where
  f0 : Int
  f1 : ByteArray
def z71 : S71 := ⟨(0 : Int), (⟨#[]⟩ : ByteArray)⟩
def k71 : Kd S71 := Kd.iso (Kd.pair (Kd.int .i64) Kd.string) (fun x : S71 => (x.f0, x.f1))
theorem k71_open {w : World} {x : S71} {cs : List Value} (h : k71.K w x cs) : cs = [.int .i64 x.f0, .string x.f1] := by
  obtain ⟨_, _, rfl, rfl, rfl⟩ := h
  exact rfl
theorem k71_mkM (w : World) (base : Nat) (ok : Nat → Prop) (x : S71)  : k71.M w base ok x [.int .i64 x.f0, .string x.f1] := ⟨[.int .i64 x.f0], [.string x.f1], rfl, rfl, rfl⟩
def rd_T71 (xs : List S71) (i : Int) : S71 := xs.getD i.toNat z71
theorem at_T71 {w : World} {A : Option Addr} {n : Nat} {xs : List S71} (h : Kd.C k71 w A n xs) (i : Int) (h0 : 0 ≤ i) (h1 : i < n) : ∃ ad , A = some ad ∧ w.cell? (ad.add (i.toNat * 2)) = some (.int .i64 (rd_T71 xs i).f0) ∧ w.cell? ⟨(ad.add (i.toNat * 2)).block, (ad.add (i.toNat * 2)).off + 1, none⟩ = some (.string (rd_T71 xs i).f1) := by
  obtain ⟨ad, c, e, _, hK, hc0⟩ := Kd.C_get h z71 i h0 h1
  have hc : ∀ j u, c[j]? = some u → w.cell? (ad.add (i.toNat * 2 + j)) = some u := hc0
  obtain rfl := k71_open hK
  exact ⟨ad, e, hc 0 _ rfl, by rw [← add_field _ _ 1 (by omega)]; exact hc 1 _ rfl⟩


theorem eqA71 (d : Nat) (w : World) (x0 y0 : Int) (x1 y1 : ByteArray) :
    (Op.equalIn (d + 2) 71 (.agg #[.int .i64 x0, .string x1]) (.agg #[.int .i64 y0, .string y1])).run Tryz.prog w = .ok (x0 == y0 && (x1.toList == y1.toList)) w := by
  refine eqA_of Tryz.underlying71 (by kernel_rfl) ?_
  refine eqf_cons (by rfl) (by go_simp; rfl) (by go_simp; rfl) (by go_simp) ?_
  exact eqf_last (by rfl) (by go_simp; rfl) (by go_simp; rfl) (by go_simp)
end Go.Proofs.YtkoeeolmbhobkaaGreatDoor.PHelp
