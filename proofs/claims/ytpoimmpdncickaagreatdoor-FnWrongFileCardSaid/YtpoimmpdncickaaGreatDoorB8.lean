/- The input: macros taken away, conditions, files that are included. -/
import Derived.Test.YtpoimmpdncickaaGreatDoorJ8
import Derived.OwnWalk
import Derived.BigQuiet
import Derived.Test.YtpoimmpdncickaaGreatDoorJ6
import Derived.Test.YtpoimmpdncickaaGreatDoorJ1
import Derived.Shelf.Path.Join
import Derived.Lib.JoinSame2
import Derived.Lib.CleanSame2
import Derived.Deep.RegionHeld3
import Derived.Deep.DeepCutAuto
/- The directives, through hash: what each calls is a premise. -/
namespace Go.Proofs.YtpoimmpdncickaaGreatDoor
open Go Go.RowKit Lex
set_option linter.unusedVariables false
set_option linter.unusedSimpArgs false

def kwUndef : Bs := [117, 110, 100, 101, 102]
def kwIfdef : Bs := [105, 102, 100, 101, 102]
def kwIfndef : Bs := [105, 102, 110, 100, 101, 102]
def kwElse : Bs := [101, 108, 115, 101]
def kwEndif : Bs := [101, 110, 100, 105, 102]
def kwInclude : Bs := [105, 110, 99, 108, 117, 100, 101]

/-- What a directive leaves. -/
def HZ (B : Nat) (bl : Bool) (v : Value) (Z : World → Prop) (w : World) (e : Ending) (w' : World) : Prop := e = .returned v ∧ Z w' ∧ Soft B bl w w'

section
variable {w w' : World} {B ib : Nat} {C : Cfg} {mn : Nat} {mac : Bs → Option Mc} {ifs : List Bool} {bol : Bool} {text : Bs} {ev : Value} {Z : World → Prop}

set_option maxRecDepth 100000 in
set_option maxHeartbeats 2000000 in
theorem hash_undef_on {dead rest : List Ab} {a : Ab} {kt : Tok} {R : List Tok} (h : Inp w B ib C (dead ++ a :: rest) mn mac ifs bol text) (hon : onB ifs = true) (hil : ifs.length < 1000) (hd : ∀ d ∈ dead, d.ts = []) (hats : a.ts = kt :: R) (hkk : kt.k = -2) (hkx : kt.x = kwUndef) (hC : C.lim ≤ w.heap.size) (hg : Glob w ev) (hB : 21 ≤ B) (hl : (dead ++ a :: rest).length < 500)
    (hcall : ∀ w1, Inp w1 B ib C ({ a with cur := kt, ts := R } :: rest) mn mac ifs bol text → C.lim ≤ w1.heap.size → Glob w1 ev → Calls Tryz.prog 73 #[.pointer (some ⟨ib, 0, none⟩)] w1 (HZ B C.bl (.tuple #[]) Z w1)) :
    Calls Tryz.prog 51 #[.pointer (some ⟨ib, 0, none⟩)] w (HZ B C.bl (.bool true) Z w) := by
  have Hn := Lib.hid (inNext h hd (t := kt) (ts := R) hats hg hB hl)
  rw [hkk] at Hn
  have hl2 : ({ a with cur := kt, ts := R } :: rest : List Ab).length < 500 := by simp at hl ⊢; omega
  have Htx := Lib.hid (fun (w1 : World) (h1 : Inp w1 B ib C ({ a with cur := kt, ts := R } :: rest) mn mac ifs bol text) => inText h1 (by show kt.k ≠ 0; rw [hkk]; decide) hl2)
  simp only [hkx] at Htx
  have Hen := Lib.hid (fun (w1 : World) (h1 : Inp w1 B ib C ({ a with cur := kt, ts := R } :: rest) mn mac ifs bol text) => inEnabled h1 hil)
  rw [hon] at Hen
  have Hcall := Lib.hid hcall
  have Hg := Lib.hid hg
  clear h hd hats hkk hkx hg hl hl2 hon hil hcall
  have q_define : ((mkS kwUndef).toList == [100, 101, 102, 105, 110, 101]) = false := by rw [mkS_toList]; decide
  have q_else : ((mkS kwUndef).toList == [101, 108, 115, 101]) = false := by rw [mkS_toList]; decide
  have q_endif : ((mkS kwUndef).toList == [101, 110, 100, 105, 102]) = false := by rw [mkS_toList]; decide
  have q_ifdef : ((mkS kwUndef).toList == [105, 102, 100, 101, 102]) = false := by rw [mkS_toList]; decide
  have q_ifndef : ((mkS kwUndef).toList == [105, 102, 110, 100, 101, 102]) = false := by rw [mkS_toList]; decide
  have q_include : ((mkS kwUndef).toList == [105, 110, 99, 108, 117, 100, 101]) = false := by rw [mkS_toList]; decide
  have q_line : ((mkS kwUndef).toList == [108, 105, 110, 101]) = false := by rw [mkS_toList]; decide
  have q_undef : ((mkS kwUndef).toList == [117, 110, 100, 101, 102]) = true := by rw [mkS_toList]; decide
  go_enter Tryz.func51, Tryz.ntmps51
  go_wp2_with fail
  refine Hn.out.mono ?_
  rintro e w1 ⟨rfl, h1, s1⟩
  have He1 := Lib.hid (Hen.out w1 h1)
  have H1 := Lib.hid h1
  have S1 := Lib.hid s1
  clear h1 s1
  go_wp2_with fail
  refine He1.out.mono ?_
  rintro e w2 ⟨rfl, m2, rfl⟩
  have Ht2 := Lib.hid (Htx.out _ (H1.out.drewN m2))
  have S2 := Lib.hid (S1.out.trans ((Soft.refl B C.bl w1).drewN m2))
  go_wp2_with fail
  refine Ht2.out.mono ?_
  rintro e w3 ⟨rfl, h3, s3⟩
  have Hd3 := Lib.hid (Hcall.out w3 h3 (Nat.le_trans hC (S2.out.trans s3).size) ((S2.out.trans s3).glob Hg.out hB))
  have S3 := Lib.hid (S2.out.trans s3)
  clear h3 s3
  go_wp2_with fail
  refine Hd3.out.mono ?_
  rintro e w4 ⟨rfl, h4, s4⟩
  have Hfin : Hid (HZ B C.bl (.bool true) Z w (.returned (.bool true)) w4) := Lib.hid ⟨rfl, h4, S3.out.trans s4⟩
  clear h4 s4
  go_wp2
  go_ret
  exact Hfin.out

set_option maxRecDepth 100000 in
set_option maxHeartbeats 2000000 in
theorem hash_ifdef_on {dead rest : List Ab} {a : Ab} {kt : Tok} {R : List Tok} (h : Inp w B ib C (dead ++ a :: rest) mn mac ifs bol text) (hon : onB ifs = true) (hil : ifs.length < 1000) (hd : ∀ d ∈ dead, d.ts = []) (hats : a.ts = kt :: R) (hkk : kt.k = -2) (hkx : kt.x = kwIfdef) (hC : C.lim ≤ w.heap.size) (hg : Glob w ev) (hB : 21 ≤ B) (hl : (dead ++ a :: rest).length < 500)
    (hcall : ∀ w1, Inp w1 B ib C ({ a with cur := kt, ts := R } :: rest) mn mac ifs bol text → C.lim ≤ w1.heap.size → Glob w1 ev → Calls Tryz.prog 70 #[.pointer (some ⟨ib, 0, none⟩), .bool true] w1 (HZ B C.bl (.tuple #[]) Z w1)) :
    Calls Tryz.prog 51 #[.pointer (some ⟨ib, 0, none⟩)] w (HZ B C.bl (.bool true) Z w) := by
  have Hn := Lib.hid (inNext h hd (t := kt) (ts := R) hats hg hB hl)
  rw [hkk] at Hn
  have hl2 : ({ a with cur := kt, ts := R } :: rest : List Ab).length < 500 := by simp at hl ⊢; omega
  have Htx := Lib.hid (fun (w1 : World) (h1 : Inp w1 B ib C ({ a with cur := kt, ts := R } :: rest) mn mac ifs bol text) => inText h1 (by show kt.k ≠ 0; rw [hkk]; decide) hl2)
  simp only [hkx] at Htx
  have Hen := Lib.hid (fun (w1 : World) (h1 : Inp w1 B ib C ({ a with cur := kt, ts := R } :: rest) mn mac ifs bol text) => inEnabled h1 hil)
  rw [hon] at Hen
  have Hcall := Lib.hid hcall
  have Hg := Lib.hid hg
  clear h hd hats hkk hkx hg hl hl2 hon hil hcall
  have q_define : ((mkS kwIfdef).toList == [100, 101, 102, 105, 110, 101]) = false := by rw [mkS_toList]; decide
  have q_else : ((mkS kwIfdef).toList == [101, 108, 115, 101]) = false := by rw [mkS_toList]; decide
  have q_endif : ((mkS kwIfdef).toList == [101, 110, 100, 105, 102]) = false := by rw [mkS_toList]; decide
  have q_ifdef : ((mkS kwIfdef).toList == [105, 102, 100, 101, 102]) = true := by rw [mkS_toList]; decide
  have q_ifndef : ((mkS kwIfdef).toList == [105, 102, 110, 100, 101, 102]) = false := by rw [mkS_toList]; decide
  have q_include : ((mkS kwIfdef).toList == [105, 110, 99, 108, 117, 100, 101]) = false := by rw [mkS_toList]; decide
  have q_line : ((mkS kwIfdef).toList == [108, 105, 110, 101]) = false := by rw [mkS_toList]; decide
  have q_undef : ((mkS kwIfdef).toList == [117, 110, 100, 101, 102]) = false := by rw [mkS_toList]; decide
  go_enter Tryz.func51, Tryz.ntmps51
  go_wp2_with fail
  refine Hn.out.mono ?_
  rintro e w1 ⟨rfl, h1, s1⟩
  have He1 := Lib.hid (Hen.out w1 h1)
  have H1 := Lib.hid h1
  have S1 := Lib.hid s1
  clear h1 s1
  go_wp2_with fail
  refine He1.out.mono ?_
  rintro e w2 ⟨rfl, m2, rfl⟩
  have Ht2 := Lib.hid (Htx.out _ (H1.out.drewN m2))
  have S2 := Lib.hid (S1.out.trans ((Soft.refl B C.bl w1).drewN m2))
  go_wp2_with fail
  refine Ht2.out.mono ?_
  rintro e w3 ⟨rfl, h3, s3⟩
  have Hd3 := Lib.hid (Hcall.out w3 h3 (Nat.le_trans hC (S2.out.trans s3).size) ((S2.out.trans s3).glob Hg.out hB))
  have S3 := Lib.hid (S2.out.trans s3)
  clear h3 s3
  go_wp2_with fail
  refine Hd3.out.mono ?_
  rintro e w4 ⟨rfl, h4, s4⟩
  have Hfin : Hid (HZ B C.bl (.bool true) Z w (.returned (.bool true)) w4) := Lib.hid ⟨rfl, h4, S3.out.trans s4⟩
  clear h4 s4
  go_wp2
  go_ret
  exact Hfin.out

set_option maxRecDepth 100000 in
set_option maxHeartbeats 2000000 in
theorem hash_ifndef_on {dead rest : List Ab} {a : Ab} {kt : Tok} {R : List Tok} (h : Inp w B ib C (dead ++ a :: rest) mn mac ifs bol text) (hon : onB ifs = true) (hil : ifs.length < 1000) (hd : ∀ d ∈ dead, d.ts = []) (hats : a.ts = kt :: R) (hkk : kt.k = -2) (hkx : kt.x = kwIfndef) (hC : C.lim ≤ w.heap.size) (hg : Glob w ev) (hB : 21 ≤ B) (hl : (dead ++ a :: rest).length < 500)
    (hcall : ∀ w1, Inp w1 B ib C ({ a with cur := kt, ts := R } :: rest) mn mac ifs bol text → C.lim ≤ w1.heap.size → Glob w1 ev → Calls Tryz.prog 70 #[.pointer (some ⟨ib, 0, none⟩), .bool false] w1 (HZ B C.bl (.tuple #[]) Z w1)) :
    Calls Tryz.prog 51 #[.pointer (some ⟨ib, 0, none⟩)] w (HZ B C.bl (.bool true) Z w) := by
  have Hn := Lib.hid (inNext h hd (t := kt) (ts := R) hats hg hB hl)
  rw [hkk] at Hn
  have hl2 : ({ a with cur := kt, ts := R } :: rest : List Ab).length < 500 := by simp at hl ⊢; omega
  have Htx := Lib.hid (fun (w1 : World) (h1 : Inp w1 B ib C ({ a with cur := kt, ts := R } :: rest) mn mac ifs bol text) => inText h1 (by show kt.k ≠ 0; rw [hkk]; decide) hl2)
  simp only [hkx] at Htx
  have Hen := Lib.hid (fun (w1 : World) (h1 : Inp w1 B ib C ({ a with cur := kt, ts := R } :: rest) mn mac ifs bol text) => inEnabled h1 hil)
  rw [hon] at Hen
  have Hcall := Lib.hid hcall
  have Hg := Lib.hid hg
  clear h hd hats hkk hkx hg hl hl2 hon hil hcall
  have q_define : ((mkS kwIfndef).toList == [100, 101, 102, 105, 110, 101]) = false := by rw [mkS_toList]; decide
  have q_else : ((mkS kwIfndef).toList == [101, 108, 115, 101]) = false := by rw [mkS_toList]; decide
  have q_endif : ((mkS kwIfndef).toList == [101, 110, 100, 105, 102]) = false := by rw [mkS_toList]; decide
  have q_ifdef : ((mkS kwIfndef).toList == [105, 102, 100, 101, 102]) = false := by rw [mkS_toList]; decide
  have q_ifndef : ((mkS kwIfndef).toList == [105, 102, 110, 100, 101, 102]) = true := by rw [mkS_toList]; decide
  have q_include : ((mkS kwIfndef).toList == [105, 110, 99, 108, 117, 100, 101]) = false := by rw [mkS_toList]; decide
  have q_line : ((mkS kwIfndef).toList == [108, 105, 110, 101]) = false := by rw [mkS_toList]; decide
  have q_undef : ((mkS kwIfndef).toList == [117, 110, 100, 101, 102]) = false := by rw [mkS_toList]; decide
  go_enter Tryz.func51, Tryz.ntmps51
  go_wp2_with fail
  refine Hn.out.mono ?_
  rintro e w1 ⟨rfl, h1, s1⟩
  have He1 := Lib.hid (Hen.out w1 h1)
  have H1 := Lib.hid h1
  have S1 := Lib.hid s1
  clear h1 s1
  go_wp2_with fail
  refine He1.out.mono ?_
  rintro e w2 ⟨rfl, m2, rfl⟩
  have Ht2 := Lib.hid (Htx.out _ (H1.out.drewN m2))
  have S2 := Lib.hid (S1.out.trans ((Soft.refl B C.bl w1).drewN m2))
  go_wp2_with fail
  refine Ht2.out.mono ?_
  rintro e w3 ⟨rfl, h3, s3⟩
  have Hd3 := Lib.hid (Hcall.out w3 h3 (Nat.le_trans hC (S2.out.trans s3).size) ((S2.out.trans s3).glob Hg.out hB))
  have S3 := Lib.hid (S2.out.trans s3)
  clear h3 s3
  go_wp2_with fail
  refine Hd3.out.mono ?_
  rintro e w4 ⟨rfl, h4, s4⟩
  have Hfin : Hid (HZ B C.bl (.bool true) Z w (.returned (.bool true)) w4) := Lib.hid ⟨rfl, h4, S3.out.trans s4⟩
  clear h4 s4
  go_wp2
  go_ret
  exact Hfin.out

set_option maxRecDepth 100000 in
set_option maxHeartbeats 2000000 in
theorem hash_else_on {dead rest : List Ab} {a : Ab} {kt : Tok} {R : List Tok} (h : Inp w B ib C (dead ++ a :: rest) mn mac ifs bol text) (hon : onB ifs = true) (hil : ifs.length < 1000) (hd : ∀ d ∈ dead, d.ts = []) (hats : a.ts = kt :: R) (hkk : kt.k = -2) (hkx : kt.x = kwElse) (hC : C.lim ≤ w.heap.size) (hg : Glob w ev) (hB : 21 ≤ B) (hl : (dead ++ a :: rest).length < 500)
    (hcall : ∀ w1, Inp w1 B ib C ({ a with cur := kt, ts := R } :: rest) mn mac ifs bol text → C.lim ≤ w1.heap.size → Glob w1 ev → Calls Tryz.prog 68 #[.pointer (some ⟨ib, 0, none⟩)] w1 (HZ B C.bl (.tuple #[]) Z w1)) :
    Calls Tryz.prog 51 #[.pointer (some ⟨ib, 0, none⟩)] w (HZ B C.bl (.bool true) Z w) := by
  have Hn := Lib.hid (inNext h hd (t := kt) (ts := R) hats hg hB hl)
  rw [hkk] at Hn
  have hl2 : ({ a with cur := kt, ts := R } :: rest : List Ab).length < 500 := by simp at hl ⊢; omega
  have Htx := Lib.hid (fun (w1 : World) (h1 : Inp w1 B ib C ({ a with cur := kt, ts := R } :: rest) mn mac ifs bol text) => inText h1 (by show kt.k ≠ 0; rw [hkk]; decide) hl2)
  simp only [hkx] at Htx
  have Hen := Lib.hid (fun (w1 : World) (h1 : Inp w1 B ib C ({ a with cur := kt, ts := R } :: rest) mn mac ifs bol text) => inEnabled h1 hil)
  rw [hon] at Hen
  have Hcall := Lib.hid hcall
  have Hg := Lib.hid hg
  clear h hd hats hkk hkx hg hl hl2 hon hil hcall
  have q_define : ((mkS kwElse).toList == [100, 101, 102, 105, 110, 101]) = false := by rw [mkS_toList]; decide
  have q_else : ((mkS kwElse).toList == [101, 108, 115, 101]) = true := by rw [mkS_toList]; decide
  have q_endif : ((mkS kwElse).toList == [101, 110, 100, 105, 102]) = false := by rw [mkS_toList]; decide
  have q_ifdef : ((mkS kwElse).toList == [105, 102, 100, 101, 102]) = false := by rw [mkS_toList]; decide
  have q_ifndef : ((mkS kwElse).toList == [105, 102, 110, 100, 101, 102]) = false := by rw [mkS_toList]; decide
  have q_include : ((mkS kwElse).toList == [105, 110, 99, 108, 117, 100, 101]) = false := by rw [mkS_toList]; decide
  have q_line : ((mkS kwElse).toList == [108, 105, 110, 101]) = false := by rw [mkS_toList]; decide
  have q_undef : ((mkS kwElse).toList == [117, 110, 100, 101, 102]) = false := by rw [mkS_toList]; decide
  go_enter Tryz.func51, Tryz.ntmps51
  go_wp2_with fail
  refine Hn.out.mono ?_
  rintro e w1 ⟨rfl, h1, s1⟩
  have He1 := Lib.hid (Hen.out w1 h1)
  have H1 := Lib.hid h1
  have S1 := Lib.hid s1
  clear h1 s1
  go_wp2_with fail
  refine He1.out.mono ?_
  rintro e w2 ⟨rfl, m2, rfl⟩
  have Ht2 := Lib.hid (Htx.out _ (H1.out.drewN m2))
  have S2 := Lib.hid (S1.out.trans ((Soft.refl B C.bl w1).drewN m2))
  go_wp2_with fail
  refine Ht2.out.mono ?_
  rintro e w3 ⟨rfl, h3, s3⟩
  have Hd3 := Lib.hid (Hcall.out w3 h3 (Nat.le_trans hC (S2.out.trans s3).size) ((S2.out.trans s3).glob Hg.out hB))
  have S3 := Lib.hid (S2.out.trans s3)
  clear h3 s3
  go_wp2_with fail
  refine Hd3.out.mono ?_
  rintro e w4 ⟨rfl, h4, s4⟩
  have Hfin : Hid (HZ B C.bl (.bool true) Z w (.returned (.bool true)) w4) := Lib.hid ⟨rfl, h4, S3.out.trans s4⟩
  clear h4 s4
  go_wp2
  go_ret
  exact Hfin.out

set_option maxRecDepth 100000 in
set_option maxHeartbeats 2000000 in
theorem hash_endif_on {dead rest : List Ab} {a : Ab} {kt : Tok} {R : List Tok} (h : Inp w B ib C (dead ++ a :: rest) mn mac ifs bol text) (hon : onB ifs = true) (hil : ifs.length < 1000) (hd : ∀ d ∈ dead, d.ts = []) (hats : a.ts = kt :: R) (hkk : kt.k = -2) (hkx : kt.x = kwEndif) (hC : C.lim ≤ w.heap.size) (hg : Glob w ev) (hB : 21 ≤ B) (hl : (dead ++ a :: rest).length < 500)
    (hcall : ∀ w1, Inp w1 B ib C ({ a with cur := kt, ts := R } :: rest) mn mac ifs bol text → C.lim ≤ w1.heap.size → Glob w1 ev → Calls Tryz.prog 69 #[.pointer (some ⟨ib, 0, none⟩)] w1 (HZ B C.bl (.tuple #[]) Z w1)) :
    Calls Tryz.prog 51 #[.pointer (some ⟨ib, 0, none⟩)] w (HZ B C.bl (.bool true) Z w) := by
  have Hn := Lib.hid (inNext h hd (t := kt) (ts := R) hats hg hB hl)
  rw [hkk] at Hn
  have hl2 : ({ a with cur := kt, ts := R } :: rest : List Ab).length < 500 := by simp at hl ⊢; omega
  have Htx := Lib.hid (fun (w1 : World) (h1 : Inp w1 B ib C ({ a with cur := kt, ts := R } :: rest) mn mac ifs bol text) => inText h1 (by show kt.k ≠ 0; rw [hkk]; decide) hl2)
  simp only [hkx] at Htx
  have Hen := Lib.hid (fun (w1 : World) (h1 : Inp w1 B ib C ({ a with cur := kt, ts := R } :: rest) mn mac ifs bol text) => inEnabled h1 hil)
  rw [hon] at Hen
  have Hcall := Lib.hid hcall
  have Hg := Lib.hid hg
  clear h hd hats hkk hkx hg hl hl2 hon hil hcall
  have q_define : ((mkS kwEndif).toList == [100, 101, 102, 105, 110, 101]) = false := by rw [mkS_toList]; decide
  have q_else : ((mkS kwEndif).toList == [101, 108, 115, 101]) = false := by rw [mkS_toList]; decide
  have q_endif : ((mkS kwEndif).toList == [101, 110, 100, 105, 102]) = true := by rw [mkS_toList]; decide
  have q_ifdef : ((mkS kwEndif).toList == [105, 102, 100, 101, 102]) = false := by rw [mkS_toList]; decide
  have q_ifndef : ((mkS kwEndif).toList == [105, 102, 110, 100, 101, 102]) = false := by rw [mkS_toList]; decide
  have q_include : ((mkS kwEndif).toList == [105, 110, 99, 108, 117, 100, 101]) = false := by rw [mkS_toList]; decide
  have q_line : ((mkS kwEndif).toList == [108, 105, 110, 101]) = false := by rw [mkS_toList]; decide
  have q_undef : ((mkS kwEndif).toList == [117, 110, 100, 101, 102]) = false := by rw [mkS_toList]; decide
  go_enter Tryz.func51, Tryz.ntmps51
  go_wp2_with fail
  refine Hn.out.mono ?_
  rintro e w1 ⟨rfl, h1, s1⟩
  have He1 := Lib.hid (Hen.out w1 h1)
  have H1 := Lib.hid h1
  have S1 := Lib.hid s1
  clear h1 s1
  go_wp2_with fail
  refine He1.out.mono ?_
  rintro e w2 ⟨rfl, m2, rfl⟩
  have Ht2 := Lib.hid (Htx.out _ (H1.out.drewN m2))
  have S2 := Lib.hid (S1.out.trans ((Soft.refl B C.bl w1).drewN m2))
  go_wp2_with fail
  refine Ht2.out.mono ?_
  rintro e w3 ⟨rfl, h3, s3⟩
  have Hd3 := Lib.hid (Hcall.out w3 h3 (Nat.le_trans hC (S2.out.trans s3).size) ((S2.out.trans s3).glob Hg.out hB))
  have S3 := Lib.hid (S2.out.trans s3)
  clear h3 s3
  go_wp2_with fail
  refine Hd3.out.mono ?_
  rintro e w4 ⟨rfl, h4, s4⟩
  have Hfin : Hid (HZ B C.bl (.bool true) Z w (.returned (.bool true)) w4) := Lib.hid ⟨rfl, h4, S3.out.trans s4⟩
  clear h4 s4
  go_wp2
  go_ret
  exact Hfin.out

set_option maxRecDepth 100000 in
set_option maxHeartbeats 2000000 in
theorem hash_include_on {dead rest : List Ab} {a : Ab} {kt : Tok} {R : List Tok} (h : Inp w B ib C (dead ++ a :: rest) mn mac ifs bol text) (hon : onB ifs = true) (hil : ifs.length < 1000) (hd : ∀ d ∈ dead, d.ts = []) (hats : a.ts = kt :: R) (hkk : kt.k = -2) (hkx : kt.x = kwInclude) (hC : C.lim ≤ w.heap.size) (hg : Glob w ev) (hB : 21 ≤ B) (hl : (dead ++ a :: rest).length < 500)
    (hcall : ∀ w1, Inp w1 B ib C ({ a with cur := kt, ts := R } :: rest) mn mac ifs bol text → C.lim ≤ w1.heap.size → Glob w1 ev → Calls Tryz.prog 71 #[.pointer (some ⟨ib, 0, none⟩)] w1 (HZ B C.bl (.tuple #[]) Z w1)) :
    Calls Tryz.prog 51 #[.pointer (some ⟨ib, 0, none⟩)] w (HZ B C.bl (.bool true) Z w) := by
  have Hn := Lib.hid (inNext h hd (t := kt) (ts := R) hats hg hB hl)
  rw [hkk] at Hn
  have hl2 : ({ a with cur := kt, ts := R } :: rest : List Ab).length < 500 := by simp at hl ⊢; omega
  have Htx := Lib.hid (fun (w1 : World) (h1 : Inp w1 B ib C ({ a with cur := kt, ts := R } :: rest) mn mac ifs bol text) => inText h1 (by show kt.k ≠ 0; rw [hkk]; decide) hl2)
  simp only [hkx] at Htx
  have Hen := Lib.hid (fun (w1 : World) (h1 : Inp w1 B ib C ({ a with cur := kt, ts := R } :: rest) mn mac ifs bol text) => inEnabled h1 hil)
  rw [hon] at Hen
  have Hcall := Lib.hid hcall
  have Hg := Lib.hid hg
  clear h hd hats hkk hkx hg hl hl2 hon hil hcall
  have q_define : ((mkS kwInclude).toList == [100, 101, 102, 105, 110, 101]) = false := by rw [mkS_toList]; decide
  have q_else : ((mkS kwInclude).toList == [101, 108, 115, 101]) = false := by rw [mkS_toList]; decide
  have q_endif : ((mkS kwInclude).toList == [101, 110, 100, 105, 102]) = false := by rw [mkS_toList]; decide
  have q_ifdef : ((mkS kwInclude).toList == [105, 102, 100, 101, 102]) = false := by rw [mkS_toList]; decide
  have q_ifndef : ((mkS kwInclude).toList == [105, 102, 110, 100, 101, 102]) = false := by rw [mkS_toList]; decide
  have q_include : ((mkS kwInclude).toList == [105, 110, 99, 108, 117, 100, 101]) = true := by rw [mkS_toList]; decide
  have q_line : ((mkS kwInclude).toList == [108, 105, 110, 101]) = false := by rw [mkS_toList]; decide
  have q_undef : ((mkS kwInclude).toList == [117, 110, 100, 101, 102]) = false := by rw [mkS_toList]; decide
  go_enter Tryz.func51, Tryz.ntmps51
  go_wp2_with fail
  refine Hn.out.mono ?_
  rintro e w1 ⟨rfl, h1, s1⟩
  have He1 := Lib.hid (Hen.out w1 h1)
  have H1 := Lib.hid h1
  have S1 := Lib.hid s1
  clear h1 s1
  go_wp2_with fail
  refine He1.out.mono ?_
  rintro e w2 ⟨rfl, m2, rfl⟩
  have Ht2 := Lib.hid (Htx.out _ (H1.out.drewN m2))
  have S2 := Lib.hid (S1.out.trans ((Soft.refl B C.bl w1).drewN m2))
  go_wp2_with fail
  refine Ht2.out.mono ?_
  rintro e w3 ⟨rfl, h3, s3⟩
  have Hd3 := Lib.hid (Hcall.out w3 h3 (Nat.le_trans hC (S2.out.trans s3).size) ((S2.out.trans s3).glob Hg.out hB))
  have S3 := Lib.hid (S2.out.trans s3)
  clear h3 s3
  go_wp2_with fail
  refine Hd3.out.mono ?_
  rintro e w4 ⟨rfl, h4, s4⟩
  have Hfin : Hid (HZ B C.bl (.bool true) Z w (.returned (.bool true)) w4) := Lib.hid ⟨rfl, h4, S3.out.trans s4⟩
  clear h4 s4
  go_wp2
  go_ret
  exact Hfin.out

set_option maxRecDepth 100000 in
set_option maxHeartbeats 2000000 in
theorem hash_define_on {dead rest : List Ab} {a : Ab} {kt : Tok} {R : List Tok} (h : Inp w B ib C (dead ++ a :: rest) mn mac ifs bol text) (hon : onB ifs = true) (hil : ifs.length < 1000) (hd : ∀ d ∈ dead, d.ts = []) (hats : a.ts = kt :: R) (hkk : kt.k = -2) (hkx : kt.x = kwDefine) (hC : C.lim ≤ w.heap.size) (hg : Glob w ev) (hB : 21 ≤ B) (hl : (dead ++ a :: rest).length < 500)
    (hcall : ∀ w1, Inp w1 B ib C ({ a with cur := kt, ts := R } :: rest) mn mac ifs bol text → C.lim ≤ w1.heap.size → Glob w1 ev → Calls Tryz.prog 67 #[.pointer (some ⟨ib, 0, none⟩)] w1 (HZ B C.bl (.tuple #[]) Z w1)) :
    Calls Tryz.prog 51 #[.pointer (some ⟨ib, 0, none⟩)] w (HZ B C.bl (.bool true) Z w) := by
  have Hn := Lib.hid (inNext h hd (t := kt) (ts := R) hats hg hB hl)
  rw [hkk] at Hn
  have hl2 : ({ a with cur := kt, ts := R } :: rest : List Ab).length < 500 := by simp at hl ⊢; omega
  have Htx := Lib.hid (fun (w1 : World) (h1 : Inp w1 B ib C ({ a with cur := kt, ts := R } :: rest) mn mac ifs bol text) => inText h1 (by show kt.k ≠ 0; rw [hkk]; decide) hl2)
  simp only [hkx] at Htx
  have Hen := Lib.hid (fun (w1 : World) (h1 : Inp w1 B ib C ({ a with cur := kt, ts := R } :: rest) mn mac ifs bol text) => inEnabled h1 hil)
  rw [hon] at Hen
  have Hcall := Lib.hid hcall
  have Hg := Lib.hid hg
  clear h hd hats hkk hkx hg hl hl2 hon hil hcall
  have q_define : ((mkS kwDefine).toList == [100, 101, 102, 105, 110, 101]) = true := by rw [mkS_toList]; decide
  have q_else : ((mkS kwDefine).toList == [101, 108, 115, 101]) = false := by rw [mkS_toList]; decide
  have q_endif : ((mkS kwDefine).toList == [101, 110, 100, 105, 102]) = false := by rw [mkS_toList]; decide
  have q_ifdef : ((mkS kwDefine).toList == [105, 102, 100, 101, 102]) = false := by rw [mkS_toList]; decide
  have q_ifndef : ((mkS kwDefine).toList == [105, 102, 110, 100, 101, 102]) = false := by rw [mkS_toList]; decide
  have q_include : ((mkS kwDefine).toList == [105, 110, 99, 108, 117, 100, 101]) = false := by rw [mkS_toList]; decide
  have q_line : ((mkS kwDefine).toList == [108, 105, 110, 101]) = false := by rw [mkS_toList]; decide
  have q_undef : ((mkS kwDefine).toList == [117, 110, 100, 101, 102]) = false := by rw [mkS_toList]; decide
  go_enter Tryz.func51, Tryz.ntmps51
  go_wp2_with fail
  refine Hn.out.mono ?_
  rintro e w1 ⟨rfl, h1, s1⟩
  have He1 := Lib.hid (Hen.out w1 h1)
  have H1 := Lib.hid h1
  have S1 := Lib.hid s1
  clear h1 s1
  go_wp2_with fail
  refine He1.out.mono ?_
  rintro e w2 ⟨rfl, m2, rfl⟩
  have Ht2 := Lib.hid (Htx.out _ (H1.out.drewN m2))
  have S2 := Lib.hid (S1.out.trans ((Soft.refl B C.bl w1).drewN m2))
  go_wp2_with fail
  refine Ht2.out.mono ?_
  rintro e w3 ⟨rfl, h3, s3⟩
  have Hd3 := Lib.hid (Hcall.out w3 h3 (Nat.le_trans hC (S2.out.trans s3).size) ((S2.out.trans s3).glob Hg.out hB))
  have S3 := Lib.hid (S2.out.trans s3)
  clear h3 s3
  go_wp2_with fail
  refine Hd3.out.mono ?_
  rintro e w4 ⟨rfl, h4, s4⟩
  have Hfin : Hid (HZ B C.bl (.bool true) Z w (.returned (.bool true)) w4) := Lib.hid ⟨rfl, h4, S3.out.trans s4⟩
  clear h4 s4
  go_wp2
  go_ret
  exact Hfin.out

set_option maxRecDepth 100000 in
set_option maxHeartbeats 2000000 in
theorem hash_else_off {dead rest : List Ab} {a : Ab} {kt : Tok} {R : List Tok} (h : Inp w B ib C (dead ++ a :: rest) mn mac ifs bol text) (hon : onB ifs = false) (hil : ifs.length < 1000) (hd : ∀ d ∈ dead, d.ts = []) (hats : a.ts = kt :: R) (hkk : kt.k = -2) (hkx : kt.x = kwElse) (hC : C.lim ≤ w.heap.size) (hg : Glob w ev) (hB : 21 ≤ B) (hl : (dead ++ a :: rest).length < 500)
    (hcall : ∀ w1, Inp w1 B ib C ({ a with cur := kt, ts := R } :: rest) mn mac ifs bol text → C.lim ≤ w1.heap.size → Glob w1 ev → Calls Tryz.prog 68 #[.pointer (some ⟨ib, 0, none⟩)] w1 (HZ B C.bl (.tuple #[]) Z w1)) :
    Calls Tryz.prog 51 #[.pointer (some ⟨ib, 0, none⟩)] w (HZ B C.bl (.bool true) Z w) := by
  have Hn := Lib.hid (inNext h hd (t := kt) (ts := R) hats hg hB hl)
  rw [hkk] at Hn
  have hl2 : ({ a with cur := kt, ts := R } :: rest : List Ab).length < 500 := by simp at hl ⊢; omega
  have Htx := Lib.hid (fun (w1 : World) (h1 : Inp w1 B ib C ({ a with cur := kt, ts := R } :: rest) mn mac ifs bol text) => inText h1 (by show kt.k ≠ 0; rw [hkk]; decide) hl2)
  simp only [hkx] at Htx
  have Hen := Lib.hid (fun (w1 : World) (h1 : Inp w1 B ib C ({ a with cur := kt, ts := R } :: rest) mn mac ifs bol text) => inEnabled h1 hil)
  rw [hon] at Hen
  have Hcall := Lib.hid hcall
  have Hg := Lib.hid hg
  clear h hd hats hkk hkx hg hl hl2 hon hil hcall
  have q_define : ((mkS kwElse).toList == [100, 101, 102, 105, 110, 101]) = false := by rw [mkS_toList]; decide
  have q_else : ((mkS kwElse).toList == [101, 108, 115, 101]) = true := by rw [mkS_toList]; decide
  have q_endif : ((mkS kwElse).toList == [101, 110, 100, 105, 102]) = false := by rw [mkS_toList]; decide
  have q_ifdef : ((mkS kwElse).toList == [105, 102, 100, 101, 102]) = false := by rw [mkS_toList]; decide
  have q_ifndef : ((mkS kwElse).toList == [105, 102, 110, 100, 101, 102]) = false := by rw [mkS_toList]; decide
  have q_include : ((mkS kwElse).toList == [105, 110, 99, 108, 117, 100, 101]) = false := by rw [mkS_toList]; decide
  have q_line : ((mkS kwElse).toList == [108, 105, 110, 101]) = false := by rw [mkS_toList]; decide
  have q_undef : ((mkS kwElse).toList == [117, 110, 100, 101, 102]) = false := by rw [mkS_toList]; decide
  go_enter Tryz.func51, Tryz.ntmps51
  go_wp2_with fail
  refine Hn.out.mono ?_
  rintro e w1 ⟨rfl, h1, s1⟩
  have He1 := Lib.hid (Hen.out w1 h1)
  have H1 := Lib.hid h1
  have S1 := Lib.hid s1
  clear h1 s1
  go_wp2_with fail
  refine He1.out.mono ?_
  rintro e w2 ⟨rfl, m2, rfl⟩
  have Ht2 := Lib.hid (Htx.out _ (H1.out.drewN m2))
  have S2 := Lib.hid (S1.out.trans ((Soft.refl B C.bl w1).drewN m2))
  go_wp2_with fail
  refine Ht2.out.mono ?_
  rintro e w9 ⟨rfl, h9, s9⟩
  have Ht2 := Lib.hid (Htx.out _ h9)
  have S2 := Lib.hid (S2.out.trans s9)
  clear h9 s9
  go_wp2_with fail
  refine Ht2.out.mono ?_
  rintro e w3 ⟨rfl, h3, s3⟩
  have Hd3 := Lib.hid (Hcall.out w3 h3 (Nat.le_trans hC (S2.out.trans s3).size) ((S2.out.trans s3).glob Hg.out hB))
  have S3 := Lib.hid (S2.out.trans s3)
  clear h3 s3
  go_wp2_with fail
  refine Hd3.out.mono ?_
  rintro e w4 ⟨rfl, h4, s4⟩
  have Hfin : Hid (HZ B C.bl (.bool true) Z w (.returned (.bool true)) w4) := Lib.hid ⟨rfl, h4, S3.out.trans s4⟩
  clear h4 s4
  go_wp2
  go_ret
  exact Hfin.out

set_option maxRecDepth 100000 in
set_option maxHeartbeats 2000000 in
theorem hash_endif_off {dead rest : List Ab} {a : Ab} {kt : Tok} {R : List Tok} (h : Inp w B ib C (dead ++ a :: rest) mn mac ifs bol text) (hon : onB ifs = false) (hil : ifs.length < 1000) (hd : ∀ d ∈ dead, d.ts = []) (hats : a.ts = kt :: R) (hkk : kt.k = -2) (hkx : kt.x = kwEndif) (hC : C.lim ≤ w.heap.size) (hg : Glob w ev) (hB : 21 ≤ B) (hl : (dead ++ a :: rest).length < 500)
    (hcall : ∀ w1, Inp w1 B ib C ({ a with cur := kt, ts := R } :: rest) mn mac ifs bol text → C.lim ≤ w1.heap.size → Glob w1 ev → Calls Tryz.prog 69 #[.pointer (some ⟨ib, 0, none⟩)] w1 (HZ B C.bl (.tuple #[]) Z w1)) :
    Calls Tryz.prog 51 #[.pointer (some ⟨ib, 0, none⟩)] w (HZ B C.bl (.bool true) Z w) := by
  have Hn := Lib.hid (inNext h hd (t := kt) (ts := R) hats hg hB hl)
  rw [hkk] at Hn
  have hl2 : ({ a with cur := kt, ts := R } :: rest : List Ab).length < 500 := by simp at hl ⊢; omega
  have Htx := Lib.hid (fun (w1 : World) (h1 : Inp w1 B ib C ({ a with cur := kt, ts := R } :: rest) mn mac ifs bol text) => inText h1 (by show kt.k ≠ 0; rw [hkk]; decide) hl2)
  simp only [hkx] at Htx
  have Hen := Lib.hid (fun (w1 : World) (h1 : Inp w1 B ib C ({ a with cur := kt, ts := R } :: rest) mn mac ifs bol text) => inEnabled h1 hil)
  rw [hon] at Hen
  have Hcall := Lib.hid hcall
  have Hg := Lib.hid hg
  clear h hd hats hkk hkx hg hl hl2 hon hil hcall
  have q_define : ((mkS kwEndif).toList == [100, 101, 102, 105, 110, 101]) = false := by rw [mkS_toList]; decide
  have q_else : ((mkS kwEndif).toList == [101, 108, 115, 101]) = false := by rw [mkS_toList]; decide
  have q_endif : ((mkS kwEndif).toList == [101, 110, 100, 105, 102]) = true := by rw [mkS_toList]; decide
  have q_ifdef : ((mkS kwEndif).toList == [105, 102, 100, 101, 102]) = false := by rw [mkS_toList]; decide
  have q_ifndef : ((mkS kwEndif).toList == [105, 102, 110, 100, 101, 102]) = false := by rw [mkS_toList]; decide
  have q_include : ((mkS kwEndif).toList == [105, 110, 99, 108, 117, 100, 101]) = false := by rw [mkS_toList]; decide
  have q_line : ((mkS kwEndif).toList == [108, 105, 110, 101]) = false := by rw [mkS_toList]; decide
  have q_undef : ((mkS kwEndif).toList == [117, 110, 100, 101, 102]) = false := by rw [mkS_toList]; decide
  go_enter Tryz.func51, Tryz.ntmps51
  go_wp2_with fail
  refine Hn.out.mono ?_
  rintro e w1 ⟨rfl, h1, s1⟩
  have He1 := Lib.hid (Hen.out w1 h1)
  have H1 := Lib.hid h1
  have S1 := Lib.hid s1
  clear h1 s1
  go_wp2_with fail
  refine He1.out.mono ?_
  rintro e w2 ⟨rfl, m2, rfl⟩
  have Ht2 := Lib.hid (Htx.out _ (H1.out.drewN m2))
  have S2 := Lib.hid (S1.out.trans ((Soft.refl B C.bl w1).drewN m2))
  go_wp2_with fail
  refine Ht2.out.mono ?_
  rintro e w9 ⟨rfl, h9, s9⟩
  have Ht2 := Lib.hid (Htx.out _ h9)
  have S2 := Lib.hid (S2.out.trans s9)
  clear h9 s9
  go_wp2_with fail
  refine Ht2.out.mono ?_
  rintro e w3 ⟨rfl, h3, s3⟩
  have Hd3 := Lib.hid (Hcall.out w3 h3 (Nat.le_trans hC (S2.out.trans s3).size) ((S2.out.trans s3).glob Hg.out hB))
  have S3 := Lib.hid (S2.out.trans s3)
  clear h3 s3
  go_wp2_with fail
  refine Hd3.out.mono ?_
  rintro e w4 ⟨rfl, h4, s4⟩
  have Hfin : Hid (HZ B C.bl (.bool true) Z w (.returned (.bool true)) w4) := Lib.hid ⟨rfl, h4, S3.out.trans s4⟩
  clear h4 s4
  go_wp2
  go_ret
  exact Hfin.out

set_option maxRecDepth 100000 in
set_option maxHeartbeats 2000000 in
/-- A definition that is not read. -/
theorem hash_define_off {dead rest : List Ab} {a : Ab} {kt : Tok} {R : List Tok} (h : Inp w B ib C (dead ++ a :: rest) mn mac ifs bol text) (hon : onB ifs = false) (hil : ifs.length < 1000) (hd : ∀ d ∈ dead, d.ts = []) (hats : a.ts = kt :: R) (hkk : kt.k = -2) (hkx : kt.x = kwDefine) (hC : C.lim ≤ w.heap.size) (hg : Glob w ev) (hB : 21 ≤ B) (hl : (dead ++ a :: rest).length < 500) :
    Calls Tryz.prog 51 #[.pointer (some ⟨ib, 0, none⟩)] w (HZ B C.bl (.bool false) (fun w1 => Inp w1 B ib C ({ a with cur := kt, ts := R } :: rest) mn mac ifs bol text) w) := by
  have Hn := Lib.hid (inNext h hd (t := kt) (ts := R) hats hg hB hl)
  rw [hkk] at Hn
  have hl2 : ({ a with cur := kt, ts := R } :: rest : List Ab).length < 500 := by simp at hl ⊢; omega
  have Htx := Lib.hid (fun (w1 : World) (h1 : Inp w1 B ib C ({ a with cur := kt, ts := R } :: rest) mn mac ifs bol text) => inText h1 (by show kt.k ≠ 0; rw [hkk]; decide) hl2)
  simp only [hkx] at Htx
  have Hen := Lib.hid (fun (w1 : World) (h1 : Inp w1 B ib C ({ a with cur := kt, ts := R } :: rest) mn mac ifs bol text) => inEnabled h1 hil)
  rw [hon] at Hen
  have Hg := Lib.hid hg
  clear h hd hats hkk hkx hg hl hl2 hon hil
  have q_define : ((mkS kwDefine).toList == [100, 101, 102, 105, 110, 101]) = true := by rw [mkS_toList]; decide
  have q_else : ((mkS kwDefine).toList == [101, 108, 115, 101]) = false := by rw [mkS_toList]; decide
  have q_endif : ((mkS kwDefine).toList == [101, 110, 100, 105, 102]) = false := by rw [mkS_toList]; decide
  have q_ifdef : ((mkS kwDefine).toList == [105, 102, 100, 101, 102]) = false := by rw [mkS_toList]; decide
  have q_ifndef : ((mkS kwDefine).toList == [105, 102, 110, 100, 101, 102]) = false := by rw [mkS_toList]; decide
  have q_include : ((mkS kwDefine).toList == [105, 110, 99, 108, 117, 100, 101]) = false := by rw [mkS_toList]; decide
  have q_line : ((mkS kwDefine).toList == [108, 105, 110, 101]) = false := by rw [mkS_toList]; decide
  have q_undef : ((mkS kwDefine).toList == [117, 110, 100, 101, 102]) = false := by rw [mkS_toList]; decide
  go_enter Tryz.func51, Tryz.ntmps51
  go_wp2_with fail
  refine Hn.out.mono ?_
  rintro e w1 ⟨rfl, h1, s1⟩
  have He1 := Lib.hid (Hen.out w1 h1)
  have H1 := Lib.hid h1
  have S1 := Lib.hid s1
  clear h1 s1
  go_wp2_with fail
  refine He1.out.mono ?_
  rintro e w2 ⟨rfl, m2, rfl⟩
  have Ht2 := Lib.hid (Htx.out _ (H1.out.drewN m2))
  have S2 := Lib.hid (S1.out.trans ((Soft.refl B C.bl w1).drewN m2))
  go_wp2_with fail
  refine Ht2.out.mono ?_
  rintro e w3 ⟨rfl, h3, s3⟩
  have Hfin : Hid (HZ B C.bl (.bool false) (fun w1 => Inp w1 B ib C ({ a with cur := kt, ts := R } :: rest) mn mac ifs bol text) w (.returned (.bool false)) w3) := Lib.hid ⟨rfl, h3, S2.out.trans s3⟩
  clear h3 s3
  go_wp2
  go_ret
  exact Hfin.out

end
section
variable {w w' : World} {B ib : Nat} {C : Cfg} {ab ab' : List Ab} {mn : Nat} {mac : Bs → Option Mc} {ifs : List Bool} {bol : Bool} {text : Bs} {S S' : Nat → Value} {rs rs' : List RS} {ev : Value}

/-- A macro is gone. -/
def GoneQ (B ib : Nat) (C : Cfg) (ab : List Ab) (mn : Nat) (mac : Bs → Option Mc) (ifs : List Bool) (bol : Bool) (text : Bs) (x : Bs) (val : Value) (w : World) (e : Ending) (w' : World) : Prop :=
  InQ B ib C ab mn (fun y => if y = x then none else mac y) ifs bol text val w e w'

/-- The macro's entry is dropped. -/
theorem Inp.drop (h : Inp w B ib C ab mn mac ifs bol text) {x : Bs} (hx : x.length ≤ 1000000) (ty : TypeId) :
    ∃ w', (Builtin.delete_ #[71, 9] ty #[.map (some C.mb), .string (mkS x)]).run Tryz.prog w = .ok (.tuple #[]) w' ∧ Inp w' B ib C ab mn (fun y => if y = x then none else mac y) ifs bol text ∧ Soft B C.bl w w' := by
  obtain ⟨S, rs, h⟩ := h
  obtain ⟨f, m1, m2, m3⟩ := h.env.mcs
  obtain ⟨w', hr, m1', ho⟩ := m1.drop Tryz.underlying71 x hx ty
  have hE : ∀ k, k = C.mb → k < w.heap.size → ∀ T : TypeId, ¬ Typed w k (· = T) := fun k e _ T ht => m1.not_typed (e ▸ ht)
  have hmacs : Macs w' C.lim C.mb mn (fun y => if y = x then none else mac y) := by
    refine ⟨fun y => if y = x then none else f y, ?_, fun y hy => ?_, fun y m' hy => ?_⟩
    · have e1 : (fun y => if y = x then none else (f y).map fun b => Value.pointer (some ⟨b, 0, none⟩)) = fun y => ((if y = x then none else f y).map fun b => Value.pointer (some ⟨b, 0, none⟩)) := by
        funext y; split <;> rfl
      rw [← e1]; exact m1'
    · by_cases e : y = x
      · simp [e]
      · simp only [e, if_false] at hy ⊢; exact m2 y hy
    · by_cases e : y = x
      · simp [e] at hy
      · simp only [e, if_false] at hy
        obtain ⟨b, hb, hma⟩ := m3 y m' hy
        exact ⟨b, by simp [e, hb], hma.only ho (fun k e hk => ⟨hE k e hk _, hE k e hk _, hE k e hk _⟩)⟩
  obtain ⟨h2, s2⟩ := h.mapd ho hmacs
  exact ⟨w', hr, ⟨_, _, h2⟩, s2⟩

theorem Inp.mac_at (h : Inp w B ib C ab mn mac ifs bol text) {x : Bs} {m : Mc} (hx : mac x = some m) (hl : x.length ≤ 1000000) :
    ∃ b, w.cell? ⟨ib, 5, none⟩ = some (.map (some C.mb)) ∧ (Instr.lookup 71 (.map (some C.mb)) (.string (mkS x)) false).run Tryz.prog w = .ok (.pointer (some ⟨b, 0, none⟩)) w := by
  obtain ⟨S, rs, h⟩ := h
  obtain ⟨f, m1, m2, m3⟩ := h.env.mcs
  obtain ⟨b, hb, hm⟩ := m3 x m hx
  refine ⟨b, h.stk.blk.cell_eq (by decide) h.env.mcv, ?_⟩
  have := m1.look Tryz.underlying71 zero_ptr_macro x hl
  rw [hb] at this
  exact this
theorem Inp.c5 (h : Inp w B ib C ab mn mac ifs bol text) : w.cell? ⟨ib, 5, none⟩ = some (.map (some C.mb)) := by
  obtain ⟨S, rs, h⟩ := h; exact h.stk.blk.cell_eq (by decide) h.env.mcv

set_option maxRecDepth 100000 in
set_option maxHeartbeats 1000000 in
theorem undef_plain {dead rest : List Ab} {a : Ab} {nt nl : Tok} {ts : List Tok} {m : Mc} (h : Inp w B ib C (dead ++ a :: rest) mn mac ifs bol text) (hd : ∀ d ∈ dead, d.ts = []) (hats : a.ts = nt :: nl :: ts)
    (hnk : nt.k = -2) (hnx : nt.x.length ≤ 1000) (hmac : mac nt.x = some m) (hnl : nl.k = 10) (hg : Glob w ev) (hB : 21 ≤ B) (hl : (dead ++ a :: rest).length < 500) :
    Calls Tryz.prog 73 #[.pointer (some ⟨ib, 0, none⟩)] w (GoneQ B ib C ({ a with cur := nl, ts := ts } :: rest) mn mac ifs bol text nt.x (.tuple #[]) w) := by
  have Hn := Lib.hid (inMacroName h hd (t := nt) (ts := nl :: ts) hats hnk hg hB hl)
  have hl2 : ({ a with cur := nt, ts := nl :: ts } :: rest : List Ab).length < 500 := by simp at hl ⊢; omega
  have Hnext := Lib.hid (fun (w1 : World) (h1 : Inp w1 B ib C ({ a with cur := nt, ts := nl :: ts } :: rest) mn mac ifs bol text) (hg1 : Glob w1 ev) => inNext (dead := []) h1 (fun _ h => by cases h) (t := nl) (ts := ts) rfl hg1 hB hl2)
  rw [hnl] at Hnext
  have Hg := Lib.hid hg
  have Hmac := Lib.hid hmac
  clear h hd hats hnk hmac hnl hg hl hl2
  go_enter Tryz.func73, Tryz.ntmps73
  go_wp2_with fail
  refine Hn.out.mono ?_
  rintro e w1 ⟨rfl, h1, s1⟩
  obtain ⟨b, c5, hlook⟩ := h1.mac_at Hmac.out (by omega)
  have hne : ∀ u : World, (binOp BinOp.eql 106 (.pointer (some ⟨b, 0, none⟩)) (.pointer none)).run Tryz.prog u = .ok (.bool false) u := fun u => by kernel_rfl
  have Hn1 := Lib.hid (Hnext.out w1 h1 (s1.glob Hg.out hB))
  have S1 := Lib.hid s1
  clear h1 s1
  go_wp2_with fail
  refine Hn1.out.mono ?_
  rintro e w2 ⟨rfl, h2, s2⟩
  obtain ⟨w3, hdel, h3, s3⟩ := h2.drop (x := nt.x) (by omega) 0
  have k5 := h2.c5
  have Hfin : Hid (GoneQ B ib C ({ a with cur := nl, ts := ts } :: rest) mn mac ifs bol text nt.x (.tuple #[]) w (.returned (.tuple #[])) w3) := Lib.hid ⟨rfl, h3, (S1.out.trans s2).trans s3⟩
  clear h2 s2 h3 s3 c5 hlook
  go_wp2
  go_end0
  exact Hfin.out

end
section
variable {w w' w1 : World} {B ib : Nat} {C : Cfg} {ab ab' : List Ab} {mn : Nat} {mac : Bs → Option Mc} {ifs l' : List Bool} {bol : Bool} {text : Bs} {S S' : Nat → Value} {rs rs' : List RS} {ev v : Value}

/-- The list of conditions has been turned, in its own block or a new one. -/
theorem In.ifs_any {w2 : World} (h : In w B ib C ab mn mac ifs bol text S rs) (hbl : C.bl = true) (ho2 : Only (fun k => k = ib ∨ (S 4).ownBlock = some k) w w2) (hblk : Blk w2 ib 73 10 S') (hS : ∀ i, i ≠ 4 → S' i = S i) (hrow2 : w2.ownsRow B 4 1 (S' 4) l'.length (l'.map Value.bool)) :
    Inp w2 B ib C ab mn mac l' bol text ∧ Soft B C.bl w w2 := by
  have hib : Typed w ib (· = 73) := h.stk.blk.typed rfl
  have hbt : ∀ k, (S 4).ownBlock = some k → B ≤ k ∧ Typed w k (· = 4) := fun k hk => ownBlock_row h.env.ifr k hk
  have hE : ∀ k, (k = ib ∨ (S 4).ownBlock = some k) → B ≤ k ∧ Typed w k (fun T => T = 73 ∨ T = 4) := fun k hk => by
    rcases hk with e | e
    · obtain ⟨c, T, h1, h2⟩ := hib
      exact ⟨e ▸ h.stk.low, e ▸ ⟨c, T, h1, .inl h2⟩⟩
    · obtain ⟨h0, c, T, h1, h2⟩ := hbt k e
      exact ⟨h0, c, T, h1, .inr h2⟩
  have hne : ∀ {k : Nat} {P : TypeId → Prop}, Typed w k P → ¬ P 73 → ¬ P 4 → ¬ (k = ib ∨ (S 4).ownBlock = some k) := fun ht h1 h2 e => typed_ne ht (hE _ e).2 (fun T a b => by rcases b with b | b; exact h1 (b ▸ a); exact h2 (b ▸ a)) rfl
  have hnt : ∀ k, (k = ib ∨ (S 4).ownBlock = some k) → k < w.heap.size → ∀ U : TypeId, U ≠ 73 → U ≠ 4 → ¬ Typed w k (· = U) := fun k e hk U h1 h2 ht => typed_ne ht (hE k e).2 (fun T a b => by rcases b with b | b; exact h1 (a.symm.trans b); exact h2 (a.symm.trans b)) rfl
  have hmap : ∀ {b n : Nat} {f : Bs → Option Value}, SMap w b n f → SMap w2 b n f := fun hm => hm.of_heap (ho2.block _ hm.lt (fun e => hm.not_typed (hE _ e).2))
  have hs : Stk w2 B ib S' rs := ⟨hblk, h.stk.low, by rw [hS 0 (by omega)]; exact row_only h.stk.row ho2 (fun k e hk => hnt k e hk _ (by decide) (by decide)),
    fun r hr => Rd.only (h.stk.rds r hr) ho2 (fun k hk => hne (Rd.foot (h.stk.rds r hr) k hk).2 (by unfold RT; decide) (by unfold RT; decide)) (fun k e hk => hnt k e hk _ (by decide) (by decide)), h.stk.apart⟩
  obtain ⟨f, m1, m2, m3⟩ := h.env.mcs
  obtain ⟨nf, hf⟩ := h.env.fis
  have hen : Env w2 B S' C mn mac l' := ⟨hrow2, (hS 5 (by omega)).trans h.env.mcv, ⟨f, hmap m1, m2, fun x m hx => by
      obtain ⟨b, hb, hm⟩ := m3 x m hx
      exact ⟨b, hb, hm.only ho2 (fun k e hk => ⟨hnt k e hk _ (by decide) (by decide), hnt k e hk _ (by decide) (by decide), hnt k e hk _ (by decide) (by decide)⟩)⟩⟩, h.env.mlow, (hS 2 (by omega)).trans h.env.fiv, ⟨nf, hmap hf⟩, h.env.ne, by rw [hS 1 (by omega)]; exact row_only h.env.inv ho2 (fun k e hk => hnt k e hk _ (by decide) (by decide)), by rw [hS 1 (by omega)]; exact h.env.inl⟩
  refine ⟨⟨_, rs, ⟨hs, h.abs, fun r hr => ?_, hen, (hS 3 (by omega)).trans h.s3, (hS 6 (by omega)).trans h.s6, (hS 7 (by omega)).trans h.s7, by rw [hS 8 (by omega)]; exact h.s8, by rw [hS 9 (by omega)]; exact h.s9⟩⟩, ?_⟩
  · obtain ⟨S2, hb, hn⟩ := h.nms r hr
    exact ⟨S2, hb.only ho2 (hne (hb.typed (P := (· = 129)) rfl) (by decide) (by decide)), hn⟩
  · refine Soft.of ho2 (fun k e _ => ⟨(hE k e).1, ?_⟩)
    obtain ⟨c, T, h1, h2⟩ := (hE k e).2
    rcases h2 with h2 | h2
    · exact .inl ⟨c, T, h1, .inl (.inr (.inl h2))⟩
    · exact .inl ⟨c, T, h1, .inr ⟨hbl, h2⟩⟩

theorem In.ifs_blk (h : In w B ib C ab mn mac ifs bol text S rs) (ho : Only (fun k => (S 4).ownBlock = some k) w w1) : Blk w1 ib 73 10 S :=
  h.stk.blk.only ho (fun e => typed_ne (ownBlock_row h.env.ifr _ e).2 (h.stk.blk.typed (P := (· = 73)) rfl) (fun T a b => by rw [a] at b; revert b; decide) rfl)

theorem In.ifs_put (h : In w B ib C ab mn mac ifs bol text S rs) (hbl : C.bl = true) (ho : Only (fun k => (S 4).ownBlock = some k) w w1) (hrow : w1.ownsRow B 4 1 v l'.length (l'.map Value.bool)) :
    Inp (w1.setCell ⟨ib, 4, none⟩ v) B ib C ab mn mac l' bol text ∧ Soft B C.bl w (w1.setCell ⟨ib, 4, none⟩ v) := by
  have hb1 := h.ifs_blk ho
  refine h.ifs_any (S' := upd S 4 v) hbl ((ho.mono (fun k _ e => .inr e)).setCell (p := ⟨ib, 4, none⟩) (fun _ => .inl rfl) v) (hb1.set 4 v) (fun i hi => upd_other _ _ hi) ?_
  rw [upd_same]
  exact ownsRow_only hrow (fun k hk => by
    have ht := (ownBlock_row hrow k hk).2
    have h1 : Typed w1 ib (· = 73) := hb1.typed rfl
    have hkn : k ≠ ib := fun e => typed_ne (e ▸ ht) h1 (fun T a b => by rw [a] at b; revert b; decide) rfl
    exact ((Only.refl (fun k => k = ib) w1).setCell (p := ⟨ib, 4, none⟩) (fun _ => rfl) v).block k ht.lt hkn)

/-- .. in place. -/
theorem In.ifs_turn (h : In w B ib C ab mn mac ifs bol text S rs) (hbl : C.bl = true) (ho : Only (fun k => (S 4).ownBlock = some k) w w1) (hrow : w1.ownsRow B 4 1 (S 4) l'.length (l'.map Value.bool)) :
    Inp w1 B ib C ab mn mac l' bol text ∧ Soft B C.bl w w1 :=
  h.ifs_any (S' := S) hbl (ho.mono (fun k _ e => .inr e)) (h.ifs_blk ho) (fun _ _ => rfl) hrow

set_option maxRecDepth 100000 in
set_option maxHeartbeats 1000000 in
theorem inExpectNl {rest : List Ab} {a : Ab} {nl : Tok} {ts : List Tok} {d : ByteArray} (h : Inp w B ib C (a :: rest) mn mac ifs bol text) (hts : a.ts = nl :: ts) (hnl : nl.k = 10) (hg : Glob w ev) (hB : 21 ≤ B) (hl : (a :: rest).length < 500) :
    Calls Tryz.prog 91 #[.pointer (some ⟨ib, 0, none⟩), .string d] w (InQ B ib C ({ a with cur := nl, ts := ts } :: rest) mn mac ifs bol text (.tuple #[]) w) := by
  have hn := inNext (dead := []) h (fun _ h => by cases h) hts hg hB hl
  rw [hnl] at hn
  have Hn := Lib.hid hn
  clear h hts hnl hg hl hn
  go_enter Tryz.func91, Tryz.ntmps91
  go_wp2_with fail
  refine Hn.out.mono ?_
  rintro e w1 hq
  have Hq := Lib.hid hq
  obtain ⟨rfl, _⟩ := hq
  go_wp2
  go_end0
  exact ⟨rfl, Hq.out.2⟩

/-- What the row of conditions looks like. -/
theorem In.c4 (h : In w B ib C ab mn mac ifs bol text S rs) : ∃ ad c, S 4 = .slice ad ifs.length c ∧ w.cell? ⟨ib, 4, none⟩ = some (.slice ad ifs.length c) ∧ w.frozen? ⟨ib, 4, none⟩ = false := by
  obtain ⟨ad, c, hS⟩ : ∃ ad c, S 4 = .slice ad ifs.length c := by
    obtain ⟨_, ⟨e, e0⟩ | ⟨g, cap, cur, e, _⟩⟩ := h.env.ifr
    · exact ⟨none, 0, by rw [e, e0]⟩
    · exact ⟨_, _, e⟩
  exact ⟨ad, c, hS, h.stk.blk.cell_eq (by decide) hS, h.stk.blk.frozen 4⟩

theorem Inp.mac_ok (h : Inp w B ib C ab mn mac ifs bol text) (x : Bs) (hl : x.length ≤ 1000000) :
    ∃ pv, (Instr.lookup 71 (.map (some C.mb)) (.string (mkS x)) true).run Tryz.prog w = .ok (.tuple #[pv, .bool (mac x).isSome]) w := by
  obtain ⟨S, rs, h⟩ := h
  obtain ⟨f, m1, m2, m3⟩ := h.env.mcs
  have := m1.look_ok Tryz.underlying71 zero_ptr_macro x hl
  refine ⟨((f x).map fun b => Value.pointer (some ⟨b, 0, none⟩)).getD (.pointer none), ?_⟩
  rw [this]
  cases hx : mac x with
  | none => rw [m2 x hx]; rfl
  | some m => obtain ⟨b, hb, _⟩ := m3 x m hx; rw [hb]; rfl

theorem infoBool : (Tryz.prog.info? 4).map (fun i => (i.zero, i.size, i.bytes)) = some (some (.bool false), 1, 1) := by kernel_rfl

theorem cellOneI (w : World) (x : Value) (T : TypeId) : ∀ j u, [x][j]? = some u → (w.alloc (.cells #[x] T)).cell? ((⟨w.heap.size, 0, none⟩ : Addr).add j) = some u := by
  intro j u h
  have hB := Blk.lit w #[x] T
  rw [Addr.add_lit, Nat.zero_add]
  have hj := (List.getElem?_eq_some_iff.1 h).1
  obtain rfl : j = 0 := by simp at hj; omega
  exact hB.cell_eq (i := 0) (by simp) (by simpa using h)

set_option maxRecDepth 100000 in
set_option maxHeartbeats 2000000 in
theorem ifdef_plain {dead rest : List Ab} {a : Ab} {nt nl : Tok} {ts : List Tok} {t : Bool} (h : Inp w B ib C (dead ++ a :: rest) mn mac ifs bol text) (hbl : C.bl = true) (hd : ∀ d ∈ dead, d.ts = []) (hats : a.ts = nt :: nl :: ts)
    (hnk : nt.k = -2) (hnx : nt.x.length ≤ 1000) (hnl : nl.k = 10) (hon : onB ifs = true) (hil : ifs.length < 900) (hg : Glob w ev) (hB : 21 ≤ B) (hl : (dead ++ a :: rest).length < 500) :
    Calls Tryz.prog 70 #[.pointer (some ⟨ib, 0, none⟩), .bool t] w (InQ B ib C ({ a with cur := nl, ts := ts } :: rest) mn mac (ifs ++ [(mac nt.x).isSome == t]) bol text (.tuple #[]) w) := by
  obtain ⟨i0, hi, hz0, hz1, hz2⟩ := info_parts infoBool
  have Hn := Lib.hid (inMacroName h hd (t := nt) (ts := nl :: ts) hats hnk hg hB hl)
  have hl2 : ({ a with cur := nt, ts := nl :: ts } :: rest : List Ab).length < 500 := by simp at hl ⊢; omega
  have Hnl := Lib.hid (fun (w1 : World) (d : ByteArray) (h1 : Inp w1 B ib C ({ a with cur := nt, ts := nl :: ts } :: rest) mn mac ifs bol text) (hg1 : Glob w1 ev) => inExpectNl (d := d) h1 (nl := nl) (ts := ts) rfl hnl hg1 hB hl2)
  have Hen := Lib.hid (fun (w1 : World) (h1 : Inp w1 B ib C ({ a with cur := nl, ts := ts } :: rest) mn mac ifs bol text) => inEnabled h1 (by omega))
  rw [hon] at Hen
  have Hg := Lib.hid hg
  have Hbl := Lib.hid hbl
  obtain ⟨dn, hdn⟩ : ∃ d, d = (mac nt.x).isSome := ⟨_, rfl⟩
  rw [← hdn]
  have Hdn := Lib.hid hdn
  clear h hd hats hnk hnl hg hl hl2 hon hbl hdn
  go_enter Tryz.func70, Tryz.ntmps70
  go_wp2_with fail
  refine Hn.out.mono ?_
  rintro e w1 ⟨rfl, h1, s1⟩
  have Hn1 := Lib.hid (fun d => Hnl.out w1 d h1 (s1.glob Hg.out hB))
  have S1 := Lib.hid s1
  clear h1 s1
  go_wp2_with fail
  refine (Hn1.out _).mono ?_
  rintro e w2 ⟨rfl, h2, s2⟩
  have He := Lib.hid (Hen.out w2 h2)
  have S2 := Lib.hid (S1.out.trans s2)
  have H2 := Lib.hid h2
  clear h2 s2 Hn1
  go_wp2_with fail
  refine He.out.mono ?_
  rintro e w3 ⟨rfl, m3, rfl⟩
  have h3 := H2.out.drewN m3
  have S3 : Hid (Soft B C.bl w (w2.drewN m3)) := Lib.hid (S2.out.trans ((Soft.refl B C.bl w2).drewN m3))
  clear He
  generalize w2.drewN m3 = w3 at h3 S3 ⊢
  have hlow := h3.low
  obtain ⟨pv, hlook⟩ := h3.mac_ok nt.x (by omega)
  obtain ⟨S, rs, h3⟩ := h3
  rw [← Hdn.out] at hlook
  have c5 : w3.cell? ⟨ib, 5, none⟩ = some (.map (some C.mb)) := h3.stk.blk.cell_eq (by decide) h3.env.mcv
  obtain ⟨ad, c, hS4, k4, f4⟩ := h3.c4
  obtain ⟨n, hn⟩ : ∃ n, n = ifs.length := ⟨_, rfl⟩
  rw [← hn] at hS4 k4
  have H3 := Lib.hid h3
  have HS4 := Lib.hid hS4
  have HN := Lib.hid hn
  have hn9 : n < 900 := by omega
  have hrow : w3.ownsRow B 4 1 (.slice ad n c) n (ifs.map Value.bool) := by have := h3.env.ifr; rwa [hS4, ← hn] at this
  have Hrow := Lib.hid hrow
  clear h3 hS4 hn hrow
  have fin : ∀ (b : Bool) (v' : Value) (w5 : World), b = (dn == t) → w5.ownsRow B 4 1 v' (n + 1) (ifs.map Value.bool ++ [.bool b]) → (w3.alloc (.cells #[.bool b] 4)).grownBy w5 (Value.slice ad n c).ownBlock →
      InQ B ib C ({ a with cur := nl, ts := ts } :: rest) mn mac (ifs ++ [dn == t]) bol text (.tuple #[]) w (.returned (.tuple #[])) (w5.setCell ⟨ib, 4, none⟩ v') ∧ w5.cell? ⟨ib, 4, none⟩ = some (.slice ad n c) ∧ w5.frozen? ⟨ib, 4, none⟩ = false := fun b v' w5 hb hown hgrow => by
    have ho : Only (fun k => (S 4).ownBlock = some k) w3 w5 := ((Only.ofBelow ((Below.refl w3.heap.size w3).alloc (Nat.le_refl _) (.cells #[.bool b] 4))).mono (fun k hk e => absurd hk (by omega))).grown hgrow (fun k hk _ => by rw [HS4.out]; exact hk)
    have hown2 : w5.ownsRow B 4 1 v' (ifs ++ [dn == t]).length ((ifs ++ [dn == t]).map Value.bool) := by
      rw [List.length_append, List.map_append, ← HN.out, ← hb]
      exact hown
    obtain ⟨q1, q2⟩ := H3.out.ifs_put (l' := ifs ++ [dn == t]) Hbl.out ho hown2
    have hib : Blk w5 ib 73 10 S := H3.out.stk.blk.only ho (fun e => typed_ne (ownBlock_row H3.out.env.ifr _ e).2 (H3.out.stk.blk.typed (P := (· = 73)) rfl) (fun T a b => by rw [a] at b; revert b; decide) rfl)
    exact ⟨⟨rfl, q1, S3.out.trans q2⟩, hib.cell_eq (by decide) HS4.out, hib.frozen 4⟩
  have Fin := Lib.hid fin
  clear fin
  cases dn with
  | true =>
    go_wp2_with (at_builtin; refine wpList_append_own _ rfl _ _ 70 rfl B 4 i0 (.bool false) 1 1 Tryz.underlying70 hi hz0 hz1 hz2 rfl (by decide) _ _ _ rfl (Hrow.out.alloc _) ⟨w3.heap.size, 0, none⟩ 1 1 [.bool t] rfl rfl ?c1 ?c2 ?c3 ?c4 ?c5 ?_)
    case c1 => exact cellOneI _ _ _
    case c2 => intro u hu; simp at hu; subst hu; rfl
    case c3 => unfold maxLen; omega
    case c4 => omega
    case c5 => simp; omega
    intro v' w5 hown hgrow _
    obtain ⟨g8, c8, rfl⟩ : ∃ g8 c8, v' = .slice (some ⟨g8, 0, none⟩) (n + 1) c8 := by
      obtain ⟨_, ⟨_, h0⟩ | ⟨g, cap, cur, e, _⟩⟩ := hown
      · omega
      · exact ⟨g, cap, e⟩
    obtain ⟨q1, q2, q3⟩ := Fin.out t _ w5 (by cases t <;> rfl) hown hgrow
    have Hq := Lib.hid q1
    clear q1 hown hgrow
    go_wp2
    go_end0
    have q := Hq.out
    rw [show (true == t) = t by cases t <;> rfl] at q
    exact q
  | false =>
    go_wp2_with (at_builtin; refine wpList_append_own _ rfl _ _ 70 rfl B 4 i0 (.bool false) 1 1 Tryz.underlying70 hi hz0 hz1 hz2 rfl (by decide) _ _ _ rfl (Hrow.out.alloc _) ⟨w3.heap.size, 0, none⟩ 1 1 [.bool (!t)] rfl rfl ?c1 ?c2 ?c3 ?c4 ?c5 ?_)
    case c1 => exact cellOneI _ _ _
    case c2 => intro u hu; simp at hu; subst hu; rfl
    case c3 => unfold maxLen; omega
    case c4 => omega
    case c5 => simp; omega
    intro v' w5 hown hgrow _
    obtain ⟨g8, c8, rfl⟩ : ∃ g8 c8, v' = .slice (some ⟨g8, 0, none⟩) (n + 1) c8 := by
      obtain ⟨_, ⟨_, h0⟩ | ⟨g, cap, cur, e, _⟩⟩ := hown
      · omega
      · exact ⟨g, cap, e⟩
    obtain ⟨q1, q2, q3⟩ := Fin.out (!t) _ w5 (by cases t <;> rfl) hown hgrow
    have Hq := Lib.hid q1
    clear q1 hown hgrow
    go_wp2
    go_end0
    have q := Hq.out
    rw [show (false == t) = !t by cases t <;> rfl] at q
    exact q

/-- The row of one condition: its cell; it is shortened; it is turned. -/
theorem one_row {b : Bool} {ad : Option Addr} {n c : Nat} (h : w.ownsRow B 4 1 (.slice ad n c) n [.bool b]) : ∃ g, ad = some ⟨g, 0, none⟩ ∧ n = 1 ∧ 1 ≤ c ∧ w.cell? ⟨g, 0, none⟩ = some (.bool b) ∧ w.frozen? ⟨g, 0, none⟩ = false ∧ w.ownsRow B 4 1 (.slice (some ⟨g, 0, none⟩) 0 c) 0 [] ∧
    ∀ d, (w.setCell ⟨g, 0, none⟩ (.bool d)).ownsRow B 4 1 (.slice (some ⟨g, 0, none⟩) 1 c) 1 [.bool d] ∧ Only (fun k => k = g) w (w.setCell ⟨g, 0, none⟩ (.bool d)) := by
  have h' := h
  obtain ⟨h1, ⟨e, e0⟩ | ⟨g, cap, cur, e, a1, a2, a3, a4, a5, a6⟩⟩ := h
  · simp at h1; omega
  · have hn : n = 1 := by simp at h1; omega
    subst hn
    cases e
    refine ⟨g, rfl, rfl, a3, ?_⟩
    have hc1 : 0 < c := a3
    have hB : Blk w g 4 c (fun i => cur.toList.getD i undef) := ⟨cur, a2, by omega, fun i hi => by
      have hlt : i < cur.toList.length := by simp; omega
      show cur[i]? = some (cur.toList.getD i undef)
      rw [List.getD_eq_getElem?_getD, List.getElem?_eq_getElem hlt]
      simp [Array.getElem?_eq_getElem (show i < cur.size by omega)]⟩
    have h0 : cur.toList.getD 0 undef = .bool b := by
      cases hc : cur.toList with
      | nil => rw [hc] at a6; simp at a6
      | cons x r => rw [hc] at a6; simp at a6; simp [a6]
    refine ⟨hB.cell_eq (i := 0) hc1 h0, hB.frozen 0, ⟨rfl, .inr ⟨g, c, cur, rfl, a1, a2, Nat.zero_le _, a4, a5, rfl⟩⟩, fun d => ⟨?_, (Only.refl (fun k => k = g) w).setCell (p := ⟨g, 0, none⟩) (fun _ => rfl) (.bool d)⟩⟩
    obtain ⟨c', q1, q2, q3⟩ := hB.set 0 (.bool d)
    have q4 := q3 0 hc1
    rw [upd_same] at q4
    refine ⟨rfl, .inr ⟨g, c, c', rfl, a1, q1, a3, a4, by omega, ?_⟩⟩
    cases hc : c'.toList with
    | nil => have := congrArg List.length hc; simp at this; rw [this] at q2; simp at q2; omega
    | cons x r =>
      have : c'.toList[0]? = some (.bool d) := by simpa using q4
      rw [hc] at this
      simp at this
      simp [this]

set_option maxRecDepth 100000 in
set_option maxHeartbeats 2000000 in
theorem endif_plain {rest : List Ab} {a : Ab} {nl : Tok} {ts : List Tok} {b : Bool} (h : Inp w B ib C (a :: rest) mn mac [b] bol text) (hbl : C.bl = true) (hats : a.ts = nl :: ts) (hnl : nl.k = 10) (hg : Glob w ev) (hB : 21 ≤ B) (hl : (a :: rest).length < 500) :
    Calls Tryz.prog 69 #[.pointer (some ⟨ib, 0, none⟩)] w (InQ B ib C ({ a with cur := nl, ts := ts } :: rest) mn mac [] bol text (.tuple #[]) w) := by
  have Hnl := Lib.hid (fun (d : ByteArray) => inExpectNl (d := d) h (nl := nl) (ts := ts) hats hnl hg hB hl)
  have Hbl := Lib.hid hbl
  clear h hats hnl hg hl hbl
  go_enter Tryz.func69, Tryz.ntmps69
  go_wp2_with fail
  refine (Hnl.out _).mono ?_
  rintro e w1 ⟨rfl, h1, s1⟩
  obtain ⟨S, rs, h1⟩ := h1
  obtain ⟨ad, c, hS4, k4, f4⟩ := h1.c4
  have hrow : w1.ownsRow B 4 1 (.slice ad 1 c) 1 [.bool b] := by have := h1.env.ifr; rwa [hS4] at this
  obtain ⟨g, had, _, hc, kg, fg, hz, _⟩ := one_row hrow
  subst had
  have k4' : w1.cell? ⟨ib, 4, none⟩ = some (.slice (some ⟨g, 0, none⟩) 1 c) := k4
  have hfin := h1.ifs_put (l' := []) Hbl.out (w1 := w1.drew) ((Only.refl _ w1).drewN 1) (ownsRow_only hz (fun _ _ => rfl))
  have Hfin : Hid (InQ B ib C ({ a with cur := nl, ts := ts } :: rest) mn mac [] bol text (.tuple #[]) w (.returned (.tuple #[])) (w1.drew.setCell ⟨ib, 4, none⟩ (.slice (some ⟨g, 0, none⟩) 0 c))) := Lib.hid ⟨rfl, hfin.1, s1.trans hfin.2⟩
  have c1 : (0 : Int) ≤ (c : Int) := by omega
  have e0 : IntKind.i64.wrap (0 : Int) = 0 := by decide
  have e00 : IntKind.i64.wrap ((1 : Int) - 1) = 0 := by decide
  clear h1 s1 hS4 hrow hz hfin Hbl k4
  go_upto_region 3 with (fail)
  go_still_tail 14, (by kernel_rfl)
  change wpList _ _ _ _ _ (World.drew _)
  go_wp2
  go_end0
  exact Hfin.out

set_option maxRecDepth 100000 in
set_option maxHeartbeats 4000000 in
theorem else_plain {rest : List Ab} {a : Ab} {nl : Tok} {ts : List Tok} {b : Bool} (h : Inp w B ib C (a :: rest) mn mac [b] bol text) (hbl : C.bl = true) (hats : a.ts = nl :: ts) (hnl : nl.k = 10) (hg : Glob w ev) (hB : 21 ≤ B) (hl : (a :: rest).length < 500) :
    Calls Tryz.prog 68 #[.pointer (some ⟨ib, 0, none⟩)] w (InQ B ib C ({ a with cur := nl, ts := ts } :: rest) mn mac [!b] bol text (.tuple #[]) w) := by
  have Hnl := Lib.hid (fun (d : ByteArray) => inExpectNl (d := d) h (nl := nl) (ts := ts) hats hnl hg hB hl)
  have Hbl := Lib.hid hbl
  clear h hats hnl hg hl hbl
  go_enter Tryz.func68, Tryz.ntmps68
  go_wp2_with fail
  refine (Hnl.out _).mono ?_
  rintro e w1 ⟨rfl, h1, s1⟩
  obtain ⟨S, rs, h1⟩ := h1
  obtain ⟨ad, c, hS4, k4, f4⟩ := h1.c4
  have hrow : w1.ownsRow B 4 1 (.slice ad 1 c) 1 [.bool b] := by have := h1.env.ifr; rwa [hS4] at this
  obtain ⟨g, had, _, hc, kg, fg, hz, hset⟩ := one_row hrow
  subst had
  have k4' : w1.cell? ⟨ib, 4, none⟩ = some (.slice (some ⟨g, 0, none⟩) 1 c) := k4
  have hfin : ∀ m j, InQ B ib C ({ a with cur := nl, ts := ts } :: rest) mn mac [!b] bol text (.tuple #[]) w (.returned (.tuple #[])) (((w1.drewN m).setCell ⟨g, 0, none⟩ (.bool !b)).drewN j) := fun m j => by
    obtain ⟨q1, q2⟩ := hset (!b)
    have ho : Only (fun k => (S 4).ownBlock = some k) w1 (((w1.drewN m).setCell ⟨g, 0, none⟩ (.bool !b)).drewN j) :=
      (((Only.refl _ w1).drewN m).setCell (p := ⟨g, 0, none⟩) (fun _ => by rw [hS4]; rfl) (.bool !b)).drewN j
    obtain ⟨r1, r2⟩ := h1.ifs_turn (l' := [!b]) Hbl.out ho (by rw [hS4]; exact ownsRow_only q1 (fun _ _ => rfl))
    exact ⟨rfl, r1, s1.trans r2⟩
  have Hfin := Lib.hid hfin
  have e00 : IntKind.i64.wrap ((1 : Int) - 1) = 0 := by decide
  have e0 : IntKind.i64.wrap (0 : Int) = 0 := by decide
  clear h1 s1 hS4 hrow hz hfin Hbl k4 hset
  go_upto_region 3 with (fail)
  go_quiet (fail)
  go_upto_region 4 with (fail)
  have k5 : (w1.drewN nq).cell? ⟨ib, 4, none⟩ = some (.slice (some ⟨g, 0, none⟩) 1 c) := k4'
  have k6 : (w1.drewN nq).cell? ⟨g, 0, none⟩ = some (.bool b) := kg
  have k7 : (w1.drewN nq).frozen? ⟨g, 0, none⟩ = false := fg
  have Hf2 := Lib.hid (Hfin.out nq)
  clear k4' kg fg Hfin f4
  generalize w1.drewN nq = w2 at k5 k6 k7 Hf2 ⊢
  go_still_tail 24, (by kernel_rfl)
  change wpList _ _ _ _ _ (World.drew _)
  go_wp2
  go_end0
  exact Hf2.out 1
end
theorem newReader_str {w : World} {x : ByteArray} : Calls Tryz.prog 33 #[.string x] w (fun e w' => e = .returned (.pointer (some ⟨w.heap.size, 0, none⟩)) ∧ w' = w.alloc (.cells #[.string x, .int .i64 0, .int .i64 (-1)] 104)) := by
  go_enter Tryz.func33, Tryz.ntmps33
  go_wp2
  go_ret
  exact ⟨rfl, rfl⟩

/-- Unquote takes a text's marks away. -/
def UnqQ (x : Bs) (w : World) (e : Ending) (w' : World) : Prop := e = .returned (.tuple #[.string (mkS x), .nilIface]) ∧ Below w.heap.size w w'

section
variable {w w' : World} {B ib : Nat} {C : Cfg} {ab ab' : List Ab} {mn : Nat} {mac : Bs → Option Mc} {ifs : List Bool} {bol : Bool} {text : Bs} {ev : Value}

theorem Inp.file_ok (h : Inp w B ib C ab mn mac ifs bol text) {x : Bs} {t : ByteArray} (hF : C.F x = some t) (hl : x.length ≤ 1000000) :
    w.cell? ⟨ib, 2, none⟩ = some (.map (some C.fb)) ∧ (Instr.lookup 48 (.map (some C.fb)) (.string (mkS x)) true).run Tryz.prog w = .ok (.tuple #[.string t, .bool true]) w := by
  obtain ⟨S, rs, h⟩ := h
  obtain ⟨n, hf⟩ := h.env.fis
  have := hf.look_ok Tryz.underlying48 (z := .string ⟨#[]⟩) (fun w => by kernel_rfl) x hl
  rw [hF] at this
  exact ⟨h.stk.blk.cell_eq (by decide) h.env.fiv, this⟩

/-- What is left behind a file's name: the file stands ahead. -/
def IncAb (nmB : Bs) (T : List Tok) (ab : List Ab) : List Ab := ⟨true, mkS nmB, ⟨0, [], 1, 1⟩, T⟩ :: ab

set_option maxRecDepth 100000 in
set_option maxHeartbeats 2000000 in
theorem include_plain {dead rest : List Ab} {a : Ab} {st nl : Tok} {ts T : List Tok} {nmB txt : Bs} (h : Inp w B ib C (dead ++ a :: rest) mn mac ifs bol text) (hd : ∀ d ∈ dead, d.ts = []) (hats : a.ts = st :: nl :: ts)
    (hsk : st.k = -6) (hun : ∀ w, Calls Tryz.prog 92 #[.string (mkS st.x)] w (UnqQ nmB w)) (hnl : nl.k = 10) (hF : C.F nmB = some (mkS txt)) (hxl : nmB.length ≤ 1000) (htl : TL txt 1 1 T) (ha : ascii txt) (hlen : txt.length < 900000) (hg : Glob w ev) (hB : 21 ≤ B) (hl : (dead ++ a :: rest).length < 500) (hl9 : rest.length ≤ 90) :
    Calls Tryz.prog 71 #[.pointer (some ⟨ib, 0, none⟩)] w (InQ B ib C (IncAb nmB T ({ a with cur := nl, ts := ts } :: rest)) mn mac ifs bol text (.tuple #[]) w) := by
  have hBw : B ≤ w.heap.size := by
    obtain ⟨S, rs, h⟩ := h
    exact Nat.le_of_lt (Nat.lt_of_le_of_lt h.stk.low h.stk.blk.lt)
  have hn := inNext h hd hats hg hB hl
  rw [hsk] at hn
  have Hn := Lib.hid hn
  have hl2 : ({ a with cur := st, ts := nl :: ts } :: rest : List Ab).length < 500 := by simp at hl ⊢; omega
  have Htx := Lib.hid (fun (w1 : World) (h1 : Inp w1 B ib C ({ a with cur := st, ts := nl :: ts } :: rest) mn mac ifs bol text) => inText h1 (by show st.k ≠ 0; rw [hsk]; decide) hl2)
  have Hnl := Lib.hid (fun (w1 : World) (d : ByteArray) (h1 : Inp w1 B ib C ({ a with cur := st, ts := nl :: ts } :: rest) mn mac ifs bol text) (hg1 : Glob w1 ev) => inExpectNl (d := d) h1 (nl := nl) (ts := ts) rfl hnl hg1 hB hl2)
  have Hfo := Lib.hid (fun (w1 : World) (h1 : Inp w1 B ib C ({ a with cur := nl, ts := ts } :: rest) mn mac ifs bol text) => h1.file_ok hF (by omega))
  have Hps := Lib.hid (fun (w0 w1 : World) (tz sb bb rb : Nat) (rv : Value) (h1 : Inp w0 B ib C ({ a with cur := nl, ts := ts } :: rest) mn mac ifs bol text) (hb : Below w0.heap.size w0 w1) (hz : Tz w1 B tz sb rb rv (.pointer (some ⟨bb, 0, none⟩)) none txt 1 1 0 []) (hp : PB w1 bb (mkS nmB)) (k1 : w0.heap.size ≤ tz) (k2 : w0.heap.size ≤ sb) (k3 : w0.heap.size ≤ rb) =>
    inPush (r := ⟨.iface 61 (.pointer (some ⟨tz, 0, none⟩)), TzD tz sb rb none, bb, mkS nmB, ⟨0, [], 1, 1⟩, T⟩) (a := ⟨true, mkS nmB, ⟨0, [], 1, 1⟩, T⟩) h1 hb (.tz hz htl (by show 1 + txt.length < 1000000; omega) (by simp)) (by
      rintro k (e | e | e | e)
      · omega
      · omega
      · omega
      · cases e) hp ⟨rfl, rfl, rfl, fun _ => ⟨tz, rfl⟩⟩ (by simp; omega))
  have Htk := Lib.hid (fun (w1 : World) (hB1 : B ≤ w1.heap.size) => newTok_any (w := w1.alloc (.cells #[.string (mkS txt), .int .i64 0, .int .i64 (-1)] 104)) (B := B) (rb := w1.heap.size) (ty := 63) (ra := some ⟨w1.heap.size, 0, none⟩) (nm := mkS nmB) (text := txt) (by simp; omega) ⟨hB1, .inr ⟨rfl, _, txt, 0, -1, Blk.lit w1 _ _, rfl, rfl, rfl, by omega, rfl, by omega⟩⟩ (by simp) ha (by omega))
  have Hun := Lib.hid hun
  have Hg := Lib.hid hg
  clear h hd hats hsk hnl hg hl hl2 hn hun hF hxl htl ha hlen hl9
  go_enter Tryz.func71, Tryz.ntmps71
  go_wp2_with fail
  refine Hn.out.mono ?_
  rintro e w1 ⟨rfl, h1, s1⟩
  have Ht1 := Lib.hid (Htx.out w1 h1)
  have S1 := Lib.hid s1
  clear h1 s1 Htx Hn
  go_wp2_with fail
  refine Ht1.out.mono ?_
  rintro e w2 ⟨rfl, h2, s2⟩
  have H2 := Lib.hid h2
  have S2 := Lib.hid (S1.out.trans s2)
  clear h2 s2 Ht1
  go_wp2_with fail
  refine (Hun.out w2).mono ?_
  rintro e w3 ⟨rfl, hb3⟩
  have h3 := H2.out.below hb3
  have s3 := S2.out.trans (Soft.ofBelow hb3)
  have Hn3 := Lib.hid (fun d => Hnl.out w3 d h3 (s3.glob Hg.out hB))
  have S3 := Lib.hid s3
  clear h3 s3 hb3 H2
  go_wp2_with fail
  refine (Hn3.out _).mono ?_
  rintro e w4 ⟨rfl, h4, s4⟩
  obtain ⟨c2, hlk⟩ := Hfo.out w4 h4
  have H4 := Lib.hid h4
  have S4 := Lib.hid (S3.out.trans s4)
  have hBw4 : B ≤ w4.heap.size := Nat.le_trans hBw S4.out.size
  have HBw4 := Lib.hid hBw4
  clear h4 s4 Hn3 hBw4
  go_wp2_with fail
  refine newReader_str.mono ?_
  rintro e w5 ⟨rfl, rfl⟩
  have hb5 : Below w4.heap.size w4 (w4.alloc (.cells #[.string (mkS txt), .int .i64 0, .int .i64 (-1)] 104)) := (Below.refl _ _).alloc (Nat.le_refl _) _
  have Htk5 := Lib.hid (Htk.out w4 HBw4.out)
  have Hb5 := Lib.hid hb5
  clear hb5 hlk c2
  go_wp2_with fail
  refine Htk5.out.mono ?_
  rintro e w6 ⟨tz, sb, bb, rfl, hz, hpb, k1, k2, k3, hb6⟩
  have hb46 : Below w4.heap.size w4 w6 := Hb5.out.trans (hb6.mono Hb5.out.size)
  have Hps6 := Lib.hid (Hps.out w4 w6 tz sb bb _ _ H4.out hb46 hz hpb (Nat.le_trans Hb5.out.size k1) (Nat.le_trans Hb5.out.size k2) (Nat.le_refl _))
  have S6 := Lib.hid (S4.out.trans (Soft.ofBelow hb46))
  clear hz hpb k1 k2 k3 hb6 hb46 Htk5
  go_wp2_with fail
  refine Hps6.out.mono ?_
  rintro e w7 ⟨rfl, h7, s7⟩
  have Hfin : Hid (InQ B ib C (IncAb nmB T ({ a with cur := nl, ts := ts } :: rest)) mn mac ifs bol text (.tuple #[]) w (.returned (.tuple #[])) w7) := Lib.hid ⟨rfl, h7, S6.out.trans s7⟩
  clear h7 s7
  go_wp2
  go_end0
  exact Hfin.out
end
end Go.Proofs.YtpoimmpdncickaaGreatDoor

/- path.Join at this program (laid by the kit's shelf: lay-shelf.mjs, lay-plain.mjs). -/
namespace Go.Proofs.YtpoimmpdncickaaGreatDoor
open Go Go.Shelf

def pjLays_ren : Go.Shelf.Ren := ⟨fun | 31 => 93 | 30 => 59 | 46 => 78 | 47 => 79 | 48 => 80 | n => n, fun | 26 => 22 | 9 => 9 | 3 => 3 | 0 => 0 | 4 => 4 | 30 => 84 | 5 => 5 | 42 => 138 | 48 => 166 | n => n, fun | n => n⟩
theorem pjLays : Go.Proofs.Lays.ph31 Tryz.prog pjLays_ren := {
  mixed := by kernel_rfl
  f30 := Tryz.func59.trans (congrArg some (by kernel_rfl))
  f31 := Tryz.func93.trans (congrArg some (by kernel_rfl))
  f46 := Tryz.func78.trans (congrArg some (by kernel_rfl))
  f47 := Tryz.func79.trans (congrArg some (by kernel_rfl))
  f48 := Tryz.func80.trans (congrArg some (by kernel_rfl))
  t0 := Tryz.underlying0
  a0 := Tryz.isAgg0
  z0 := Tryz.sizeOf0
  v0 := Tryz.zeroValue0
  t3 := Tryz.underlying3
  a3 := Tryz.isAgg3
  z3 := Tryz.sizeOf3
  v3 := Tryz.zeroValue3
  t4 := Tryz.underlying4
  a4 := Tryz.isAgg4
  z4 := Tryz.sizeOf4
  v4 := Tryz.zeroValue4
  t5 := Tryz.underlying5
  a5 := Tryz.isAgg5
  z5 := Tryz.sizeOf5
  v5 := Tryz.zeroValue5
  t9 := Tryz.underlying9
  a9 := Tryz.isAgg9
  z9 := Tryz.sizeOf9
  v9 := Tryz.zeroValue9
  t26 := Tryz.underlying22
  a26 := Tryz.isAgg22
  z26 := Tryz.sizeOf22
  v26 := Tryz.zeroValue22
  t30 := Tryz.underlying84
  a30 := Tryz.isAgg84
  z30 := Tryz.sizeOf84
  v30 := Tryz.zeroValue84
  t42 := Tryz.underlying138
  a42 := Tryz.isAgg138
  z42 := Tryz.sizeOf138
  v42 := Tryz.zeroValue138
  t48 := Tryz.underlying166
  a48 := Tryz.isAgg166
  z48 := Tryz.sizeOf166
  v48 := Tryz.zeroValue166
  info5 := by kernel_rfl }

open Go.RowKit Go.Lib in
theorem path_join (bk o c : Nat) (xs : List ByteArray) (w : World) (hcells : ∀ (j : Nat) x, xs[j]? = some x → w.cell? ⟨bk, o + j, none⟩ = some (.string x)) (hbk : bk < w.heap.size) (hlen : Pa.lens (xs.map (·.data.toList)) + xs.length ≤ 281474976710656) :
    Calls Tryz.prog 93 #[.slice (some ⟨bk, o, none⟩) xs.length c] w fun e w' => e = .returned (.string ⟨(Pa.joinL (xs.map (·.data.toList))).toArray⟩) ∧ Below w.heap.size w w' := Any.path_Join pjLays bk o c xs w hcells hbk hlen
end Go.Proofs.YtpoimmpdncickaaGreatDoor

/- path.Join of a folder's name and a file's: plain lists. -/
namespace Go.Proofs.YtpoimmpdncickaaGreatDoor
open Go Go.Lib
set_option linter.unusedVariables false
set_option linter.unusedSimpArgs false

/-- A name as one element of a path. -/
def Elem (d : List UInt8) : Prop := 47 ∉ d ∧ d ≠ [] ∧ d ≠ [46] ∧ d ≠ [46, 46]

theorem els_one {d : List UInt8} (h : 47 ∉ d) : Pa.els d = [d] := by
  have := Pa.els_elem d [] h (.inl rfl)
  rw [List.append_nil] at this
  rw [this]
  rfl
theorem head_no47 {d r : List UInt8} (h : 47 ∉ d) (h0 : d ≠ []) : ((d ++ r).head? == some 47) = false := by
  cases d with
  | nil => exact absurd rfl h0
  | cons c t =>
    have : c ≠ 47 := fun e => h (by simp [e])
    simp [this]
theorem joinL_dir {d n : List UInt8} (hd : Elem d) (hn : Elem n) : Pa.joinL [d, n] = d ++ 47 :: n := by
  obtain ⟨a1, a2, a3, a4⟩ := hd
  obtain ⟨b1, b2, b3, b4⟩ := hn
  have e1 : Pa.joinBuf [d, n] = d ++ 47 :: n := by simp [Pa.joinBuf, Pa.joinStep, a2]
  have hne : d ++ 47 :: n ≠ [] := by simp
  unfold Pa.joinL
  rw [e1, if_neg hne, Pa.clean_eq_cleanEls, Pa.cleanEls_rel _ hne (head_no47 a1 a2), Pa.els_app, els_one a1, els_one b1]
  have e2 : ([d] ++ [n]).foldl (Pa.cleanStep false) [] = [n, d] := by
    simp only [List.singleton_append, List.foldl_cons, List.foldl_nil]
    rw [Pa.step_elem false [] d a2 a3 a4, Pa.step_elem false [d] n b2 b3 b4]
  rw [e2]
  have e3 : ([47] : List UInt8).intercalate ([n, d] : List (List UInt8)).reverse = d ++ 47 :: n := by simp [List.intercalate]
  rw [e3]
  simp
theorem joinL_dot {n : List UInt8} (hn : Elem n) : Pa.joinL [[46], n] = n := by
  obtain ⟨b1, b2, b3, b4⟩ := hn
  have e1 : Pa.joinBuf [[46], n] = [46] ++ 47 :: n := by simp [Pa.joinBuf, Pa.joinStep]
  have hne : ([46] : List UInt8) ++ 47 :: n ≠ [] := by simp
  unfold Pa.joinL
  rw [e1, if_neg hne, Pa.clean_eq_cleanEls, Pa.cleanEls_rel _ hne (by simp), Pa.els_app, els_one (d := [46]) (by simp), els_one b1]
  have e2 : ([[46]] ++ [n]).foldl (Pa.cleanStep false) [] = [n] := by
    simp only [List.singleton_append, List.foldl_cons, List.foldl_nil]
    rw [Pa.step_dot, Pa.step_elem false [] n b2 b3 b4]
  rw [e2]
  have e3 : ([47] : List UInt8).intercalate ([n] : List (List UInt8)).reverse = n := by simp [List.intercalate]
  rw [e3]
  simp [b2]
end Go.Proofs.YtpoimmpdncickaaGreatDoor

/- include: a file that is found in one of the folders. -/
namespace Go.Proofs.YtpoimmpdncickaaGreatDoor
open Go Go.RowKit Lex
set_option linter.unusedVariables false
set_option linter.unusedSimpArgs false

section
variable {w w' : World} {B ib : Nat} {C : Cfg} {ab ab' : List Ab} {mn : Nat} {mac : Bs → Option Mc} {ifs : List Bool} {bol : Bool} {text : Bs} {ev : Value}

theorem Inp.inc_at (h : Inp w B ib C ab mn mac ifs bol text) : ∃ av ac, w.cell? ⟨ib, 1, none⟩ = some (.slice av C.inc.length ac) ∧ Strs w (.slice av C.inc.length ac) C.inc := by
  obtain ⟨S, rs, h⟩ := h
  have hi := h.env.inv
  obtain ⟨av, n, ac, hS⟩ : ∃ av n ac, S 1 = .slice av n ac := by
    obtain ⟨_, ⟨e, _⟩ | ⟨g, cap, cur, e, _⟩⟩ := hi
    · exact ⟨_, _, _, e⟩
    · exact ⟨_, _, _, e⟩
  rw [hS] at hi
  have hn : n = C.inc.length := by
    obtain ⟨_, ⟨e, e0⟩ | ⟨g, cap, cur, e, _⟩⟩ := hi
    · cases e; exact e0.symm
    · cases e; rfl
  subst hn
  exact ⟨av, ac, h.stk.blk.cell_eq (by decide) hS, hi⟩
theorem Inp.fil_at (h : Inp w B ib C ab mn mac ifs bol text) : w.cell? ⟨ib, 2, none⟩ = some (.map (some C.fb)) ∧ ∃ n, SMap w C.fb n (fun x => (C.F x).map Value.string) := by
  obtain ⟨S, rs, h⟩ := h
  exact ⟨h.stk.blk.cell_eq (by decide) h.env.fiv, h.env.fis⟩
theorem Inp.ib_lt (h : Inp w B ib C ab mn mac ifs bol text) : ib < w.heap.size := h.low.2

/-- A file is found in one of the folders, the first one that has it. -/
def FoundAt (F : Bs → Option ByteArray) (inc : List ByteArray) (nmB txt : Bs) : Prop := ∃ (k : Nat) (jn : Nat → Bs), (∀ i, i ≤ k → ∃ d : ByteArray, inc[i]? = some d ∧ d.size ≤ 1000 ∧ Go.Lib.Pa.joinL [d.data.toList, nmB] = jn i ∧ (jn i).length ≤ 5000) ∧ (∀ i, i < k → F (jn i) = none) ∧ F (jn k) = some (mkS txt) ∧ k < 1000

def DLp (k : Nat) (w : World) (n : Nat) (v52 v5 v6 : Value) (wr : World) : Prop := ∃ i, v52 = .int .i64 (i : Nat) ∧ v5 = .string ⟨#[]⟩ ∧ v6 = .bool false ∧ i + n = k ∧ Below w.heap.size w wr

set_option maxRecDepth 100000 in
set_option maxHeartbeats 4000000 in
theorem include_dir {dead rest : List Ab} {a : Ab} {st nl : Tok} {ts T : List Tok} {nmB txt : Bs} {k : Nat} {jn : Nat → Bs} (h : Inp w B ib C (dead ++ a :: rest) mn mac ifs bol text) (hd : ∀ d ∈ dead, d.ts = []) (hats : a.ts = st :: nl :: ts)
    (hsk : st.k = -6) (hun : ∀ w, Calls Tryz.prog 92 #[.string (mkS st.x)] w (UnqQ nmB w)) (hnl : nl.k = 10) (hF0 : C.F nmB = none) (hj : ∀ i, i ≤ k → ∃ d : ByteArray, C.inc[i]? = some d ∧ d.size ≤ 1000 ∧ Go.Lib.Pa.joinL [d.data.toList, nmB] = jn i ∧ (jn i).length ≤ 5000) (hmiss : ∀ i, i < k → C.F (jn i) = none) (hhit : C.F (jn k) = some (mkS txt)) (hk : k < 1000)
    (hxl : nmB.length ≤ 1000) (htl : TL txt 1 1 T) (ha : ascii txt) (hlen : txt.length < 900000) (hg : Glob w ev) (hB : 21 ≤ B) (hl : (dead ++ a :: rest).length < 500) (hl9 : rest.length ≤ 90) :
    Calls Tryz.prog 71 #[.pointer (some ⟨ib, 0, none⟩)] w (InQ B ib C (IncAb nmB T ({ a with cur := nl, ts := ts } :: rest)) mn mac ifs bol text (.tuple #[]) w) := by
  have hBw : B ≤ w.heap.size := by
    obtain ⟨S, rs, h⟩ := h
    exact Nat.le_of_lt (Nat.lt_of_le_of_lt h.stk.low h.stk.blk.lt)
  have hn := inNext h hd hats hg hB hl
  rw [hsk] at hn
  have Hn := Lib.hid hn
  have hl2 : ({ a with cur := st, ts := nl :: ts } :: rest : List Ab).length < 500 := by simp at hl ⊢; omega
  have Htx := Lib.hid (fun (w1 : World) (h1 : Inp w1 B ib C ({ a with cur := st, ts := nl :: ts } :: rest) mn mac ifs bol text) => inText h1 (by show st.k ≠ 0; rw [hsk]; decide) hl2)
  have Hnl := Lib.hid (fun (w1 : World) (d : ByteArray) (h1 : Inp w1 B ib C ({ a with cur := st, ts := nl :: ts } :: rest) mn mac ifs bol text) (hg1 : Glob w1 ev) => inExpectNl (d := d) h1 (nl := nl) (ts := ts) rfl hnl hg1 hB hl2)
  have Hps := Lib.hid (fun (w0 w1 : World) (tz sb bb rb : Nat) (rv : Value) (h1 : Inp w0 B ib C ({ a with cur := nl, ts := ts } :: rest) mn mac ifs bol text) (hb : Below w0.heap.size w0 w1) (hz : Tz w1 B tz sb rb rv (.pointer (some ⟨bb, 0, none⟩)) none txt 1 1 0 []) (hp : PB w1 bb (mkS nmB)) (k1 : w0.heap.size ≤ tz) (k2 : w0.heap.size ≤ sb) (k3 : w0.heap.size ≤ rb) =>
    inPush (r := ⟨.iface 61 (.pointer (some ⟨tz, 0, none⟩)), TzD tz sb rb none, bb, mkS nmB, ⟨0, [], 1, 1⟩, T⟩) (a := ⟨true, mkS nmB, ⟨0, [], 1, 1⟩, T⟩) h1 hb (.tz hz htl (by show 1 + txt.length < 1000000; omega) (by simp)) (by
      rintro k (e | e | e | e)
      · omega
      · omega
      · omega
      · cases e) hp ⟨rfl, rfl, rfl, fun _ => ⟨tz, rfl⟩⟩ (by simp; omega))
  have Htk := Lib.hid (fun (w1 : World) (hB1 : B ≤ w1.heap.size) => newTok_any (w := w1.alloc (.cells #[.string (mkS txt), .int .i64 0, .int .i64 (-1)] 104)) (B := B) (rb := w1.heap.size) (ty := 63) (ra := some ⟨w1.heap.size, 0, none⟩) (nm := mkS nmB) (text := txt) (by simp; omega) ⟨hB1, .inr ⟨rfl, _, txt, 0, -1, Blk.lit w1 _ _, rfl, rfl, rfl, by omega, rfl, by omega⟩⟩ (by simp) ha (by omega))
  have Hun := Lib.hid hun
  have Hg := Lib.hid hg
  have HF0 := Lib.hid hF0
  have Hj := Lib.hid hj
  have Hmiss := Lib.hid hmiss
  have Hhit := Lib.hid hhit
  have hnm := mkS_size nmB
  obtain ⟨xn, hxn⟩ : ∃ q, q = mkS nmB := ⟨_, rfl⟩
  clear h hd hats hsk hnl hg hl hl2 hn hun htl ha hlen hl9 hF0 hj hmiss hhit
  go_enter Tryz.func71, Tryz.ntmps71
  go_wp2_with fail
  refine Hn.out.mono ?_
  rintro e w1 ⟨rfl, h1, s1⟩
  have Ht1 := Lib.hid (Htx.out w1 h1)
  have S1 := Lib.hid s1
  clear h1 s1 Htx Hn
  go_wp2_with fail
  refine Ht1.out.mono ?_
  rintro e w2 ⟨rfl, h2, s2⟩
  have H2 := Lib.hid h2
  have S2 := Lib.hid (S1.out.trans s2)
  clear h2 s2 Ht1
  go_wp2_with fail
  refine (Hun.out w2).mono ?_
  rintro e w3 ⟨rfl, hb3⟩
  have h3 := H2.out.below hb3
  have s3 := S2.out.trans (Soft.ofBelow hb3)
  have Hn3 := Lib.hid (fun d => Hnl.out w3 d h3 (s3.glob Hg.out hB))
  have S3 := Lib.hid s3
  clear h3 s3 hb3 H2
  go_wp2_with fail
  refine (Hn3.out _).mono ?_
  rintro e w4 ⟨rfl, h4, s4⟩
  obtain ⟨c2, nf, hsm⟩ := h4.fil_at
  obtain ⟨av, ac, c1, hinc⟩ := h4.inc_at
  have hib := h4.ib_lt
  have hlk := hsm.look_ok Tryz.underlying48 (z := .string ⟨#[]⟩) (fun w => by kernel_rfl) nmB (by omega)
  rw [HF0.out] at hlk
  have hlk' : (Instr.lookup 48 (.map (some C.fb)) (.string (mkS nmB)) true).run Tryz.prog w4 = .ok (.tuple #[.string ⟨#[]⟩, .bool false]) w4 := hlk
  have H4 := Lib.hid h4
  have S4 := Lib.hid (S3.out.trans s4)
  have hBw4 : B ≤ w4.heap.size := Nat.le_trans hBw S4.out.size
  have HBw4 := Lib.hid hBw4
  have Hsm := Lib.hid hsm
  have Hinc := Lib.hid hinc
  obtain ⟨ln, hln⟩ : ∃ q, q = C.inc.length := ⟨_, rfl⟩
  rw [← hln] at c1 Hinc
  have Hln := Lib.hid hln
  have hkl : k < ln := by
    obtain ⟨d, hd, _⟩ := Hj.out k (Nat.le_refl _)
    rw [hln]; exact (List.getElem?_eq_some_iff.1 hd).1
  have hst : DLp k w4 k (.int .i64 0) (.string ⟨#[]⟩) (.bool false) w4 := ⟨0, rfl, rfl, rfl, by omega, Below.refl _ _⟩
  have Hst := Lib.hid hst
  clear h4 s4 Hn3 hBw4 hsm hinc hln hlk hst
  go_wp2
  go_loopg [52, 5, 6] k (fun n v52 v5 v6 wr => DLp k w4 n v52 v5 v6 wr)
  case atStart => exact Hst.out
  case round =>
    clear Hst hlk'
    obtain ⟨i, rfl, rfl, rfl, hik, hbr⟩ := hrel
    obtain ⟨d, hdi, hds, hdj, hjl⟩ := Hj.out i (by omega)
    obtain ⟨gi, rfl⟩ : ∃ gi, av = some ⟨gi, 0, none⟩ := by
      obtain ⟨_, ⟨e, e0⟩ | ⟨g, cap, cur, e, _⟩⟩ := Hinc.out
      · rw [← Hln.out] at e0; omega
      · cases e; exact ⟨g, rfl⟩
    have hgi : gi < w4.heap.size := (ownBlock_row Hinc.out gi rfl).2.lt
    have ki : w4.cell? ⟨gi, i, none⟩ = some (.string d) := by
      have := Hinc.out.cells (g := gi) rfl i (.string d) (by rw [List.getElem?_map, hdi]; rfl)
      rwa [Addr.add_lit, Nat.zero_add] at this
    have kr : wr.cell? ⟨gi, i, none⟩ = some (.string d) := (hbr.cell (p := ⟨gi, i, none⟩) hgi).trans ki
    have k2 : wr.cell? ⟨ib, 2, none⟩ = some (.map (some C.fb)) := (hbr.cell (p := ⟨ib, 2, none⟩) hib).trans c2
    have k2' : (wr.alloc (.cells #[.string d, .string (mkS nmB)] 9)).cell? ⟨ib, 2, none⟩ = some (.map (some C.fb)) := ((hbr.alloc hbr.size _).cell (p := ⟨ib, 2, none⟩) hib).trans c2
    have hlt : (i : Int) < (ln : Int) := by omega
    have Hbr := Lib.hid hbr
    have Hdj := Lib.hid hdj
    clear hbr hdi hdj ki
    have hjoin : ∀ m, Calls Tryz.prog 93 #[.slice (some ⟨wr.heap.size, 0, none⟩) 2 2] ((wr.drewN m).alloc (.cells #[.string d, .string (mkS nmB)] 9)) fun e w' => e = .returned (.string (mkS (jn i))) ∧ Below w4.heap.size w4 w' ∧ w'.cell? ⟨ib, 2, none⟩ = some (.map (some C.fb)) ∧ (Instr.lookup 48 (.map (some C.fb)) (.string (mkS (jn i))) true).run Tryz.prog w' = .ok (.tuple #[((C.F (jn i)).map Value.string).getD (.string ⟨#[]⟩), .bool ((C.F (jn i)).map Value.string).isSome]) w' := fun m => by
      have hB := Blk.lit (wr.drewN m) #[.string d, .string (mkS nmB)] 9
      have hbm : Below w4.heap.size w4 ((wr.drewN m).alloc (.cells #[.string d, .string (mkS nmB)] 9)) := (below_drewN Hbr.out m).alloc (below_drewN Hbr.out m).size _
      have hlens : Go.Lib.Pa.lens (([d, mkS nmB] : List ByteArray).map (·.data.toList)) + ([d, mkS nmB] : List ByteArray).length ≤ 281474976710656 := by
        have e1 : ([d, mkS nmB] : List ByteArray).map (·.data.toList) = [d.data.toList, nmB] := by simp [mkS]
        have e2 : d.data.toList.length = d.size := by rw [Array.length_toList]; rfl
        rw [e1]
        simp only [Go.Lib.Pa.lens, List.map_cons, List.map_nil, List.sum_cons, List.sum_nil, List.length_cons, List.length_nil]
        rw [e2]
        omega
      refine (path_join (wr.drewN m).heap.size 0 2 [d, mkS nmB] _ (fun j x hx => ?_) (by simp) hlens).mono ?_
      · rw [Nat.zero_add]
        have hj2 := (List.getElem?_eq_some_iff.1 hx).1
        simp at hj2
        obtain rfl | rfl : j = 0 ∨ j = 1 := by omega
        · simp at hx; subst hx; exact hB.cell_eq (i := 0) (by simp) (by rfl)
        · simp at hx; subst hx; exact hB.cell_eq (i := 1) (by simp) (by rfl)
      · rintro e w' ⟨rfl, hb⟩
        have hb' := hbm.trans (hb.mono hbm.size)
        refine ⟨?_, hb', (hb'.cell (p := ⟨ib, 2, none⟩) hib).trans c2, ?_⟩
        · have e1 : ([d, mkS nmB] : List ByteArray).map (·.data.toList) = [d.data.toList, nmB] := by simp [mkS]
          rw [e1, Hdj.out]
          rfl
        · exact (Hsm.out.of_heap (hb'.block _ Hsm.out.lt)).look_ok Tryz.underlying48 (z := .string ⟨#[]⟩) (fun w => by kernel_rfl) (jn i) (by omega)
    have e3 : IntKind.i64.wrap ((i : Int) + 1) = (i : Int) + 1 := IntWalk.i64_in _ (by omega)
    rcases Nat.lt_or_ge i k with hik2 | hik2
    · rw [Hmiss.out i hik2] at hjoin
      have HJ := Lib.hid hjoin
      have hgk : gk - 1 < gk := by omega
      clear hjoin
      go_wp2_with fail
      go_region_held3 (fun w' => w'.cell? ⟨ib, 2, none⟩ = some (.map (some C.fb))) (first | exact k2 | exact k2' | assumption)
        (first
          | (go_at_call 93; refine (HJ.out _).mono ?_; rintro e w6 ⟨rfl, hb6, hc6, hl6⟩; have HB6 := Lib.hid hb6; clear hb6; simp only [Option.map_none, Option.getD_none, Option.isSome_none] at hl6))
      have hrel : DLp k w4 (gk - 1) (.int .i64 ((i + 1 : Nat) : Int)) (.string ⟨#[]⟩) (.bool false) w6 := ⟨i + 1, rfl, rfl, rfl, by omega, HB6.out⟩
      have Hrel := Lib.hid hrel
      clear hrel
      go_wp2
      go_roundg (gk - 1)
      case measure => exact hgk
      case rel => exact Hrel.out
    · obtain rfl : i = k := by omega
      rw [Hhit.out] at hjoin
      have HJ := Lib.hid hjoin
      clear hjoin
      go_wp2_with fail
      go_region_held3 (fun w' => w'.cell? ⟨ib, 2, none⟩ = some (.map (some C.fb))) (first | exact k2 | exact k2' | assumption)
        (first
          | (go_at_call 93; refine (HJ.out _).mono ?_; rintro e w6 ⟨rfl, hb6, hc6, hl6⟩; have HB6 := Lib.hid hb6; clear hb6; simp only [Option.map_some, Option.getD_some, Option.isSome_some] at hl6))
      have H6 := Lib.hid (H4.out.below HB6.out)
      have S6 := Lib.hid (S4.out.trans (Soft.ofBelow HB6.out))
      have hBw6 : B ≤ w6.heap.size := Nat.le_trans HBw4.out HB6.out.size
      have HBw6 := Lib.hid hBw6
      clear hBw6
      go_wp2_with fail
      refine newReader_str.mono ?_
      rintro e w7 ⟨rfl, rfl⟩
      have hb7 : Below w6.heap.size w6 (w6.alloc (.cells #[.string (mkS txt), .int .i64 0, .int .i64 (-1)] 104)) := (Below.refl _ _).alloc (Nat.le_refl _) _
      have Htk7 := Lib.hid (Htk.out w6 HBw6.out)
      have Hb7 := Lib.hid hb7
      clear hb7
      go_wp2_with fail
      refine Htk7.out.mono ?_
      rintro e w8 ⟨tz, sb, bb, rfl, hz, hpb, k1', k2', k3', hb8⟩
      have hb68 : Below w6.heap.size w6 w8 := Hb7.out.trans (hb8.mono Hb7.out.size)
      have Hps8 := Lib.hid (Hps.out w6 w8 tz sb bb _ _ H6.out hb68 hz hpb (Nat.le_trans Hb7.out.size k1') (Nat.le_trans Hb7.out.size k2') (Nat.le_refl _))
      have S8 := Lib.hid (S6.out.trans (Soft.ofBelow hb68))
      clear hz hpb k1' k2' k3' hb8 hb68 Htk7
      go_wp2_with fail
      refine Hps8.out.mono ?_
      rintro e w9 ⟨rfl, h9, s9⟩
      have Hfin : Hid (InQ B ib C (IncAb nmB T ({ a with cur := nl, ts := ts } :: rest)) mn mac ifs bol text (.tuple #[]) w (.returned (.tuple #[])) w9) := Lib.hid ⟨rfl, h9, S8.out.trans s9⟩
      clear h9 s9
      go_wp2
      go_end0
      exact Hfin.out
end
end Go.Proofs.YtpoimmpdncickaaGreatDoor
