/- What dies of an Error, up to Expand; told of lines. -/
import Derived.Test.YtpoimmpdncickaaGreatDoorJ1
import Derived.WalkLawsBesides
import Derived.Test.YtpoimmpdncickaaGreatDoorJ9
import Derived.Deep.RegionWith
import Derived.Test.YtpoimmpdncickaaGreatDoorJ11
import Derived.Test.YtpoimmpdncickaaGreatDoorJ10
/- joined: texts with blanks between them. -/
namespace Go.Proofs.YtpoimmpdncickaaGreatDoor
open Go Go.RowKit Lex
set_option linter.unusedVariables false
set_option linter.unusedSimpArgs false

def JoQ (w : World) (e : Ending) (w' : World) : Prop := (∃ s, e = .returned (.string s)) ∧ ∃ m, w' = w.drewN m

theorem assert_str (v : Value) (w : World) : (Instr.typeAssert (.iface 9 v) 20 9 true).run Tryz.prog w = .ok (.tuple #[v, .bool true]) w := by
  simp [Instr.typeAssert, go_sem, Tryz.underlying9]

section
variable {w : World}

set_option maxRecDepth 100000 in
set_option maxHeartbeats 2000000 in
theorem joined_one {g : Nat} {x : ByteArray} (hc : w.cell? ⟨g, 0, none⟩ = some (.iface 9 (.string x))) (hx : x.size ≤ 1000) :
    Calls Tryz.prog 62 #[.slice (some ⟨g, 0, none⟩) 1 1] w (JoQ w) := by
  have ha := assert_str (.string x)
  go_enter Tryz.func62, Tryz.ntmps62
  change Code.wp _ _ _ _ (w.drewN 0)
  go_wp2
  refine wp_loop_rounds 2 ?_
  rw [rounds_succ]
  go_wp2
  rw [rounds_succ]
  go_wp2
  go_ret
  exact ⟨⟨_, rfl⟩, _, rfl⟩

set_option maxRecDepth 100000 in
set_option maxHeartbeats 2000000 in
theorem joined_two {g : Nat} {x y : ByteArray} (hc : w.cell? ⟨g, 0, none⟩ = some (.iface 9 (.string x))) (hc1 : w.cell? ⟨g, 1, none⟩ = some (.iface 9 (.string y))) (hx : x.size ≤ 1000) (hy : y.size ≤ 1000) :
    Calls Tryz.prog 62 #[.slice (some ⟨g, 0, none⟩) 2 2] w (JoQ w) := by
  have ha := assert_str (.string x)
  have ha2 := assert_str (.string y)
  go_enter Tryz.func62, Tryz.ntmps62
  change Code.wp _ _ _ _ (w.drewN 0)
  go_wp2
  refine wp_loop_rounds 3 ?_
  rw [rounds_succ]
  go_wp2
  rw [rounds_succ]
  go_wp2
  rw [rounds_succ]
  go_wp2
  go_ret
  exact ⟨⟨_, rfl⟩, _, rfl⟩
end
/-- A call dies of an Error. -/
def DieQ (B : Nat) (bl : Bool) (w : World) (e : Ending) (w' : World) : Prop :=
  (∃ g, e = .panicked [{ v := .iface 45 (.pointer (some ⟨g, 0, none⟩)), recovered := false }]) ∧ Soft B bl w w'

section
variable {w w' : World} {B ib : Nat} {C : Cfg} {s s' : Sg} {ab ab' : List Ab} {mn : Nat} {mac : Bs → Option Mc} {ifs : List Bool} {bol : Bool} {text : Bs} {ev : Value}

theorem Inp.ib_some (h : Inp w B ib C ab mn mac ifs bol text) : True := trivial

set_option maxRecDepth 100000 in
set_option maxHeartbeats 2000000 in
theorem inError {rest : List Ab} {a : Ab} {A : Value} (h : Inp w B ib C (a :: rest) mn mac ifs bol text) (hl : (a :: rest).length < 500) (hj : ∀ m, Calls Tryz.prog 62 #[A] (w.drewN m) (JoQ (w.drewN m))) :
    Calls Tryz.prog 45 #[.pointer (some ⟨ib, 0, none⟩), A] w (DieQ B C.bl w) := by
  have gdw : ∀ {fn : FuncId} {args : Array Value} {r : Value}, (∀ m, Calls Tryz.prog fn args (w.drewN m) fun e w' => e = .returned r ∧ ∃ j, w' = (w.drewN m).drewN j) → ∀ m, Calls Tryz.prog fn args (w.drewN m) fun e w' => e = .returned r ∧ ∃ j, w' = w.drewN j := fun h m => by
    refine (h m).mono ?_
    rintro e w' ⟨rfl, j, rfl⟩
    exact ⟨rfl, m + j, by simp [World.drewN, Nat.add_assoc]⟩
  have hjd : ∀ m, Calls Tryz.prog 62 #[A] (w.drewN m) fun e w' => (∃ s, e = .returned (.string s)) ∧ ∃ j, w' = w.drewN j := fun m => by
    refine (hj m).mono ?_
    rintro e w' ⟨⟨s, rfl⟩, j, rfl⟩
    exact ⟨⟨s, rfl⟩, m + j, by simp [World.drewN, Nat.add_assoc]⟩
  have Hfi := Lib.hid (gdw (fun m => inFile (h.drewN m) hl))
  have Hli := Lib.hid (gdw (fun m => inLine (h.drewN m) hl))
  have Hj := Lib.hid hjd
  have hfin : ∀ j o, DieQ B C.bl w (.panicked [{ v := .iface 45 (.pointer (some ⟨w.heap.size, 0, none⟩)), recovered := false }]) ((w.drewN j).alloc o) := fun j o => ⟨⟨_, rfl⟩, Soft.ofBelow ((below_drewN (Below.refl _ _) _).alloc (Nat.le_refl _) _)⟩
  have Hfin := Lib.hid hfin
  clear h hl hj hjd gdw hfin
  go_enter Tryz.func45, Tryz.ntmps45
  refine wp_region_any (by kernel_rfl) ?_
  change wpAny _ _ _ _ _ _ _ (World.drew _)
  refine wpAny_take (i := 0) (v := ?_) rfl (by kernel_rfl) (by kernel_rfl) (by kernel_rfl) (fun _ _ _ h => h) (Or.inl ⟨by rfl, ?_⟩) ?_
  case refine_2 => intro w; go_simp; try with_reducible rfl
  refine wpAny_take (i := 1) (v := ?_) rfl (by kernel_rfl) (by kernel_rfl) (by kernel_rfl) (fun _ _ _ h => h) (Or.inl ⟨by rfl, ?_⟩) ?_
  case refine_2 => intro w; go_simp; try with_reducible rfl
  refine wpAny_take (i := 2) (v := ?_) rfl (by kernel_rfl) (by kernel_rfl) (by kernel_rfl) (fun _ _ _ h => h) (Or.inl ⟨by rfl, ?_⟩) ?_
  case refine_2 => intro w; go_simp; try with_reducible rfl
  refine wpAny_take (i := 4) (v := ?_) rfl (by kernel_rfl) (by kernel_rfl) (by kernel_rfl) (fun _ _ _ h => h) (Or.inl ⟨by rfl, ?_⟩) ?_
  case refine_2 => intro w; go_simp; try with_reducible rfl
  refine wpAny_take (i := 5) (v := ?_) rfl (by kernel_rfl) (by kernel_rfl) (by kernel_rfl) (fun _ _ _ h => h) (Or.inl ⟨by rfl, ?_⟩) ?_
  case refine_2 => intro w; go_simp; try with_reducible rfl
  refine wpAny_take (i := 6) (v := ?_) rfl (by kernel_rfl) (by kernel_rfl) (by kernel_rfl) (fun _ _ _ h => h) (Or.inl ⟨by rfl, ?_⟩) ?_
  case refine_2 => intro w; go_simp; try with_reducible rfl
  refine wpAny_take (i := 8) (v := ?_) rfl (by kernel_rfl) (by kernel_rfl) (by kernel_rfl) (fun _ _ _ h => h) (Or.inl ⟨by rfl, ?_⟩) ?_
  case refine_2 => intro w; go_simp; try with_reducible rfl
  refine wpAny_ready (rs := [3]) (by kernel_rfl) (by simp) ?_
  refine AllReady.cons rfl (fun K hK => ?_) AllReady.nil
  go_simp
  go_wp2_with (go_at_call 36; refine (Hfi.out _).mono ?_; rintro e w7 ⟨rfl, j7, rfl⟩)
  try (refine hK _ _ ?_)
  try clear hK K
  refine wpAny_ready (rs := [7]) (by kernel_rfl) (by simp) ?_
  refine AllReady.cons rfl (fun K hK => ?_) AllReady.nil
  go_simp
  go_wp2_with (go_at_call 37; refine (Hli.out _).mono ?_; rintro e w8 ⟨rfl, j8, rfl⟩)
  try (refine hK _ _ ?_)
  try clear hK K
  refine wpAny_ready (rs := [9]) (by kernel_rfl) (by simp) ?_
  refine AllReady.cons rfl (fun K hK => ?_) AllReady.nil
  go_simp
  go_wp2_with (go_at_call 62; refine (Hj.out _).mono ?_; rintro e w9 ⟨⟨s9, rfl⟩, j9, rfl⟩)
  try (refine hK _ _ ?_)
  try clear hK K
  refine wpAny_take (i := 10) (v := ?_) rfl (by kernel_rfl) (by kernel_rfl) (by kernel_rfl) (fun _ _ _ h => h) (Or.inl ⟨by rfl, ?_⟩) ?_
  case refine_2 => intro w; go_simp; try with_reducible rfl
  refine wpAny_ready (rs := [11]) (by kernel_rfl) (by simp) ?_
  refine AllReady.cons rfl (fun K hK => ?_) AllReady.nil
  go_simp
  try (refine hK _ _ ?_)
  try clear hK K
  refine wpAny_take (i := 12) (v := ?_) rfl (by kernel_rfl) (by kernel_rfl) (by kernel_rfl) (fun _ _ _ h => h) (Or.inl ⟨by rfl, ?_⟩) ?_
  case refine_2 => intro w; go_simp; try with_reducible rfl
  refine wpAny_ready (rs := [13]) (by kernel_rfl) (by simp) ?_
  refine AllReady.cons rfl (fun K hK => ?_) AllReady.nil
  go_simp
  exact ⟨rfl, Hfin.out _ _⟩

theorem inErrOne {rest : List Ab} {a : Ab} {x : ByteArray} (h : Inp w B ib C (a :: rest) mn mac ifs bol text) (hl : (a :: rest).length < 500) (hx : x.size ≤ 1000) :
    Calls Tryz.prog 45 #[.pointer (some ⟨ib, 0, none⟩), .slice (some ⟨w.heap.size, 0, none⟩) 1 1] (w.alloc (.cells #[.iface 9 (.string x)] 20)) (DieQ B C.bl w) := by
  have hb : Below w.heap.size w (w.alloc (.cells #[.iface 9 (.string x)] 20)) := (Below.refl _ _).alloc (Nat.le_refl _) _
  have hB := Blk.lit w #[.iface 9 (.string x)] 20
  refine (inError (A := .slice (some ⟨w.heap.size, 0, none⟩) 1 1) (h.below hb) hl (fun m => joined_one (x := x) ?_ hx)).mono ?_
  · exact hB.cell_eq (i := 0) (by simp) (by rfl)
  · rintro e w' ⟨h1, h2⟩
    exact ⟨h1, (Soft.ofBelow hb).trans h2⟩
theorem inErrTwo {rest : List Ab} {a : Ab} {x y : ByteArray} (h : Inp w B ib C (a :: rest) mn mac ifs bol text) (hl : (a :: rest).length < 500) (hx : x.size ≤ 1000) (hy : y.size ≤ 1000) :
    Calls Tryz.prog 45 #[.pointer (some ⟨ib, 0, none⟩), .slice (some ⟨w.heap.size, 0, none⟩) 2 2] (w.alloc (.cells #[.iface 9 (.string x), .iface 9 (.string y)] 20)) (DieQ B C.bl w) := by
  have hb : Below w.heap.size w (w.alloc (.cells #[.iface 9 (.string x), .iface 9 (.string y)] 20)) := (Below.refl _ _).alloc (Nat.le_refl _) _
  have hB := Blk.lit w #[.iface 9 (.string x), .iface 9 (.string y)] 20
  refine (inError (A := .slice (some ⟨w.heap.size, 0, none⟩) 2 2) (h.below hb) hl (fun m => joined_two (x := x) (y := y) ?_ ?_ hx hy)).mono ?_
  · exact hB.cell_eq (i := 0) (by simp) (by rfl)
  · exact hB.cell_eq (i := 1) (by simp) (by rfl)
  · rintro e w' ⟨h1, h2⟩
    exact ⟨h1, (Soft.ofBelow hb).trans h2⟩

set_option maxRecDepth 100000 in
set_option maxHeartbeats 1000000 in
/-- endif where no condition is open. -/
theorem endif_die {rest : List Ab} {a : Ab} {nl : Tok} {ts : List Tok} (h : Inp w B ib C (a :: rest) mn mac [] bol text) (hats : a.ts = nl :: ts) (hnl : nl.k = 10) (hg : Glob w ev) (hB : 21 ≤ B) (hl : (a :: rest).length < 500) :
    Calls Tryz.prog 69 #[.pointer (some ⟨ib, 0, none⟩)] w (DieQ B C.bl w) := by
  have Hnl := Lib.hid (fun (d : ByteArray) => inExpectNl (d := d) h (nl := nl) (ts := ts) hats hnl hg hB hl)
  have hl2 : ({ a with cur := nl, ts := ts } :: rest : List Ab).length < 500 := by simpa using hl
  have HE := Lib.hid (fun (w1 : World) (x : ByteArray) (hx : x.size ≤ 1000) (h1 : Inp w1 B ib C ({ a with cur := nl, ts := ts } :: rest) mn mac [] bol text) => inErrOne h1 hl2 hx)
  clear h hats hnl hg hl hl2
  go_enter Tryz.func69, Tryz.ntmps69
  go_wp2_with fail
  refine (Hnl.out _).mono ?_
  rintro e w1 ⟨rfl, h1, s1⟩
  obtain ⟨ad, c, k4⟩ := h1.c4_nil
  have H1 := Lib.hid h1
  have S1 := Lib.hid s1
  clear h1 s1
  go_wp2_with fail
  refine (HE.out w1 _ (by decide) H1.out).mono ?_
  rintro e w2 ⟨⟨g, rfl⟩, s2⟩
  have Hfin := Lib.hid (S1.out.trans s2)
  clear s2
  go_wp2
  exact ⟨rfl, ⟨g, rfl⟩, Hfin.out⟩

set_option maxRecDepth 100000 in
set_option maxHeartbeats 1000000 in
/-- else where no condition is open. -/
theorem else_die {rest : List Ab} {a : Ab} {nl : Tok} {ts : List Tok} (h : Inp w B ib C (a :: rest) mn mac [] bol text) (hats : a.ts = nl :: ts) (hnl : nl.k = 10) (hg : Glob w ev) (hB : 21 ≤ B) (hl : (a :: rest).length < 500) :
    Calls Tryz.prog 68 #[.pointer (some ⟨ib, 0, none⟩)] w (DieQ B C.bl w) := by
  have Hnl := Lib.hid (fun (d : ByteArray) => inExpectNl (d := d) h (nl := nl) (ts := ts) hats hnl hg hB hl)
  have hl2 : ({ a with cur := nl, ts := ts } :: rest : List Ab).length < 500 := by simpa using hl
  have HE := Lib.hid (fun (w1 : World) (x : ByteArray) (hx : x.size ≤ 1000) (h1 : Inp w1 B ib C ({ a with cur := nl, ts := ts } :: rest) mn mac [] bol text) => inErrOne h1 hl2 hx)
  clear h hats hnl hg hl hl2
  go_enter Tryz.func68, Tryz.ntmps68
  go_wp2_with fail
  refine (Hnl.out _).mono ?_
  rintro e w1 ⟨rfl, h1, s1⟩
  obtain ⟨ad, c, k4⟩ := h1.c4_nil
  have H1 := Lib.hid h1
  have S1 := Lib.hid s1
  clear h1 s1
  go_wp2_with fail
  refine (HE.out w1 _ (by decide) H1.out).mono ?_
  rintro e w2 ⟨⟨g, rfl⟩, s2⟩
  have Hfin := Lib.hid (S1.out.trans s2)
  clear s2
  go_wp2
  exact ⟨rfl, ⟨g, rfl⟩, Hfin.out⟩

set_option maxRecDepth 100000 in
set_option maxHeartbeats 1000000 in
/-- A macro is there already. -/
theorem defineMacro_die {rest : List Ab} {a : Ab} {x : Bs} {m : Mc} {av tv : Value} (h : Inp w B ib C (a :: rest) mn mac ifs bol text) (hx : mac x = some m) (hxl : x.length ≤ 1000) (hl : (a :: rest).length < 500) :
    Calls Tryz.prog 90 #[.pointer (some ⟨ib, 0, none⟩), .string (mkS x), av, tv] w (DieQ B C.bl w) := by
  obtain ⟨b, c5, hlook⟩ := h.mac_at hx (by omega)
  have hne : ∀ u : World, (binOp BinOp.neq 106 (.pointer (some ⟨b, 0, none⟩)) (.pointer none)).run Tryz.prog u = .ok (.bool true) u := fun u => by kernel_rfl
  have hs := mkS_size x
  have HE := Lib.hid (fun (z : ByteArray) (hz : z.size ≤ 1000) => inErrTwo (x := z) (y := mkS x) h hl hz (by omega))
  clear h hx hl
  go_enter Tryz.func90, Tryz.ntmps90
  go_wp2_with fail
  refine (HE.out _ (by decide)).mono ?_
  rintro e w2 ⟨⟨g, rfl⟩, s2⟩
  have Hfin := Lib.hid s2
  clear s2
  go_wp2
  exact ⟨rfl, ⟨g, rfl⟩, Hfin.out⟩

set_option maxRecDepth 100000 in
set_option maxHeartbeats 1000000 in
/-- A line that makes a macro that is there. -/
theorem define_die {dead rest : List Ab} {a : Ab} {nt t0 : Tok} {body : List Tok} {nl : Tok} {ts : List Tok} {m : Mc} (h : Inp w B ib C (dead ++ a :: rest) mn mac ifs bol text) (hd : ∀ d ∈ dead, d.ts = []) (htz : ∀ q ∈ a :: rest, q.istz = true) (hats : a.ts = nt :: t0 :: body ++ nl :: ts)
    (hnk : nt.k = -2) (hnx : nt.x.length ≤ 1000) (hmac : mac nt.x = some m)
    (h0 : t0.k ≠ 40) (hb : ∀ t ∈ t0 :: body, okTok t ∧ t.k ≠ 10 ∧ t.k ≠ 92 ∧ t.k ≠ -1 ∧ t.k ≠ 0) (hnl : nl.k = 10) (hbl : body.length ≤ 1000) (hC : C.lim ≤ w.heap.size) (hg : Glob w ev) (hB : 21 ≤ B) (hl : (dead ++ a :: rest).length < 500) :
    Calls Tryz.prog 67 #[.pointer (some ⟨ib, 0, none⟩)] w (DieQ B C.bl w) := by
  have Hn := Lib.hid (inMacroName h hd (t := nt) (ts := t0 :: body ++ nl :: ts) hats hnk hg hB hl)
  have hl2 : ({ a with cur := nt, ts := t0 :: body ++ nl :: ts } :: rest : List Ab).length < 500 := by simp at hl ⊢; omega
  have hl3 : ({ a with cur := nl, ts := ts } :: rest : List Ab).length < 500 := by simp at hl ⊢; omega
  have Hdef := Lib.hid (fun (w1 : World) (h1 : Inp w1 B ib C ({ a with cur := nt, ts := t0 :: body ++ nl :: ts } :: rest) mn mac ifs bol text) (hC1 : C.lim ≤ w1.heap.size) (hg1 : Glob w1 ev) => macroDef_plain (nm := mkS nt.x) h1 (tz_mem htz) (by show nt.k ≠ 0; rw [hnk]; decide) rfl h0 hb hnl hbl hC1 hg1 hB hl2)
  have Hdm := Lib.hid (fun (w2 : World) (av tv : Value) (h2 : Inp w2 B ib C ({ a with cur := nl, ts := ts } :: rest) mn mac ifs bol text) => defineMacro_die (av := av) (tv := tv) h2 hmac hnx hl3)
  have Hg := Lib.hid hg
  clear h hd htz hats hnk hmac h0 hb hnl hbl hg hl hl2 hl3
  go_enter Tryz.func67, Tryz.ntmps67
  go_wp2_with fail
  refine Hn.out.mono ?_
  rintro e w1 ⟨rfl, h1, s1⟩
  have Hd1 := Lib.hid (Hdef.out w1 h1 (Nat.le_trans hC s1.size) (s1.glob Hg.out hB))
  have S1 := Lib.hid s1
  clear h1 s1
  go_wp2_with fail
  refine Hd1.out.mono ?_
  rintro e w2 ⟨aa, al, ac, ta, tl, tc, rfl, ha2, ht2, h2, s2⟩
  have Hdm2 := Lib.hid (Hdm.out w2 (.slice aa al ac) (.slice ta tl tc) h2)
  have S2 := Lib.hid (S1.out.trans s2)
  clear ha2 ht2 h2 s2
  go_wp2_with fail
  refine Hdm2.out.mono ?_
  rintro e w3 ⟨⟨g, rfl⟩, s3⟩
  have Hfin := Lib.hid (S2.out.trans s3)
  clear s3
  go_wp2
  exact ⟨rfl, ⟨g, rfl⟩, Hfin.out⟩
end
section
variable {w w' : World} {B ib : Nat} {C : Cfg} {mn : Nat} {mac : Bs → Option Mc} {ifs : List Bool} {bol : Bool} {text : Bs} {ev : Value} {Z : World → Prop}

set_option maxRecDepth 100000 in
set_option maxHeartbeats 2000000 in
theorem hash_define_die {dead rest : List Ab} {a : Ab} {kt : Tok} {R : List Tok} (h : Inp w B ib C (dead ++ a :: rest) mn mac ifs bol text) (hon : onB ifs = true) (hil : ifs.length < 1000) (hd : ∀ d ∈ dead, d.ts = []) (hats : a.ts = kt :: R) (hkk : kt.k = -2) (hkx : kt.x = kwDefine) (hC : C.lim ≤ w.heap.size) (hg : Glob w ev) (hB : 21 ≤ B) (hl : (dead ++ a :: rest).length < 500)
    (hcall : ∀ w1, Inp w1 B ib C ({ a with cur := kt, ts := R } :: rest) mn mac ifs bol text → C.lim ≤ w1.heap.size → Glob w1 ev → Calls Tryz.prog 67 #[.pointer (some ⟨ib, 0, none⟩)] w1 (DieQ B C.bl w1)) :
    Calls Tryz.prog 51 #[.pointer (some ⟨ib, 0, none⟩)] w (DieQ B C.bl w) := by
  have Hn := Lib.hid (inNext h hd (t := kt) (ts := R) hats hg hB hl)
  rw [hkk] at Hn
  have hl2 : ({ a with cur := kt, ts := R } :: rest : List Ab).length < 500 := by simp at hl ⊢; omega
  have Htx := Lib.hid (fun (w1 : World) (h1 : Inp w1 B ib C ({ a with cur := kt, ts := R } :: rest) mn mac ifs bol text) => inText h1 (by show kt.k ≠ 0; rw [hkk]; decide) hl2)
  simp only [hkx] at Htx
  have Hen := Lib.hid (fun (w1 : World) (h1 : Inp w1 B ib C ({ a with cur := kt, ts := R } :: rest) mn mac ifs bol text) => inEnabled h1 hil)
  rw [hon] at Hen
  have Hcall := Lib.hid hcall
  have Hg := Lib.hid hg
  clear h hd hats hkk hkx hg hl hl2 hon hil hcall
  have q_define : ((mkS kwDefine).toList == [100, 101, 102, 105, 110, 101]) = true := by rw [mkS_toList]; decide
  have q_else : ((mkS kwDefine).toList == [101, 108, 115, 101]) = false := by rw [mkS_toList]; decide
  have q_endif : ((mkS kwDefine).toList == [101, 110, 100, 105, 102]) = false := by rw [mkS_toList]; decide
  have q_ifdef : ((mkS kwDefine).toList == [105, 102, 100, 101, 102]) = false := by rw [mkS_toList]; decide
  have q_ifndef : ((mkS kwDefine).toList == [105, 102, 110, 100, 101, 102]) = false := by rw [mkS_toList]; decide
  have q_include : ((mkS kwDefine).toList == [105, 110, 99, 108, 117, 100, 101]) = false := by rw [mkS_toList]; decide
  have q_line : ((mkS kwDefine).toList == [108, 105, 110, 101]) = false := by rw [mkS_toList]; decide
  have q_undef : ((mkS kwDefine).toList == [117, 110, 100, 101, 102]) = false := by rw [mkS_toList]; decide
  go_enter Tryz.func51, Tryz.ntmps51
  go_wp2_with fail
  refine Hn.out.mono ?_
  rintro e w1 ⟨rfl, h1, s1⟩
  have He1 := Lib.hid (Hen.out w1 h1)
  have H1 := Lib.hid h1
  have S1 := Lib.hid s1
  clear h1 s1
  go_wp2_with fail
  refine He1.out.mono ?_
  rintro e w2 ⟨rfl, m2, rfl⟩
  have Ht2 := Lib.hid (Htx.out _ (H1.out.drewN m2))
  have S2 := Lib.hid (S1.out.trans ((Soft.refl B C.bl w1).drewN m2))
  go_wp2_with fail
  refine Ht2.out.mono ?_
  rintro e w3 ⟨rfl, h3, s3⟩
  have Hd3 := Lib.hid (Hcall.out w3 h3 (Nat.le_trans hC (S2.out.trans s3).size) ((S2.out.trans s3).glob Hg.out hB))
  have S3 := Lib.hid (S2.out.trans s3)
  clear h3 s3
  go_wp2_with fail
  refine Hd3.out.mono ?_
  rintro e w4 ⟨⟨g, rfl⟩, s4⟩
  have Hfin := Lib.hid (S3.out.trans s4)
  clear s4
  go_wp2
  exact ⟨rfl, ⟨g, rfl⟩, Hfin.out⟩

set_option maxRecDepth 100000 in
set_option maxHeartbeats 2000000 in
theorem hash_else_die {dead rest : List Ab} {a : Ab} {kt : Tok} {R : List Tok} (h : Inp w B ib C (dead ++ a :: rest) mn mac ifs bol text) (hon : onB ifs = true) (hil : ifs.length < 1000) (hd : ∀ d ∈ dead, d.ts = []) (hats : a.ts = kt :: R) (hkk : kt.k = -2) (hkx : kt.x = kwElse) (hC : C.lim ≤ w.heap.size) (hg : Glob w ev) (hB : 21 ≤ B) (hl : (dead ++ a :: rest).length < 500)
    (hcall : ∀ w1, Inp w1 B ib C ({ a with cur := kt, ts := R } :: rest) mn mac ifs bol text → C.lim ≤ w1.heap.size → Glob w1 ev → Calls Tryz.prog 68 #[.pointer (some ⟨ib, 0, none⟩)] w1 (DieQ B C.bl w1)) :
    Calls Tryz.prog 51 #[.pointer (some ⟨ib, 0, none⟩)] w (DieQ B C.bl w) := by
  have Hn := Lib.hid (inNext h hd (t := kt) (ts := R) hats hg hB hl)
  rw [hkk] at Hn
  have hl2 : ({ a with cur := kt, ts := R } :: rest : List Ab).length < 500 := by simp at hl ⊢; omega
  have Htx := Lib.hid (fun (w1 : World) (h1 : Inp w1 B ib C ({ a with cur := kt, ts := R } :: rest) mn mac ifs bol text) => inText h1 (by show kt.k ≠ 0; rw [hkk]; decide) hl2)
  simp only [hkx] at Htx
  have Hen := Lib.hid (fun (w1 : World) (h1 : Inp w1 B ib C ({ a with cur := kt, ts := R } :: rest) mn mac ifs bol text) => inEnabled h1 hil)
  rw [hon] at Hen
  have Hcall := Lib.hid hcall
  have Hg := Lib.hid hg
  clear h hd hats hkk hkx hg hl hl2 hon hil hcall
  have q_define : ((mkS kwElse).toList == [100, 101, 102, 105, 110, 101]) = false := by rw [mkS_toList]; decide
  have q_else : ((mkS kwElse).toList == [101, 108, 115, 101]) = true := by rw [mkS_toList]; decide
  have q_endif : ((mkS kwElse).toList == [101, 110, 100, 105, 102]) = false := by rw [mkS_toList]; decide
  have q_ifdef : ((mkS kwElse).toList == [105, 102, 100, 101, 102]) = false := by rw [mkS_toList]; decide
  have q_ifndef : ((mkS kwElse).toList == [105, 102, 110, 100, 101, 102]) = false := by rw [mkS_toList]; decide
  have q_include : ((mkS kwElse).toList == [105, 110, 99, 108, 117, 100, 101]) = false := by rw [mkS_toList]; decide
  have q_line : ((mkS kwElse).toList == [108, 105, 110, 101]) = false := by rw [mkS_toList]; decide
  have q_undef : ((mkS kwElse).toList == [117, 110, 100, 101, 102]) = false := by rw [mkS_toList]; decide
  go_enter Tryz.func51, Tryz.ntmps51
  go_wp2_with fail
  refine Hn.out.mono ?_
  rintro e w1 ⟨rfl, h1, s1⟩
  have He1 := Lib.hid (Hen.out w1 h1)
  have H1 := Lib.hid h1
  have S1 := Lib.hid s1
  clear h1 s1
  go_wp2_with fail
  refine He1.out.mono ?_
  rintro e w2 ⟨rfl, m2, rfl⟩
  have Ht2 := Lib.hid (Htx.out _ (H1.out.drewN m2))
  have S2 := Lib.hid (S1.out.trans ((Soft.refl B C.bl w1).drewN m2))
  go_wp2_with fail
  refine Ht2.out.mono ?_
  rintro e w3 ⟨rfl, h3, s3⟩
  have Hd3 := Lib.hid (Hcall.out w3 h3 (Nat.le_trans hC (S2.out.trans s3).size) ((S2.out.trans s3).glob Hg.out hB))
  have S3 := Lib.hid (S2.out.trans s3)
  clear h3 s3
  go_wp2_with fail
  refine Hd3.out.mono ?_
  rintro e w4 ⟨⟨g, rfl⟩, s4⟩
  have Hfin := Lib.hid (S3.out.trans s4)
  clear s4
  go_wp2
  exact ⟨rfl, ⟨g, rfl⟩, Hfin.out⟩

set_option maxRecDepth 100000 in
set_option maxHeartbeats 2000000 in
theorem hash_endif_die {dead rest : List Ab} {a : Ab} {kt : Tok} {R : List Tok} (h : Inp w B ib C (dead ++ a :: rest) mn mac ifs bol text) (hon : onB ifs = true) (hil : ifs.length < 1000) (hd : ∀ d ∈ dead, d.ts = []) (hats : a.ts = kt :: R) (hkk : kt.k = -2) (hkx : kt.x = kwEndif) (hC : C.lim ≤ w.heap.size) (hg : Glob w ev) (hB : 21 ≤ B) (hl : (dead ++ a :: rest).length < 500)
    (hcall : ∀ w1, Inp w1 B ib C ({ a with cur := kt, ts := R } :: rest) mn mac ifs bol text → C.lim ≤ w1.heap.size → Glob w1 ev → Calls Tryz.prog 69 #[.pointer (some ⟨ib, 0, none⟩)] w1 (DieQ B C.bl w1)) :
    Calls Tryz.prog 51 #[.pointer (some ⟨ib, 0, none⟩)] w (DieQ B C.bl w) := by
  have Hn := Lib.hid (inNext h hd (t := kt) (ts := R) hats hg hB hl)
  rw [hkk] at Hn
  have hl2 : ({ a with cur := kt, ts := R } :: rest : List Ab).length < 500 := by simp at hl ⊢; omega
  have Htx := Lib.hid (fun (w1 : World) (h1 : Inp w1 B ib C ({ a with cur := kt, ts := R } :: rest) mn mac ifs bol text) => inText h1 (by show kt.k ≠ 0; rw [hkk]; decide) hl2)
  simp only [hkx] at Htx
  have Hen := Lib.hid (fun (w1 : World) (h1 : Inp w1 B ib C ({ a with cur := kt, ts := R } :: rest) mn mac ifs bol text) => inEnabled h1 hil)
  rw [hon] at Hen
  have Hcall := Lib.hid hcall
  have Hg := Lib.hid hg
  clear h hd hats hkk hkx hg hl hl2 hon hil hcall
  have q_define : ((mkS kwEndif).toList == [100, 101, 102, 105, 110, 101]) = false := by rw [mkS_toList]; decide
  have q_else : ((mkS kwEndif).toList == [101, 108, 115, 101]) = false := by rw [mkS_toList]; decide
  have q_endif : ((mkS kwEndif).toList == [101, 110, 100, 105, 102]) = true := by rw [mkS_toList]; decide
  have q_ifdef : ((mkS kwEndif).toList == [105, 102, 100, 101, 102]) = false := by rw [mkS_toList]; decide
  have q_ifndef : ((mkS kwEndif).toList == [105, 102, 110, 100, 101, 102]) = false := by rw [mkS_toList]; decide
  have q_include : ((mkS kwEndif).toList == [105, 110, 99, 108, 117, 100, 101]) = false := by rw [mkS_toList]; decide
  have q_line : ((mkS kwEndif).toList == [108, 105, 110, 101]) = false := by rw [mkS_toList]; decide
  have q_undef : ((mkS kwEndif).toList == [117, 110, 100, 101, 102]) = false := by rw [mkS_toList]; decide
  go_enter Tryz.func51, Tryz.ntmps51
  go_wp2_with fail
  refine Hn.out.mono ?_
  rintro e w1 ⟨rfl, h1, s1⟩
  have He1 := Lib.hid (Hen.out w1 h1)
  have H1 := Lib.hid h1
  have S1 := Lib.hid s1
  clear h1 s1
  go_wp2_with fail
  refine He1.out.mono ?_
  rintro e w2 ⟨rfl, m2, rfl⟩
  have Ht2 := Lib.hid (Htx.out _ (H1.out.drewN m2))
  have S2 := Lib.hid (S1.out.trans ((Soft.refl B C.bl w1).drewN m2))
  go_wp2_with fail
  refine Ht2.out.mono ?_
  rintro e w3 ⟨rfl, h3, s3⟩
  have Hd3 := Lib.hid (Hcall.out w3 h3 (Nat.le_trans hC (S2.out.trans s3).size) ((S2.out.trans s3).glob Hg.out hB))
  have S3 := Lib.hid (S2.out.trans s3)
  clear h3 s3
  go_wp2_with fail
  refine Hd3.out.mono ?_
  rintro e w4 ⟨⟨g, rfl⟩, s4⟩
  have Hfin := Lib.hid (S3.out.trans s4)
  clear s4
  go_wp2
  exact ⟨rfl, ⟨g, rfl⟩, Hfin.out⟩

set_option maxRecDepth 100000 in
set_option maxHeartbeats 2000000 in
theorem hash_include_die {dead rest : List Ab} {a : Ab} {kt : Tok} {R : List Tok} (h : Inp w B ib C (dead ++ a :: rest) mn mac ifs bol text) (hon : onB ifs = true) (hil : ifs.length < 1000) (hd : ∀ d ∈ dead, d.ts = []) (hats : a.ts = kt :: R) (hkk : kt.k = -2) (hkx : kt.x = kwInclude) (hC : C.lim ≤ w.heap.size) (hg : Glob w ev) (hB : 21 ≤ B) (hl : (dead ++ a :: rest).length < 500)
    (hcall : ∀ w1, Inp w1 B ib C ({ a with cur := kt, ts := R } :: rest) mn mac ifs bol text → C.lim ≤ w1.heap.size → Glob w1 ev → Calls Tryz.prog 71 #[.pointer (some ⟨ib, 0, none⟩)] w1 (DieQ B C.bl w1)) :
    Calls Tryz.prog 51 #[.pointer (some ⟨ib, 0, none⟩)] w (DieQ B C.bl w) := by
  have Hn := Lib.hid (inNext h hd (t := kt) (ts := R) hats hg hB hl)
  rw [hkk] at Hn
  have hl2 : ({ a with cur := kt, ts := R } :: rest : List Ab).length < 500 := by simp at hl ⊢; omega
  have Htx := Lib.hid (fun (w1 : World) (h1 : Inp w1 B ib C ({ a with cur := kt, ts := R } :: rest) mn mac ifs bol text) => inText h1 (by show kt.k ≠ 0; rw [hkk]; decide) hl2)
  simp only [hkx] at Htx
  have Hen := Lib.hid (fun (w1 : World) (h1 : Inp w1 B ib C ({ a with cur := kt, ts := R } :: rest) mn mac ifs bol text) => inEnabled h1 hil)
  rw [hon] at Hen
  have Hcall := Lib.hid hcall
  have Hg := Lib.hid hg
  clear h hd hats hkk hkx hg hl hl2 hon hil hcall
  have q_define : ((mkS kwInclude).toList == [100, 101, 102, 105, 110, 101]) = false := by rw [mkS_toList]; decide
  have q_else : ((mkS kwInclude).toList == [101, 108, 115, 101]) = false := by rw [mkS_toList]; decide
  have q_endif : ((mkS kwInclude).toList == [101, 110, 100, 105, 102]) = false := by rw [mkS_toList]; decide
  have q_ifdef : ((mkS kwInclude).toList == [105, 102, 100, 101, 102]) = false := by rw [mkS_toList]; decide
  have q_ifndef : ((mkS kwInclude).toList == [105, 102, 110, 100, 101, 102]) = false := by rw [mkS_toList]; decide
  have q_include : ((mkS kwInclude).toList == [105, 110, 99, 108, 117, 100, 101]) = true := by rw [mkS_toList]; decide
  have q_line : ((mkS kwInclude).toList == [108, 105, 110, 101]) = false := by rw [mkS_toList]; decide
  have q_undef : ((mkS kwInclude).toList == [117, 110, 100, 101, 102]) = false := by rw [mkS_toList]; decide
  go_enter Tryz.func51, Tryz.ntmps51
  go_wp2_with fail
  refine Hn.out.mono ?_
  rintro e w1 ⟨rfl, h1, s1⟩
  have He1 := Lib.hid (Hen.out w1 h1)
  have H1 := Lib.hid h1
  have S1 := Lib.hid s1
  clear h1 s1
  go_wp2_with fail
  refine He1.out.mono ?_
  rintro e w2 ⟨rfl, m2, rfl⟩
  have Ht2 := Lib.hid (Htx.out _ (H1.out.drewN m2))
  have S2 := Lib.hid (S1.out.trans ((Soft.refl B C.bl w1).drewN m2))
  go_wp2_with fail
  refine Ht2.out.mono ?_
  rintro e w3 ⟨rfl, h3, s3⟩
  have Hd3 := Lib.hid (Hcall.out w3 h3 (Nat.le_trans hC (S2.out.trans s3).size) ((S2.out.trans s3).glob Hg.out hB))
  have S3 := Lib.hid (S2.out.trans s3)
  clear h3 s3
  go_wp2_with fail
  refine Hd3.out.mono ?_
  rintro e w4 ⟨⟨g, rfl⟩, s4⟩
  have Hfin := Lib.hid (S3.out.trans s4)
  clear s4
  go_wp2
  exact ⟨rfl, ⟨g, rfl⟩, Hfin.out⟩

end

section
variable {w w' : World} {B ib : Nat} {C : Cfg} {s s' : Sg} {ev : Value}
/-- hash dies. -/
def HsD (B ib : Nat) (C : Cfg) (ev : Value) (s : Sg) : Prop := ∀ w, Held w B ib C s → Glob w ev → Calls Tryz.prog 51 #[.pointer (some ⟨ib, 0, none⟩)] w (DieQ B C.bl w)
/-- Next dies (n: rounds to come). -/
inductive NxD (B ib : Nat) (C : Cfg) (ev : Value) : Nat → Sg → Prop
  | place {s dead a rest t ts} : s.ab = dead ++ a :: rest → (∀ d ∈ dead, d.ts = []) → a.ts = t :: ts → (dead ++ a :: rest).length < 500 → t.k = 35 → s.bol = false → NxD B ib C ev 0 s
  | eof {s dead a} : s.ab = dead ++ [a] → (∀ d ∈ dead, d.ts = []) → a.ts = [] → a.istz = true → s.ifs ≠ [] → s.ifs.length < 1000 → (dead ++ [a]).length < 500 → NxD B ib C ev 0 s
  | hash {s dead a rest t ts} : s.ab = dead ++ a :: rest → (∀ d ∈ dead, d.ts = []) → a.ts = t :: ts → (dead ++ a :: rest).length < 500 → t.k = 35 → s.bol = true → HsD B ib C ev { s with ab := { a with cur := t, ts := ts } :: rest } → NxD B ib C ev 0 s
  | skip {n s dead a rest t ts} : s.ab = dead ++ a :: rest → (∀ d ∈ dead, d.ts = []) → a.ts = t :: ts → (dead ++ a :: rest).length < 500 → t.k ≠ 35 → t.k ≠ -1 → t.k ≠ 0 → t.x.length ≤ 1000 → (t.k = -2 → s.mac t.x = none) → s.ifs.length < 1000 → onB s.ifs = false →
      NxD B ib C ev n { s with ab := { a with cur := t, ts := ts } :: rest, bol := t.k == 10 } → NxD B ib C ev (n + 1) s
  | inva {s dead a rest t ts m} : s.ab = dead ++ a :: rest → (∀ d ∈ dead, d.ts = []) → a.ts = t :: ts → (dead ++ a :: rest).length < 100 → t.k = -2 → t.x.length ≤ 1000 → s.mac t.x = some m →
      (∀ (w : World) (L b : Nat), L ≤ w.heap.size → Inp w B ib { C with lim := L } ({ a with cur := t, ts := ts } :: rest) s.mn s.mac s.ifs s.bol s.text → MacAt w L b t.x m → Glob w ev → Calls Tryz.prog 53 #[.pointer (some ⟨ib, 0, none⟩), .pointer (some ⟨b, 0, none⟩)] w (DieQ B C.bl w)) → NxD B ib C ev 0 s

def DLoop (B ib : Nat) (C : Cfg) (ev : Value) (w : World) (n : Nat) (v4 : Value) (wr : World) : Prop := ∃ s nest, v4 = .int .i64 (nest : Nat) ∧ nest ≤ 99 ∧ Held wr B ib C s ∧ NxD B ib C ev n s ∧ Soft B C.bl w wr

set_option maxRecDepth 100000 in
set_option maxHeartbeats 4000000 in
theorem next_die {n : Nat} (h : Held w B ib C s) (hn : NxD B ib C ev n s) (hg : Glob w ev) (hB : 21 ≤ B) :
    Calls Tryz.prog 34 #[.pointer (some ⟨ib, 0, none⟩)] w (DieQ B C.bl w) := by
  have c7 : w.cell? ⟨ib, 7, none⟩ = some (.bool false) := by obtain ⟨L, _, h⟩ := h; exact h.c7
  have H := Lib.hid h
  have Hn := Lib.hid hn
  have Hg := Lib.hid hg
  clear h hn hg
  go_enter Tryz.func34, Tryz.ntmps34
  go_wp2
  go_loopg [4] n (fun n v4 wr => DLoop B ib C ev w n v4 wr)
  case atStart => exact ⟨s, 0, rfl, by omega, H.out, Hn.out, Soft.refl _ _ _⟩
  case round =>
    clear H Hn c7
    obtain ⟨s1, nest, rfl, hnest, hH, hN, hS⟩ := hrel
    have hg1 := hS.glob Hg.out hB
    obtain ⟨L, hL, hI⟩ := hH
    have hnl : (nest : Int) < 100 := by omega
    cases hN with
    | @skip nn _ dead a rest t ts a1 a2 a3 a4 a5 a6 a7 a8 a9 a10 a11 a12 => as_aux_lemma =>
      rw [a1] at hI
      have Hnx := Lib.hid (inNext hI a2 a3 hg1 hB a4)
      have hl2 : ({ a with cur := t, ts := ts } :: rest : List Ab).length < 500 := by simp at a4 ⊢; omega
      have Htx := Lib.hid (fun (w1 : World) (b : Bool) (h1 : Inp w1 B ib { C with lim := L } ({ a with cur := t, ts := ts } :: rest) s1.mn s1.mac s1.ifs b s1.text) => inText h1 a7 hl2)
      have Hen := Lib.hid (fun (w1 : World) (b : Bool) (h1 : Inp w1 B ib { C with lim := L } ({ a with cur := t, ts := ts } :: rest) s1.mn s1.mac s1.ifs b s1.text) => inEnabled h1 a10)
      rw [a11] at Hen
      have HS := Lib.hid (Soft.refl B C.bl wr)
      have HM := Lib.hid a9
      have b35 : (t.k == 35) = false := by simp [a5]
      have b1 : (t.k == -1) = false := by simp [a6]
      have hfin : ∀ w2 : World, Inp w2 B ib { C with lim := L } ({ a with cur := t, ts := ts } :: rest) s1.mn s1.mac s1.ifs (t.k == 10) s1.text → Soft B C.bl wr w2 → DLoop B ib C ev w nn (.int .i64 (nest : Nat)) w2 := fun w2 h3 h4 =>
        ⟨_, nest, rfl, hnest, ⟨L, by have := h4.size; omega, h3⟩, a12, hS.trans h4⟩
      have Hfin := Lib.hid hfin
      clear hI hS hL a1 a2 a3 a4 a5 a6 a7 a9 a10 a11 a12 hl2 hg1 hfin
      obtain ⟨tk, htk⟩ : ∃ tk, tk = t.k := ⟨_, rfl⟩
      rw [← htk] at Hnx b35 b1 HM Hfin
      clear htk
      cases hid : (tk == -2) with
      | true =>
        have Hm := Lib.hid (HM.out (by simpa using hid))
        go_wp2_with fail
        refine Hnx.out.mono ?_
        rintro e w1 ⟨rfl, h1, s1'⟩
        have Ht1 := Lib.hid (Htx.out w1 _ h1)
        have S1 := Lib.hid (HS.out.trans s1')
        clear h1 s1'
        go_wp2_with fail
        refine Ht1.out.mono ?_
        rintro e w2 ⟨rfl, h2, s2⟩
        obtain ⟨c5, hlook⟩ := h2.mac_none Hm.out (by omega)
        dsimp only at c5 hlook
        have Hb := Lib.hid (h2.setBol (tk == 10))
        obtain ⟨k3, f3⟩ := h2.c3
        have S2 := Lib.hid (S1.out.trans s2)
        clear h2 s2
        go_wp2_with fail
        refine (Hen.out _ _ Hb.out.1).mono ?_
        rintro e w3 ⟨rfl, m3, rfl⟩
        have S3 := Lib.hid (S2.out.trans (Hb.out.2.trans ((Soft.refl B C.bl _).drewN m3)))
        have Hend := Lib.hid (Hfin.out _ (Hb.out.1.drewN m3) S3.out)
        clear k3 f3
        go_wp2
        go_roundg nn
        case measure => simp
        case rel => exact Hend.out
      | false =>
        go_wp2_with fail
        refine Hnx.out.mono ?_
        rintro e w2 ⟨rfl, h2, s2⟩
        have S1 := HS
        have Hb := Lib.hid (h2.setBol (tk == 10))
        obtain ⟨k3, f3⟩ := h2.c3
        have S2 := Lib.hid (S1.out.trans s2)
        clear h2 s2
        go_wp2_with fail
        refine (Hen.out _ _ Hb.out.1).mono ?_
        rintro e w3 ⟨rfl, m3, rfl⟩
        have S3 := Lib.hid (S2.out.trans (Hb.out.2.trans ((Soft.refl B C.bl _).drewN m3)))
        have Hend := Lib.hid (Hfin.out _ (Hb.out.1.drewN m3) S3.out)
        clear k3 f3
        go_wp2
        go_roundg nn
        case measure => simp
        case rel => exact Hend.out
    | @place _ dead a rest t ts a1 a2 a3 a4 a5 a6 => as_aux_lemma =>
      rw [a1] at hI
      have Hnx := Lib.hid (inNext hI a2 a3 hg1 hB a4)
      rw [a5] at Hnx
      have hl2 : ({ a with cur := t, ts := ts } :: rest : List Ab).length < 500 := by simp at a4 ⊢; omega
      have HE := Lib.hid (fun (w1 : World) (x : ByteArray) (hx : x.size ≤ 1000) (h1 : Inp w1 B ib { C with lim := L } ({ a with cur := t, ts := ts } :: rest) s1.mn s1.mac s1.ifs s1.bol s1.text) => inErrOne h1 hl2 hx)
      have HS := Lib.hid hS
      clear hI hS hL a1 a2 a3 a4 a5 hl2 hg1
      go_wp2_with fail
      refine Hnx.out.mono ?_
      rintro e w1 ⟨rfl, h1, s1'⟩
      obtain ⟨k3, f3⟩ := h1.c3
      rw [a6] at k3
      have S1 := Lib.hid (HS.out.trans s1')
      have H1 := Lib.hid h1
      clear h1 s1' a6
      go_wp2_with fail
      refine (HE.out w1 _ (by decide) H1.out).mono ?_
      rintro e w2 ⟨⟨g, rfl⟩, s2⟩
      have Hfin := Lib.hid (S1.out.trans s2)
      clear s2
      go_wp2
      exact ⟨rfl, ⟨g, rfl⟩, Hfin.out⟩
    | @eof _ dead a a1 a2 a3 a4 a5 a6 a7 => as_aux_lemma =>
      rw [a1] at hI
      have Hnx := Lib.hid (inEof hI a2 a3 a4 hg1 hB a7)
      have HE := Lib.hid (fun (w1 : World) (c : Nat) (x : ByteArray) (hx : x.size ≤ 1000) (h1 : Inp w1 B ib { C with lim := L } [{ a with cur := ⟨-1, [], a.cur.line, c⟩, ts := [] }] s1.mn s1.mac s1.ifs s1.bol s1.text) => inErrOne h1 (by simp) hx)
      have HS := Lib.hid hS
      obtain ⟨q, hq⟩ : ∃ q, q = s1.ifs.length := ⟨_, rfl⟩
      have hq0 : (0 : Int) < (q : Int) := by have := List.length_pos_iff.2 a5; omega
      have Hq := Lib.hid hq
      clear hI hS hL a1 a2 a3 a4 a5 a6 a7 hg1 hq
      go_wp2_with fail
      refine Hnx.out.mono ?_
      rintro e w1 ⟨c, rfl, h1, s1'⟩
      have k4 : ∃ ad cc, w1.cell? ⟨ib, 4, none⟩ = some (.slice ad q cc) := by
        obtain ⟨S, rs, h1⟩ := h1
        obtain ⟨ad, cc, _, h2, _⟩ := h1.c4
        exact ⟨ad, cc, by rw [Hq.out]; exact h2⟩
      obtain ⟨ad, cc, k4⟩ := k4
      have S1 := Lib.hid (HS.out.trans s1')
      have H1 := Lib.hid h1
      clear h1 s1'
      go_wp2_with fail
      refine (HE.out w1 c _ (by decide) H1.out).mono ?_
      rintro e w2 ⟨⟨g, rfl⟩, s2⟩
      have Hfin := Lib.hid (S1.out.trans s2)
      clear s2
      go_wp2
      exact ⟨rfl, ⟨g, rfl⟩, Hfin.out⟩
    | @inva _ dead a rest t ts m a1 a2 a3 a4 a6 a7 a8 a9 => as_aux_lemma =>
      rw [a1] at hI
      have Hnx := Lib.hid (inNext hI a2 a3 hg1 hB (by omega))
      rw [a6] at Hnx
      have hl2 : ({ a with cur := t, ts := ts } :: rest : List Ab).length < 500 := by simp at a4 ⊢; omega
      have Htx := Lib.hid (fun (w1 : World) (h1 : Inp w1 B ib { C with lim := L } ({ a with cur := t, ts := ts } :: rest) s1.mn s1.mac s1.ifs s1.bol s1.text) => inText h1 (by show t.k ≠ 0; rw [a6]; decide) hl2)
      have Hinv := Lib.hid (fun (w1 : World) (b : Nat) (h1 : Inp w1 B ib { C with lim := L } ({ a with cur := t, ts := ts } :: rest) s1.mn s1.mac s1.ifs s1.bol s1.text) (hm : MacAt w1 L b t.x m) (hL1 : L ≤ w1.heap.size) (hg2 : Glob w1 ev) => a9 w1 L b hL1 h1 hm hg2)
      have HM := Lib.hid a8
      have HL := Lib.hid hL
      have Hg1 := Lib.hid hg1
      have HS := Lib.hid hS
      clear hI hS hL a1 a2 a3 a4 a6 a8 a9 hl2 hg1
      go_wp2_with fail
      refine Hnx.out.mono ?_
      rintro e' w1 ⟨rfl, h1, s1'⟩
      have Ht1 := Lib.hid (Htx.out w1 h1)
      have S1 := Lib.hid s1'
      clear h1 s1'
      go_wp2_with fail
      refine Ht1.out.mono ?_
      rintro e' w2 ⟨rfl, h2, s2⟩
      obtain ⟨b, c5, hlook, hma⟩ := h2.mac_some HM.out (by omega)
      dsimp only at c5 hlook
      have S2 := Lib.hid (S1.out.trans s2)
      have Hi2 := Lib.hid (Hinv.out w2 b h2 hma (Nat.le_trans HL.out S2.out.size) (S2.out.glob Hg1.out hB))
      have hnn : ∀ u : World, (binOp BinOp.neq 106 (.pointer (some ⟨b, 0, none⟩)) (.pointer none)).run Tryz.prog u = .ok (.bool true) u := fun u => by kernel_rfl
      have en : IntKind.i64.wrap ((nest : Int) + 1) = (nest : Int) + 1 := IntWalk.i64_in _ (by omega)
      clear h2 s2 hma
      go_wp2_with fail
      refine Hi2.out.mono ?_
      rintro e' w3 ⟨⟨g, rfl⟩, s3⟩
      have Hfin := Lib.hid (HS.out.trans (S2.out.trans s3))
      clear s3
      go_wp2
      exact ⟨rfl, ⟨g, rfl⟩, Hfin.out⟩
    | @hash _ dead a rest t ts a1 a2 a3 a4 a5 a6 a7 => as_aux_lemma =>
      rw [a1] at hI
      have Hnx := Lib.hid (inNext hI a2 a3 hg1 hB a4)
      rw [a5] at Hnx
      have HH := Lib.hid (fun (w1 : World) (h1 : Inp w1 B ib { C with lim := L } ({ a with cur := t, ts := ts } :: rest) s1.mn s1.mac s1.ifs s1.bol s1.text) (hL1 : L ≤ w1.heap.size) (hg1 : Glob w1 ev) => a7 w1 ⟨L, hL1, h1⟩ hg1)
      have HS := Lib.hid hS
      have HL := Lib.hid hL
      have Hg1 := Lib.hid hg1
      clear hI hS hL a1 a2 a3 a4 a5 a7 hg1
      go_wp2_with fail
      refine Hnx.out.mono ?_
      rintro e w1 ⟨rfl, h1, s1'⟩
      obtain ⟨k3, f3⟩ := h1.c3
      rw [a6] at k3
      have Hh := Lib.hid (HH.out w1 h1 (Nat.le_trans HL.out s1'.size) (s1'.glob Hg1.out hB))
      have S1 := Lib.hid (HS.out.trans s1')
      clear h1 s1' a6
      go_wp2_with fail
      refine Hh.out.mono ?_
      rintro e w2 ⟨⟨g, rfl⟩, s2⟩
      have Hfin := Lib.hid (S1.out.trans s2)
      clear s2
      go_wp2
      exact ⟨rfl, ⟨g, rfl⟩, Hfin.out⟩
end
theorem assert_err (v : Value) (w : World) : (Instr.typeAssert (.iface 45 v) 20 45 true).run Tryz.prog w = .ok (.tuple #[v, .bool true]) w := by
  simp [Instr.typeAssert, go_sem, Tryz.underlying45]

theorem zzTokens_caught (p : Addr) (g : Nat) (w : World) (hc : w.cell? p = some (.pointer none)) (hz : w.frozen? p = false) :
    CallsD Tryz.prog 29 #[.pointer (some p)] (.panicking [{ v := .iface 45 (.pointer (some ⟨g, 0, none⟩)), recovered := false }]) w fun e u' w' =>
      e = .returned (.tuple #[]) ∧ u' = .panicking [{ v := .iface 45 (.pointer (some ⟨g, 0, none⟩)), recovered := true }] ∧ w' = w.setCell p (.pointer (some ⟨g, 0, none⟩)) := by
  refine callsD_of_wpS Tryz.func29 rfl fun c₀ cs hu => ?_
  apply wpS_seq
  apply wpS_region
  simp [wpOpsS, go_sem, recoverD, hu, Tryz.ntmps29, Exit.thenS]
  apply wpS_seq
  apply wpS_region
  simp [wpOpsS, go_sem, Exit.thenS]
  refine wpS_cond (t := true) (by simp [Act.eval, Array.replicate]) ?_
  simp only [if_true]
  apply wpS_seq
  apply wpS_region
  simp [wpOpsS, go_sem, assert_err, Exit.thenS]
  apply wpS_seq
  apply wpS_seq
  apply wpS_region
  simp [wpOpsS, go_sem, Exit.thenS]
  refine wpS_cond (t := false) (by simp [Act.eval, Array.replicate]) ?_
  simp only [Bool.false_eq_true, if_false]
  refine wpS_of_wp (wp_skip ?_)
  simp only [Exit.thenS]
  apply wpS_region
  simp [wpOpsS, go_sem, hc, hz, bodyPostS, results, Tryz.results29]
/-- What ZZTokens leaves: an error. -/
def ZTD (l : List Fd) (w : World) (e : Ending) (w' : World) : Prop :=
  ∃ a n c p, e = .returned (.tuple #[.slice a n c, .pointer (some p)]) ∧ n = l.length ∧ w'.ownsRow 0 52 4 (.slice a n c) n (cellsZ l) ∧ Below w.heap.size w w'
def ExD (l : List Fd) (w : World) (e : Ending) (w' : World) : Prop :=
  ∃ a n c, e = .returned (.tuple #[.slice a n c, .bool false]) ∧ n = l.length ∧ Below w.heap.size w w'

section
variable {w : World} {ev : Value}

set_option maxRecDepth 100000 in
set_option maxHeartbeats 8000000 in
theorem zzTokens_die {fb nf mn0 il ic dl dc : Nat} {ia da : Option Addr} {F : Bs → Option ByteArray} {inc : List ByteArray} {mac0 : Bs → Option Mc} {text : Bs} {ts : List Tok} {l : List Fd} {s' : Sg}
    (hf : SMap w fb nf (fun x => (F x).map Value.string)) (hF : F mainBs = some (mkS text)) (htl : TL text 1 1 ts) (ha : ascii text) (hlen : text.length < 900000)
    (hnew : ∀ w1, Below w.heap.size w w1 → Calls Tryz.prog 30 #[.string mainName, .map (some fb), .slice ia il ic, .slice da dl dc] w1 (NewQ w.heap.size fb F inc mn0 mac0 w1))
    (hst : StT ⟨true, F, dotName :: inc⟩ l ⟨[tzAb mainName ts], mn0, mac0, [], true, []⟩ s') (hend : ∀ ib mb, ∃ n, NxD w.heap.size ib ⟨0, true, mb, fb, F, dotName :: inc⟩ ev n s') (hl : l.length < 100000) (hg : Glob w ev) (hB : 21 ≤ w.heap.size) :
    Calls Tryz.prog 25 #[.string mainName, .map (some fb), .slice ia il ic, .slice da dl dc] w (ZTD l w) := by
  have hmf : ∀ (fn : Fn) (first cap : Array Value) (w : World), (Instr.makeFunc fn first cap).run Tryz.prog w = .ok (.func fn first cap) w := fun _ _ _ _ => rfl
  have hb1 : Below w.heap.size w (w.alloc (.cells #[.pointer none] 45)) := (Below.refl _ _).alloc (Nat.le_refl _) _
  have hB1 := Blk.lit w #[.pointer none] 45
  have Hb1 := Lib.hid hb1
  have HB1 := Lib.hid hB1
  have Hf := Lib.hid hf
  have HF := Lib.hid hF
  have Htl := Lib.hid htl
  have Ha := Lib.hid ha
  have Hnew := Lib.hid (hnew _ hb1)
  have Hst := Lib.hid hst
  have Hend := Lib.hid hend
  have Hg := Lib.hid hg
  clear hb1 hB1 hf hF htl ha hnew hst hend hg
  go_enter_defers Tryz.func25, Tryz.ntmps25
  go_wp2_with fail
  obtain ⟨nb, hnb⟩ : ∃ nb, nb = w.heap.size := ⟨_, rfl⟩
  rw [← hnb] at HB1 ⊢
  have Hnb := Lib.hid hnb
  clear hnb
  generalize hw1 : w.alloc (.cells #[.pointer none] 45) = w1
  rw [hw1] at Hb1 HB1 Hnew
  clear hw1
  refine Hnew.out.mono ?_
  rintro e w2 ⟨ib, mb, rfl, hheld, hbel, hle⟩
  have hbel2 : Below w.heap.size w w2 := Hb1.out.trans (hbel.mono Hb1.out.size)
  have hf2 := Hf.out.of_heap (hbel2.block _ Hf.out.lt)
  have hlook := hf2.look Tryz.underlying48 (z := .string ⟨#[]⟩) (fun w => by kernel_rfl) mainBs (by decide)
  rw [HF.out] at hlook
  simp only [Option.map_some, Option.getD_some] at hlook
  have hlook' : (Instr.lookup 48 (.map (some fb)) (.string mainName) false).run Tryz.prog w2 = .ok (.string (mkS text)) w2 := hlook
  have hB2 : Blk w2 nb 45 1 (fun i => [Value.pointer none].getD i undef) := HB1.out.of_heap (hbel.block _ HB1.out.lt)
  have HHeld := Lib.hid hheld
  have Hbel2 := Lib.hid hbel2
  have HB2 := Lib.hid hB2
  have Hle := Lib.hid hle
  clear hheld hbel hbel2 hf2 hlook hB2 hle Hnew
  go_wp2_with fail
  refine newReader_any.mono ?_
  rintro e w3 ⟨rfl, rfl⟩
  have hb3 : Below w2.heap.size w2 (w2.alloc (.cells #[.string (mkS text), .int .i64 0, .int .i64 (-1)] 104)) := (Below.refl _ _).alloc (Nat.le_refl _) _
  have htok := newTok_any (w := w2.alloc (.cells #[.string (mkS text), .int .i64 0, .int .i64 (-1)] 104)) (B := w.heap.size) (rb := w2.heap.size) (ty := 63) (ra := some ⟨w2.heap.size, 0, none⟩) (nm := mainName) (text := text) (Nat.le_trans Hbel2.out.size hb3.size) ⟨Hbel2.out.size, .inr ⟨rfl, _, text, 0, -1, Blk.lit w2 _ _, rfl, rfl, rfl, by omega, rfl, by omega⟩⟩ (by simp) Ha.out (by omega)
  have Hb3 := Lib.hid hb3
  have Htok := Lib.hid htok
  clear hb3 htok hlook'
  go_wp2_with fail
  refine Htok.out.mono ?_
  rintro e w4 ⟨tz, sb, bb, rfl, hz, hpb, h1, h2, h3, hbel4⟩
  have hb4 : Below w2.heap.size w2 w4 := Hb3.out.trans (hbel4.mono Hb3.out.size)
  have hpush := inPush_tz HHeld.out hb4 hz hpb (Nat.le_trans Hb3.out.size h1) (Nat.le_trans Hb3.out.size h2) (Nat.le_refl _) Htl.out (by omega) (by simp)
  have Hpush := Lib.hid hpush
  have Hb4 := Lib.hid hb4
  clear hz hpb h1 h2 h3 hbel4 hb4 hpush Htok Hb3
  go_wp2_with fail
  refine Hpush.out.mono ?_
  rintro e w5 ⟨rfl, hheld, hs5⟩
  have hb5 : Below w.heap.size w w5 := (Hbel2.out.trans (Hb4.out.mono Hbel2.out.size)).trans (hs5.below (Nat.le_trans Hbel2.out.size Hb4.out.size))
  have hB5 : Blk w5 nb 45 1 (fun i => [Value.pointer none].getD i undef) := hs5.blk (HB2.out.of_heap (Hb4.out.block _ HB2.out.lt)) (err_mt2 _)
  have hst0 : ZLoop w.heap.size ib nb ⟨0, true, mb, fb, F, dotName :: inc⟩ s' l w l.length (.slice none 0 0) w5 :=
    ⟨_, [], l, none, 0, 0, rfl, rfl, rfl, rfl, World.ownsRow_nil _ _ _ _, hheld, Hst.out, hb5, hB5⟩
  have Hst0 := Lib.hid hst0
  clear hheld hs5 hb5 hB5 hst0 Hpush HHeld HB2 Hst Htl
  go_wp2
  go_loopg [8] l.length (fun n v8 wr => ZLoop w.heap.size ib nb ⟨0, true, mb, fb, F, dotName :: inc⟩ s' l w n v8 wr)
  case atStart => exact Hst0.out
  case round =>
    clear Hst0
    obtain ⟨s1, l1, l2, a, c, dl, hl12, rfl, hdl, rfl, hown, hH, hSt, hb, hBe⟩ := hrel
    have hgw : Glob wr ev := Hg.out.only (Only.ofBelow hb) (fun k hk e => by omega)
    cases hSt with
    | nil => as_aux_lemma =>
      obtain ⟨nd, hnd⟩ := Hend.out ib mb
      have Hnx := Lib.hid (next_die hH hnd hgw hB)
      have Hown := Lib.hid hown
      have Hb := Lib.hid hb
      have HBe := Lib.hid hBe
      have Hl12 := Lib.hid hl12
      have Hdl := Lib.hid hdl
      clear hown hH hb hBe hgw hl12 hdl hnd
      go_wp2_with fail
      refine Hnx.out.mono ?_
      rintro e w6 ⟨⟨gp, rfl⟩, hs6⟩
      have hB6 : Blk w6 nb 45 1 (fun i => [Value.pointer none].getD i undef) := hs6.blk HBe.out (err_mt2 _)
      have k0 : w6.cell? ⟨nb, 0, none⟩ = some (.pointer none) := hB6.cell (i := 0) (by decide)
      have f0 := hB6.frozen 0
      have k1 : (w6.setCell ⟨nb, 0, none⟩ (.pointer (some ⟨gp, 0, none⟩))).cell? ⟨nb, 0, none⟩ = some (.pointer (some ⟨gp, 0, none⟩)) := (hB6.set 0 (.pointer (some ⟨gp, 0, none⟩))).cell_eq (by decide) (upd_same _ _ _)
      have hdl2 : dl = l.length := by rw [Hdl.out, Hl12.out]; simp
      have hll : l1 = l := by rw [Hl12.out]; simp
      have ho := (Only.refl (fun k => k = nb) w6).setCell (p := ⟨nb, 0, none⟩) (fun _ => rfl) (.pointer (some ⟨gp, 0, none⟩))
      have hbw : Below w.heap.size w w6 := Hb.out.trans (hs6.below Hb.out.size)
      have hrow6 : w6.ownsRow w.heap.size 52 4 (.slice a dl c) dl (cellsZ l1) := hs6.row Hown.out (zz_mt2 _)
      have hfin : ZTD l w (.returned (.tuple #[.slice a dl c, .pointer (some ⟨gp, 0, none⟩)])) (w6.setCell ⟨nb, 0, none⟩ (.pointer (some ⟨gp, 0, none⟩))) := by
        refine ⟨a, dl, c, _, rfl, hdl2, ?_, ?_⟩
        · have h1 := ownsRow_low hrow6 (Nat.zero_le _)
          rw [hll] at h1
          exact row_only h1 ho (fun k e hk ht => typed_ne ht (e ▸ hB6.typed rfl) (fun T a b => by rw [a] at b; revert b; decide) rfl)
        · exact hbw.trans (ho.below hbw.size (fun k hk e => by have := Hnb.out; omega))
      have Hfin := Lib.hid hfin
      clear hB6 hdl2 hll ho hbw hrow6 hfin hs6 Hnx Hown Hb HBe
      go_wp2
      refine leaves_cons (f := 29) (args := #[.pointer (some ⟨nb, 0, none⟩)]) (by simp) (by simp [go_sem]) ?_
      refine (zzTokens_caught ⟨nb, 0, none⟩ gp _ k0 f0).mono ?_
      rintro e u' w'' ⟨rfl, rfl, rfl⟩
      simp [Leaves, settle, results, Tryz.results25, go_sem, k1]
      exact Hfin.out
    | @cons m _ k s2 a1 rest l3 _ hx hk hk1 hk2 hab hlen2 hSt => as_aux_lemma =>
      have hnx := next_in (C := ⟨0, true, mb, fb, F, dotName :: inc⟩) hH hx hgw hB
      have Hnx := Lib.hid hnx
      have Hown := Lib.hid hown
      have Hb := Lib.hid hb
      have HBe := Lib.hid hBe
      have Hl12 := Lib.hid hl12
      have Hdl := Lib.hid hdl
      have HSt := Lib.hid hSt
      have Hab := Lib.hid hab
      have hkb : (k == -1) = false := by simp [hk]
      clear hnx hown hH hb hBe hgw hl12 hdl hSt hab hx hk
      go_wp2_with fail
      refine Hnx.out.mono ?_
      rintro e w6 ⟨rfl, h6, s6⟩
      obtain ⟨L6, hL6, h6⟩ := h6
      rw [Hab.out] at h6
      have gdw : ∀ {fn : FuncId} {args : Array Value} {r : Value}, (∀ m, Calls Tryz.prog fn args (w6.drewN m) fun e w' => e = .returned r ∧ ∃ j, w' = (w6.drewN m).drewN j) → ∀ m, Calls Tryz.prog fn args (w6.drewN m) fun e w' => e = .returned r ∧ ∃ j, w' = w6.drewN j := fun h m => by
        refine (h m).mono ?_
        rintro e w' ⟨rfl, j, rfl⟩
        exact ⟨rfl, m + j, by simp [World.drewN, Nat.add_assoc]⟩
      have Htx := Lib.hid (gdw (fun m => inInText (h6.drewN m)))
      have Hfi := Lib.hid (gdw (fun m => inFile (h6.drewN m) hlen2))
      have Hli := Lib.hid (gdw (fun m => inLine (h6.drewN m) hlen2))
      have H6 := Lib.hid h6
      have S6 := Lib.hid s6
      clear h6 s6 gdw
      obtain ⟨nm, hnm⟩ : ∃ nm, nm = a1.nm := ⟨_, rfl⟩
      obtain ⟨ln, hln⟩ : ∃ ln, ln = a1.cur.line := ⟨_, rfl⟩
      rw [← hnm] at Hfi Hl12
      rw [← hln] at Hli Hl12
      clear hnm hln
      obtain ⟨i0, hi, hz0, hz1, hz2⟩ := info_parts infoZZ
      have hdl5 : dl < 100000 := by
        have h1 := congrArg List.length Hl12.out
        have h2 := Hdl.out
        simp at h1
        omega
      have hbw : Below w.heap.size w w6 := Hb.out.trans (S6.out.below Hb.out.size)
      have hbs := hbw.size
      have Hbw := Lib.hid hbw
      have hrow6 : w6.ownsRow w.heap.size 52 4 (.slice a dl c) dl (cellsZ l1) := S6.out.row Hown.out (zz_mt2 _)
      have HR : Hid (∀ j, (w6.drewN j).ownsRow w.heap.size 52 4 (.slice a dl c) dl (cellsZ l1)) := Lib.hid (fun j => ownsRow_only hrow6 (fun _ _ => rfl))
      have HNEWS : Hid (∀ j, ∀ i u, [Value.int .i32 k, .string (mkS s2.text), .string nm, .int .i64 (ln : Nat)][i]? = some u → ((w6.drewN j).alloc (.cells #[.int .i32 k, .string (mkS s2.text), .string nm, .int .i64 (ln : Nat)] 52)).cell? (Addr.add ⟨w6.heap.size, 0, none⟩ i) = some u) := Lib.hid (fun j => cellFour (w6.drewN j) _ _ _ _ _)
      have hB6 : Blk w6 nb 45 1 (fun i => [Value.pointer none].getD i undef) := S6.out.blk HBe.out (err_mt2 _)
      have HB6 := Lib.hid hB6
      clear hrow6 hbw hB6 HBe Hown Hb
      go_upto_region 7 with (fail)
      go_region_held3 (fun w' => True) (first | trivial | assumption)
        (first
          | (go_at_call 35; refine (Htx.out _).mono ?_; rintro e w7 ⟨rfl, j7, rfl⟩)
          | (go_at_call 36; refine (Hfi.out _).mono ?_; rintro e w7 ⟨rfl, j7, rfl⟩)
          | (go_at_call 37; refine (Hli.out _).mono ?_; rintro e w7 ⟨rfl, j7, rfl⟩)
          | (refine step_append_lies _ (by rfl) _ _ _ (by rfl) w.heap.size 52 i0 _ 4 48 Tryz.underlying44 hi hz0 hz1 hz2 rfl (by omega) (.slice a dl c) dl (cellsZ l1) (by rfl) ((HR.out _).alloc _) ⟨w6.heap.size, 0, none⟩ 1 1 [.int .i32 k, .string (mkS s2.text), .string nm, .int .i64 (ln : Nat)] (by rfl) (by rfl) (HNEWS.out _) (by simp [Value.oneCell']) (by omega) (by unfold maxLen; omega) (by omega) (by simp; omega) (w6.heap.size + 1) (by simp) ?_; intro g9 c9 w9 hown9 hgrow9 hat9 hlt9; have HOWN9 := Lib.hid hown9; have HGROW9 := Lib.hid hgrow9; clear hown9 hgrow9 hat9 hlt9))
      have hrel : ZLoop w.heap.size ib nb ⟨0, true, mb, fb, F, dotName :: inc⟩ s' l w l3.length (.slice (some ⟨g9, 0, none⟩) (dl + 1 : Nat) c9) w9 := by
        have hb7 : Below w6.heap.size w6 ((w6.drewN j7).alloc (.cells #[.int .i32 k, .string (mkS s2.text), .string nm, .int .i64 (ln : Nat)] 52)) := (below_drewN (Below.refl _ _) _).alloc (Nat.le_refl _) _
        have ho := (Only.refl (fun q => (Value.slice a dl c).ownBlock = some q) _).grown HGROW9.out (fun k hk _ => hk)
        have hty : ∀ q, (Value.slice a dl c).ownBlock = some q → w.heap.size ≤ q ∧ Typed ((w6.drewN j7).alloc (.cells #[.int .i32 k, .string (mkS s2.text), .string nm, .int .i64 (ln : Nat)] 52)) q (· = 52) := fun q hq => ownBlock_row ((HR.out j7).alloc _) q hq
        have h9 := ((H6.out).below hb7).far zz_far ho (fun q hq _ => (hty q hq).2)
        refine ⟨s2, l1 ++ [⟨k, s2.text, nm, ln⟩], l3, some ⟨g9, 0, none⟩, c9, dl + 1, by rw [Hl12.out]; simp, rfl, by simp [Hdl.out], rfl, by rw [cellsZ_snoc]; exact HOWN9.out, ⟨L6, Nat.le_trans hL6 (Nat.le_trans hb7.size ho.size), by rw [Hab.out]; exact h9⟩, HSt.out, ?_, ?_⟩
        · exact (Hbw.out.trans (hb7.mono hbs)).trans (ho.below (Nat.le_trans hbs hb7.size) (fun q hk e => by have := (hty q e).1; omega))
        · exact (HB6.out.of_heap (hb7.block _ HB6.out.lt)).only ho (fun e => typed_ne (hty _ e).2 ((HB6.out.of_heap (hb7.block _ HB6.out.lt)).typed rfl) (fun T a b => by rw [a] at b; revert b; decide) rfl)
      have Hrel := Lib.hid hrel
      clear hrel HOWN9 HGROW9
      go_wp2
      go_roundg l3.length
      case measure => simp
      case rel => exact Hrel.out

set_option maxRecDepth 100000 in
set_option maxHeartbeats 8000000 in
theorem expand_die {g cap mn0 il ic dl dc : Nat} {ia da : Option Addr} {inc : List ByteArray} {mac0 : Bs → Option Mc} {text : Bs} {ts : List Tok} {l : List (Bs × ByteArray)} {fl : List Fd} {s' : Sg}
    (hr : Files w g cap ((mainBs, mkS text) :: l)) (hnm : ∀ p ∈ l, p.1.length ≤ 1000000) (hll : l.length < 900) (hF : tab ((mainBs, mkS text) :: l) (fun _ => none) mainBs = some (mkS text)) (htl : TL text 1 1 ts) (ha : ascii text) (hlen : text.length < 900000)
    (hnew : ∀ w0 w1 fb nf, Below w.heap.size w w0 → SMap w0 fb nf (tabV ((mainBs, mkS text) :: l)) → Below w0.heap.size w0 w1 → Calls Tryz.prog 30 #[.string mainName, .map (some fb), .slice ia il ic, .slice da dl dc] w1 (NewQ w0.heap.size fb (tab ((mainBs, mkS text) :: l) (fun _ => none)) inc mn0 mac0 w1))
    (hst : StT ⟨true, tab ((mainBs, mkS text) :: l) (fun _ => none), dotName :: inc⟩ fl ⟨[tzAb mainName ts], mn0, mac0, [], true, []⟩ s') (hend : ∀ w0 ib mb fb, Below w.heap.size w w0 → ∃ n, NxD w0.heap.size ib ⟨0, true, mb, fb, tab ((mainBs, mkS text) :: l) (fun _ => none), dotName :: inc⟩ ev n s') (hfl : fl.length < 100000) (hfk : ∀ f ∈ fl, -1000000 ≤ f.k ∧ f.k < 1000000) (hg : Glob w ev) (hB : 21 ≤ w.heap.size) :
    Calls Tryz.prog 18 #[.slice (some ⟨g, 0, none⟩) (l.length + 1 : Nat) cap, .slice ia il ic, .slice da dl dc] w (ExD fl w) := by
  have hgl : g < w.heap.size := (ownBlock_row hr g rfl).2.lt
  have hlen2 : l.length + 1 ≤ cap := by
    obtain ⟨_, ⟨e, _⟩ | ⟨g', cap', cur, e, _, _, h1, h2⟩⟩ := hr
    · cases e
    · cases e; simpa using h1
  obtain ⟨L, hL⟩ : ∃ L, L = l.length + 1 := ⟨_, rfl⟩
  have k0 : w.cell? ⟨g, 0, none⟩ = some (.string mainName) := hr.cells (g := g) rfl 0 _ rfl
  rw [← hL] at hlen2 ⊢
  have htab : ∀ k, Calls Tryz.prog 26 #[.slice (some ⟨g, 0, none⟩) L cap] (w.drewN k) (TabQ ((mainBs, mkS text) :: l) (w.drewN k)) := fun k => by
    have h := tableOf_any (w := w.drewN k) (l := (mainBs, mkS text) :: l) (g := g) (cap := cap) (ownsRow_only hr (fun _ _ => rfl)) (fun p hp => by
      rcases List.mem_cons.1 hp with e | hp
      · rw [e]; exact (by decide : mainBs.length ≤ 1000000)
      · exact hnm p hp) (by simp; omega)
    rwa [show ((mainBs, mkS text) :: l).length = L from hL.symm] at h
  have hzz : ∀ w0 fb, Below w.heap.size w w0 → SMap w0 fb L (tabV ((mainBs, mkS text) :: l)) → Calls Tryz.prog 25 #[.string mainName, .map (some fb), .slice ia il ic, .slice da dl dc] w0 (ZTD fl w0) := fun w0 fb hb hm =>
    zzTokens_die hm hF htl ha hlen (fun w1 h1 => hnew w0 w1 fb L hb hm h1) hst (fun ib mb => hend w0 ib mb fb hb) hfl (hg.only (Only.ofBelow hb) (fun k hk e => by omega)) (Nat.le_trans hB hb.size)
  have Htab := Lib.hid htab
  have Hzz := Lib.hid hzz
  have Hfk := Lib.hid hfk
  have HL := Lib.hid hL
  have hL1 : 1 ≤ L ∧ L < 901 := by omega
  have hL2 : (((L : Nat) : Int) == 0) = false := by simp; omega
  have hL3 : (0 : Int) < (L : Int) := by omega
  have hL4 : 0 < L := by omega
  clear hr hnm hF htl ha hnew hst hend hfk hg htab hzz hL
  go_enter Tryz.func18, Tryz.ntmps18
  go_wp2_with fail
  go_region_held3 (fun w' => w'.cell? ⟨g, 0, none⟩ = some (.string mainName)) (first | exact k0 | assumption)
    (first
      | (go_at_call 26; refine (Htab.out _).mono ?_; rintro e w1 ⟨fb, rfl, hfm, hfb, hbel⟩; have hd0 : w1.cell? ⟨g, 0, none⟩ = some (.string mainName) := (hbel.cell (p := ⟨g, 0, none⟩) hgl).trans k0; have HBel : Hid (Below w.heap.size w w1) := Lib.hid ⟨hbel.os, hbel.tape, hbel.output, hbel.size, hbel.block⟩; have HFM : Hid (SMap w1 fb L (tabV ((mainBs, mkS text) :: l))) := Lib.hid (HL.out ▸ hfm); clear hfm hfb hbel)
      | (go_at_call 25; refine (Hzz.out _ _ HBel.out HFM.out).mono ?_; rintro e w2 ⟨za, zn, zc, ⟨zpb, zpo, zpf⟩, rfl, hzn, hz, hb2⟩; have HZ := Lib.hid hz; have HB2 : Hid (Below w.heap.size w w2) := Lib.hid (HBel.out.trans (hb2.mono HBel.out.size)); have HZN := Lib.hid hzn; have hd2 : w2.cell? ⟨g, 0, none⟩ = some (.string mainName) := (HB2.out.cell (p := ⟨g, 0, none⟩) hgl).trans k0; clear hz hb2 hzn))
  clear Htab Hzz HFM HBel k0 hd0 hd2
  have hst : ELoop fl w2 zn (.int .i64 0) (.slice (some ⟨w2.heap.size, 0, none⟩) 0 0) (w2.alloc (.cells #[] 54)) :=
    ⟨0, _, _, rfl, rfl, ⟨rfl, .inr ⟨w2.heap.size, 0, _, rfl, Nat.le_refl _, heap_alloc_new w2 _, Nat.le_refl _, by unfold maxLen; omega, rfl, rfl⟩⟩, by have := HZN.out; omega, (Below.refl _ _).alloc (Nat.le_refl _) _⟩
  have Hst := Lib.hid hst
  clear hst
  have hzn5 : zn < 100000 := by have := HZN.out; omega
  go_wp2
  generalize hw3 : w2.alloc (.cells #[] 54) = w3
  rw [hw3] at Hst
  clear hw3
  obtain ⟨i0, hi, hz0, hz1, hz2⟩ := info_parts infoFd
  go_loopg [31, 10] zn (fun n v31 v10 wr => ELoop fl w2 n v31 v10 wr)
  case atStart => exact Hst.out
  case round =>
    clear Hst
    obtain ⟨i, gg, cc, rfl, rfl, hrow, hin, hbr⟩ := hrel
    have hzn := HZN.out
    rcases Nat.lt_or_ge i zn with hlt | hge
    · obtain ⟨t, ht⟩ : ∃ t, fl[i]? = some t := ⟨fl[i]'(by omega), List.getElem?_eq_getElem _⟩
      obtain ⟨gt, rfl⟩ : ∃ gt, za = some ⟨gt, 0, none⟩ := by
        obtain ⟨_, ⟨e, e0⟩ | ⟨g, cap, cur, e, _⟩⟩ := HZ.out
        · omega
        · cases e; exact ⟨g, rfl⟩
      have hgt : gt < w2.heap.size := (ownBlock_row HZ.out gt rfl).2.lt
      have hcap : zn ≤ zc := by
        obtain ⟨_, ⟨e, e0⟩ | ⟨g, cap, cur, e, _, _, h3, _⟩⟩ := HZ.out
        · cases e
        · cases e; exact h3
      obtain ⟨q0, q1, q2, q3⟩ := cellsZ_get fl i t ht
      have k0 := HZ.out.cells (g := gt) rfl (4 * i) _ q0
      have k1 := HZ.out.cells (g := gt) rfl (4 * i + 1) _ q1
      have k2 := HZ.out.cells (g := gt) rfl (4 * i + 2) _ q2
      have k3 := HZ.out.cells (g := gt) rfl (4 * i + 3) _ q3
      rw [Addr.add_lit, Nat.zero_add, Nat.mul_comm, ← hbr.cell (p := ⟨gt, i * 4, none⟩) hgt] at k0
      rw [Addr.add_lit, Nat.zero_add, Nat.mul_comm, ← hbr.cell (p := ⟨gt, i * 4 + 1, none⟩) hgt] at k1
      rw [Addr.add_lit, Nat.zero_add, Nat.mul_comm, ← hbr.cell (p := ⟨gt, i * 4 + 2, none⟩) hgt] at k2
      rw [Addr.add_lit, Nat.zero_add, Nat.mul_comm, ← hbr.cell (p := ⟨gt, i * 4 + 3, none⟩) hgt] at k3
      have hkb := Hfk.out t (List.mem_of_getElem? ht)
      have e1 : IntKind.i64.wrap t.k = t.k := IntWalk.i64_in _ (by omega)
      have hlt2 : (i : Int) < (zn : Int) := by omega
      have Hrow := Lib.hid hrow
      have Hbr := Lib.hid hbr
      have Hin := Lib.hid hin
      have Ht := Lib.hid ht
      have hi1 : i < 100000 := by omega
      clear hrow hbr hin ht q0 q1 q2 q3 hkb hzn
      go_wp2_with (at_builtin; refine wpList_append_own _ rfl _ _ 34 rfl w2.heap.size 54 i0 (.agg #[.int .i64 0, .string ⟨#[]⟩, .string ⟨#[]⟩, .int .i64 0]) 4 48 Tryz.underlying34 hi hz0 hz1 hz2 rfl (by decide) _ _ _ rfl ((Hrow.out.alloc _).alloc _) ⟨wr.heap.size + 1, 0, none⟩ 1 1 [.int .i64 t.k, .string (mkS t.x), .string t.nm, .int .i64 (t.line : Nat)] rfl rfl ?c1 ?c2 ?c3 ?c4 ?c5 ?_)
      case c1 =>
        have h1 := cellFour (wr.alloc (.cells #[.int .i32 t.k, .string (mkS t.x), .string t.nm, .int .i64 (t.line : Nat)] 52)) (.int .i64 t.k) (.string (mkS t.x)) (.string t.nm) (.int .i64 (t.line : Nat)) 54
        rw [show (wr.alloc (.cells #[.int .i32 t.k, .string (mkS t.x), .string t.nm, .int .i64 (t.line : Nat)] 52)).heap.size = wr.heap.size + 1 by simp] at h1
        exact h1
      case c2 => intro u hu; simp at hu; rcases hu with rfl | rfl | rfl | rfl <;> rfl
      case c3 => unfold maxLen; omega
      case c4 => omega
      case c5 => have := Hbr.out.size; simp; omega
      intro v' w5 hown5 hgrow _
      obtain ⟨g9, c9, rfl⟩ : ∃ g9 c9, v' = .slice (some ⟨g9, 0, none⟩) (i + 1) c9 := by
        obtain ⟨_, ⟨_, h0⟩ | ⟨g, cap, cur, e, _⟩⟩ := hown5
        · omega
        · exact ⟨g, cap, e⟩
      have hrel : ELoop fl w2 (gk - 1) (.int .i64 ((i + 1 : Nat) : Int)) (.slice (some ⟨g9, 0, none⟩) (i + 1 : Nat) c9) w5 := by
        have hb1 : Below w2.heap.size w2 ((wr.alloc (.cells #[.int .i32 t.k, .string (mkS t.x), .string t.nm, .int .i64 (t.line : Nat)] 52)).alloc (.cells #[.int .i64 t.k, .string (mkS t.x), .string t.nm, .int .i64 (t.line : Nat)] 54)) := (Hbr.out.alloc Hbr.out.size _).alloc (by have := Hbr.out.size; simp; omega) _
        have hgg := (ownBlock_row Hrow.out gg rfl).1
        have e2 : fl.take (i + 1) = fl.take i ++ [t] := by rw [List.take_add_one, Ht.out]; rfl
        refine ⟨i + 1, g9, c9, rfl, rfl, by rw [e2, cellsE_snoc]; exact hown5, by have := Hin.out; have := HZN.out; omega, hb1.trans ⟨hgrow.os, hgrow.tape, hgrow.output, hgrow.size, fun k hk => hgrow.block k (by have := hb1.size; omega) (fun e => by simp [Value.ownBlock] at e; omega)⟩⟩
      have Hrel := Lib.hid hrel
      have hgk : gk - 1 < gk := by have := Hin.out; have := HZN.out; omega
      have e3 : IntKind.i64.wrap ((i : Int) + 1) = (i : Int) + 1 := IntWalk.i64_in _ (by omega)
      clear hrel hown5 hgrow
      go_wp2
      go_roundg (gk - 1)
      case measure => exact hgk
      case rel => exact Hrel.out
    · have e : i = zn := by omega
      have hlt2 : ¬ (i : Int) < (zn : Int) := by omega
      have hfin : ExD fl w (.returned (.tuple #[.slice (some ⟨gg, 0, none⟩) i cc, .bool false])) wr := by
        exact ⟨_, i, _, rfl, by omega, HB2.out.trans (hbr.mono HB2.out.size)⟩
      have Hfin := Lib.hid hfin
      clear hrow hbr hin hfin e hge
      go_wp2
      go_ret2
      exact Hfin.out
end
end Go.Proofs.YtpoimmpdncickaaGreatDoor

/- What is told of a condition with both its parts; plain lists. -/
namespace Go.Proofs.YtpoimmpdncickaaGreatDoor
open Go Go.RowKit Lex Go.Proofs.YtpoimmpdncickaaGreatDoorW.PrintWords Go.Proofs.YtpoimmpdncickaaGreatDoor.PHelp
set_option linter.unusedVariables false
set_option linter.unusedSimpArgs false

/-- The file. -/
def ifF (t : Bool) (name : Bs) (one two after : List Bs) : Bs := dirN (if t then kwIfdef else kwIfndef) name (textB one ++ 10 :: dirB kwElse (textB two ++ 10 :: dirB kwEndif (textB after ++ 10 :: [])))

section
variable {y : Wy} {nm : ByteArray} {mac : Bs → Option Mc} {mn : Nat} {R : List (Int × Bs)}
/-- A part that is read, and its line's end. -/
theorem part_read {ws : List Bs} {ifs : List Bool} (hw : ∀ w ∈ ws, WordL w ∧ mac w = none) (hi : ifs.length < 1000) (ho : onB ifs = true) {s : Sg} (h : At s nm [] (ws.map tokW ++ (10, [10]) :: R) mac ifs mn) :
    ∃ l s1, StT y l s s1 ∧ l.map Fd.kx = ws.map tokW ++ [(10, [10])] ∧ At s1 nm [] R mac ifs mn ∧ s1.bol = true := by
  obtain ⟨l1, s1, a1, a2, a3, _⟩ := st_ws (y := y) (by simp) hi ho ws s hw h
  obtain ⟨l2, s2, b1, b2, b3, b4, _⟩ := st_nl (y := y) a3 (by simp) hi ho
  exact ⟨l1 ++ l2, s2, a1.app b1, by rw [List.map_append, a2, b2], b3, b4⟩
/-- A part that is not read, up to the next directive. -/
theorem part_off {ws : List Bs} {ifs : List Bool} (hw : ∀ w ∈ ws, WordL w ∧ mac w = none) (hi : ifs.length < 1000) (ho : onB ifs = false) {s : Sg} (h : At s nm [] (ws.map tokW ++ (10, [10]) :: R) mac ifs mn) :
    ∃ s1 n, At s1 nm [] R mac ifs mn ∧ s1.bol = true ∧ ∀ k s', Nx y 0 0 s1 k s' → Nx y 0 n s k s' := by
  obtain ⟨s3, e1, e2, _, e4⟩ := nx_skips (y := y) (nm := nm) (rest := []) (R := R) (mac := mac) (ifs := ifs) (mn := mn) (by simp) hi ho _ s (skip_words (ws := ws) (fun w hx => ⟨(hw w hx).1, fun _ => (hw w hx).2⟩)) (by simpa using h)
  refine ⟨s3, _, e1, ?_, fun k s' => e4 0 0 k s'⟩
  have := e2 (10, [10]) (by simp [List.getLast?_append])
  simpa using this
end

theorem if_told (y : Wy) (hy : y.bl = true) {mac0 : Bs → Option Mc} {mn0 : Nat} (t : Bool) {one two after : List Bs} {name : Bs} (hn : PName name) (hnl : name.length ≤ 60) (h1 : ∀ w ∈ one, WordL w ∧ mac0 w = none) (h2 : ∀ w ∈ two, WordL w ∧ mac0 w = none) (h3 : ∀ w ∈ after, WordL w ∧ mac0 w = none) (l1 : one.length ≤ 20) (l2 : two.length ≤ 20) (l3 : after.length ≤ 20) :
    ∃ T l s' mac mn, TL (ifF t name one two after) 1 1 T ∧ StT y l ⟨[tzAb mainName T], mn0, mac0, [], true, []⟩ s' ∧ At s' mainName [] [] mac [] mn ∧ shown (l.map Fd.kx) = (if (mac0 name).isSome == t then one else two) ++ after ∧ l.length ≤ 1000 ∧ ∀ f ∈ l, -1000000 ≤ f.k ∧ f.k < 1000000 := by
  have hk : PName (if t then kwIfdef else kwIfndef) := by cases t; exact pn_ifndef; exact pn_ifdef
  have hkl : (if t then kwIfdef else kwIfndef).length ≤ 60 := by cases t <;> decide
  have q3 : Pc (dirB kwEndif (textB after ++ 10 :: [])) _ := pc_dirB pn_endif (by decide) (tail := textB after ++ 10 :: []) (by simpa using pc_line (fun w hw => (h3 w hw).1) .nil [] (by intro b h; cases h))
  have q2 : Pc (dirB kwElse (textB two ++ 10 :: dirB kwEndif (textB after ++ 10 :: []))) _ := pc_dirB pn_else (by decide) (by simpa using pc_line (fun w hw => (h2 w hw).1) q3 [] (by intro b h; cases h))
  have hpc := pc_dirN hk hkl hn hnl (tail := textB one ++ 10 :: dirB kwElse (textB two ++ 10 :: dirB kwEndif (textB after ++ 10 :: []))) (by simpa using pc_line (fun w hw => (h1 w hw).1) q2 [] (by intro b h; cases h))
  obtain ⟨T, g1, g2⟩ := hpc.tl 1 1
  have hat : At ⟨[tzAb mainName T], mn0, mac0, [], true, []⟩ mainName [] _ mac0 [] mn0 := ⟨[], tzAb mainName T, rfl, by simp, by simp, rfl, rfl, g2, rfl, rfl, rfl⟩
  obtain ⟨s1, a1, a2, a3⟩ := nx_ifdef (y := y) (t := t) hat rfl hy (by simp) (by simp) rfl hnl
  obtain ⟨q1, b1, b2, _⟩ := HashTo.st (m := 0) a1.1 a1.2.1 a1.2.2 (by simp)
  rw [List.nil_append] at a2
  have hsa : shown (after.map tokW) = after := shown_words (fun w hw => (h3 w hw).1)
  cases hb : ((mac0 name).isSome == t) with
  | true =>
    rw [hb] at a2
    obtain ⟨q2, s2, c1, c2, c3, c4⟩ := part_read (y := y) h1 (by simp) rfl a2
    obtain ⟨s3, d1, d2, d3⟩ := nx_else (y := y) c3 c4 hy (by simp)
    obtain ⟨q3, e1, e2, _⟩ := HashTo.st (m := 0) d1.1 d1.2.1 d1.2.2 (by simp)
    obtain ⟨s4, n4, f1, f2, f3⟩ := part_off (y := y) h2 (by simp) rfl d2
    obtain ⟨s5, i1, i2, i3⟩ := nx_endif (y := y) f1 f2 hy (by simp)
    obtain ⟨q4, j1, j2, _⟩ := HashTo.st (f3 35 s5 i1.1) i1.2.1 i1.2.2 (by simp)
    obtain ⟨q5, s6, k1, k2, k3, _⟩ := part_read (y := y) (R := []) h3 (by simp) rfl i2
    have hs := b1.app (c1.app (e1.app (j1.app k1)))
    have hso : shown (one.map tokW) = one := shown_words (fun w hw => (h1 w hw).1)
    refine ⟨T, _, s6, _, _, g1, hs, k3, ?_, ?_, hs.kinds⟩
    · rw [List.map_append, List.map_append, List.map_append, List.map_append, b2, c2, e2, j2, k2]
      simp only [shown_app, hso, hsa]
      simp [shown, isShown]
    · have m1 := congrArg List.length b2
      have m2 := congrArg List.length c2
      have m3 := congrArg List.length e2
      have m4 := congrArg List.length j2
      have m5 := congrArg List.length k2
      simp at m1 m2 m3 m4 m5
      simp only [List.length_append]
      omega
  | false =>
    rw [hb] at a2
    obtain ⟨s4, n4, f1, f2, f3⟩ := part_off (y := y) h1 (by simp) rfl a2
    obtain ⟨s3, d1, d2, d3⟩ := nx_else (y := y) f1 f2 hy (by simp)
    obtain ⟨q3, e1, e2, _⟩ := HashTo.st (f3 35 s3 d1.1) d1.2.1 d1.2.2 (by simp)
    obtain ⟨q2, s2, c1, c2, c3, c4⟩ := part_read (y := y) h2 (by simp) rfl d2
    obtain ⟨s5, i1, i2, i3⟩ := nx_endif (y := y) c3 c4 hy (by simp)
    obtain ⟨q4, j1, j2, _⟩ := HashTo.st (m := 0) i1.1 i1.2.1 i1.2.2 (by simp)
    obtain ⟨q5, s6, k1, k2, k3, _⟩ := part_read (y := y) (R := []) h3 (by simp) rfl i2
    have hs := b1.app (e1.app (c1.app (j1.app k1)))
    have hso : shown (two.map tokW) = two := shown_words (fun w hw => (h2 w hw).1)
    refine ⟨T, _, s6, _, _, g1, hs, k3, ?_, ?_, hs.kinds⟩
    · rw [List.map_append, List.map_append, List.map_append, List.map_append, b2, e2, c2, j2, k2]
      simp only [shown_app, hso, hsa]
      simp [shown, isShown]
    · have m1 := congrArg List.length b2
      have m2 := congrArg List.length c2
      have m3 := congrArg List.length e2
      have m4 := congrArg List.length j2
      have m5 := congrArg List.length k2
      simp at m1 m2 m3 m4 m5
      simp only [List.length_append]
      omega
section
variable {B ib : Nat} {C : Cfg} {ev : Value} {s : Sg} {nm : ByteArray} {rest : List Ab} {R : List (Int × Bs)} {mac : Bs → Option Mc} {ifs : List Bool} {mn : Nat}

/-- A part that is not read is passed by. -/
theorem die_skips (hrl : rest.length ≤ 90) (hi : ifs.length < 1000) (ho : onB ifs = false) :
    ∀ (Q : List (Int × Bs)) (s : Sg), (∀ q ∈ Q, q.1 ≠ 35 ∧ q.1 ≠ -1 ∧ q.1 ≠ 0 ∧ q.2.length ≤ 1000 ∧ (q.1 = -2 → mac q.2 = none)) → At s nm rest (Q ++ R) mac ifs mn →
      ∃ s2, At s2 nm rest R mac ifs mn ∧ (∀ n, NxD B ib C ev n s2 → NxD B ib C ev (n + Q.length) s) := by
  intro Q
  induction Q with
  | nil => exact fun s _ h => ⟨s, h, fun _ h => h⟩
  | cons q Q ih =>
    intro s hq h
    obtain ⟨g1, g2, g3, g4, g5⟩ := hq q (by simp)
    obtain ⟨dead, a, q1, q2, q3, q4, q5, q6, q7, q8, q9⟩ := h
    rw [List.cons_append] at q6
    obtain ⟨t, T', hT, hk, hx, hrest⟩ := kx_cons q6
    obtain ⟨s2, b1, b4⟩ := ih { s with ab := { a with cur := t, ts := T' } :: rest, bol := t.k == 10 } (fun x hx => hq x (by simp [hx])) ⟨[], { a with cur := t, ts := T' }, rfl, (by simp; omega), by simp, q4, q5, hrest, q7, q8, q9⟩
    refine ⟨s2, b1, fun n hn => ?_⟩
    have := b4 n hn
    rw [List.length_cons, show n + (Q.length + 1) = n + Q.length + 1 by omega]
    exact .skip (dead := dead) (a := a) (rest := rest) (t := t) (ts := T') q1 q3 hT (by simp; omega) (by rw [hk]; exact g1) (by rw [hk]; exact g2) (by rw [hk]; exact g3) (by rw [hx]; exact g4) (fun e => by rw [q7, hx]; exact g5 (by rw [← hk]; exact e)) (by rw [q8]; exact hi) (by rw [q8]; exact ho) this

/-- A condition stays open. -/
theorem die_eof (h : At s nm [] [] mac ifs mn) (hi : ifs ≠ []) (hil : ifs.length < 1000) : NxD B ib C ev 0 s := by
  obtain ⟨dead, a, q1, q2, q3, q4, q5, q6, q7, q8, q9⟩ := h
  exact .eof q1 q3 (kx_nil q6) q4 (by rw [q8]; exact hi) (by rw [q8]; exact hil) (by simp; omega)

/-- The sign of a directive that does not begin its line. -/
theorem die_place (h : At s nm rest ((35, [35]) :: R) mac ifs mn) (hbol : s.bol = false) : NxD B ib C ev 0 s := by
  obtain ⟨dead, a, q1, q2, q3, q4, q5, q6, q7, q8, q9⟩ := h
  obtain ⟨t, T', hT, hk, hx, hrest⟩ := kx_cons q6
  exact .place q1 q3 hT (by simp; omega) hk hbol

theorem die_hash (h : At s nm rest ((35, [35]) :: R) mac ifs mn) (hbol : s.bol = true) (hh : ∀ s1 : Sg, (∃ a, s1.ab = a :: rest ∧ rest.length ≤ 92 ∧ a.istz = true ∧ a.nm = nm ∧ a.ts.map Tok.kx = R) → s1.mac = mac → s1.ifs = ifs → HsD B ib C ev s1) : NxD B ib C ev 0 s := by
  obtain ⟨dead, a, q1, q2, q3, q4, q5, q6, q7, q8, q9⟩ := h
  obtain ⟨t, T', hT, hk, hx, hrest⟩ := kx_cons q6
  exact .hash q1 q3 hT (by simp; omega) hk hbol (hh _ ⟨{ a with cur := t, ts := T' }, rfl, by omega, q4, q5, hrest⟩ q7 q8)

/-- The end of a condition that is not open. -/
theorem die_endif (h : At s nm rest ((35, [35]) :: (-2, kwEndif) :: (10, [10]) :: R) mac [] mn) (hbol : s.bol = true) (hB : 21 ≤ B) : NxD B ib C ev 0 s :=
  die_hash h hbol (fun s1 ⟨a, h1, h0, h2, h3, h4⟩ hm hi w hH hg => by
    obtain ⟨L, hL, hI⟩ := hH
    obtain ⟨kt, T2, e2, hkk, hkx, h5⟩ := kx_cons h4
    obtain ⟨nl, T3, e3, hnk, hnx, h6⟩ := kx_cons h5
    subst e3
    rw [h1, hi] at hI
    exact hash_endif_die (C := { C with lim := L }) (dead := []) hI rfl (by simp) (by simp) e2 hkk hkx hL hg hB (by simp; omega) (fun w1 k1 k2 k3 => endif_die k1 rfl hnk k3 hB (by simp; omega)))

/-- The other part of a condition that is not open. -/
theorem die_else (h : At s nm rest ((35, [35]) :: (-2, kwElse) :: (10, [10]) :: R) mac [] mn) (hbol : s.bol = true) (hB : 21 ≤ B) : NxD B ib C ev 0 s :=
  die_hash h hbol (fun s1 ⟨a, h1, h0, h2, h3, h4⟩ hm hi w hH hg => by
    obtain ⟨L, hL, hI⟩ := hH
    obtain ⟨kt, T2, e2, hkk, hkx, h5⟩ := kx_cons h4
    obtain ⟨nl, T3, e3, hnk, hnx, h6⟩ := kx_cons h5
    subst e3
    rw [h1, hi] at hI
    exact hash_else_die (C := { C with lim := L }) (dead := []) hI rfl (by simp) (by simp) e2 hkk hkx hL hg hB (by simp; omega) (fun w1 k1 k2 k3 => else_die k1 rfl hnk k3 hB (by simp; omega)))

/-- A macro that is there is made once more. -/
theorem die_define {name : Bs} {body : List Bs} {m : Mc} (h : At s nm [] ((35, [35]) :: (-2, kwDefine) :: (-2, name) :: (body.map tokW ++ (10, [10]) :: R)) mac [] mn) (hbol : s.bol = true) (hB : 21 ≤ B)
    (hnl : name.length ≤ 60) (hb : ∀ w ∈ body, WordL w) (hb0 : body ≠ []) (hbh : body.head? ≠ some [40]) (hb20 : body.length ≤ 20) (hmac : mac name = some m) : NxD B ib C ev 0 s :=
  die_hash h hbol (fun s1 ⟨a, h1, h0, h2, h3, h4⟩ hm hi w hH hg => by
    obtain ⟨L, hL, hI⟩ := hH
    obtain ⟨kt, T2, e2, hkk, hkx, h5⟩ := kx_cons h4
    obtain ⟨nt, T3, e3, hnk, hnx, h6⟩ := kx_cons h5
    subst e3
    obtain ⟨b0, br, hbe⟩ : ∃ b0 br, body = b0 :: br := by
      cases hc : body with
      | nil => exact absurd hc hb0
      | cons b0 br => exact ⟨b0, br, rfl⟩
    rw [hbe, List.map_cons, List.cons_append] at h6
    obtain ⟨t0, T4, e4, h0k, h0x, h7⟩ := kx_cons h6
    obtain ⟨Bt, T5, e5, hBt, h8⟩ := List.map_eq_append_iff.1 h7
    obtain ⟨nl, T6, e6, hnlk, hnlx, h9⟩ := kx_cons h8
    subst e6 e5 e4
    have hbody : (t0 :: Bt).map Tok.kx = body.map tokW := by
      rw [hbe, List.map_cons, List.map_cons, hBt]
      congr 1
      show (t0.k, t0.x) = _
      rw [h0k, h0x]
    have hnx' : nt.x = name := hnx
    have hb0k := (hb b0 (by rw [hbe]; simp)).kind
    have hok := fun q (hq : q ∈ t0 :: Bt) => tok_words hb hbody q hq
    have hok2 : ∀ q ∈ t0 :: Bt, okTok q ∧ q.k ≠ 10 ∧ q.k ≠ 92 ∧ q.k ≠ -1 ∧ q.k ≠ 0 := fun q hq => by
      have hm : Tok.kx q ∈ body.map tokW := hbody ▸ List.mem_map_of_mem hq
      obtain ⟨w, hwm, e⟩ := List.mem_map.1 hm
      have hkd := (hb w hwm).kind
      have e1 : q.k = kindW w := by have := congrArg Prod.fst e; exact this.symm
      obtain ⟨o1, o2, o3⟩ := hok q hq
      exact ⟨o1, by rw [e1]; exact hkd.2.2.1, by rw [e1]; exact hkd.2.2.2.2.1, o2, o3⟩
    rw [h1, hi] at hI
    have hBl : Bt.length ≤ 1000 := by have := congrArg List.length hBt; simp at this; rw [hbe] at hb20; simp at hb20; omega
    refine hash_define_die (C := { C with lim := L }) (dead := []) hI rfl (by simp) (by simp) e2 hkk hkx hL hg hB (by simp) (fun w1 k1 k2 k3 => ?_)
    exact define_die (dead := []) (t0 := t0) (body := Bt) (nl := nl) (ts := T6) (m := m) k1 (by simp) (fun q hq => by simp at hq; rw [hq]; exact h2) rfl hnk (by rw [hnx']; omega) (by rw [hm, hnx']; exact hmac)
      (fun e => hbh (by rw [hbe]; have := hb0k.2.2.2.2.2.2.2.2 (by rw [← e]; exact h0k.symm); rw [this]; rfl)) hok2 hnlk hBl k2 k3 hB (by simp))

/-- Words that are no macros: behind the last one no line begins. -/
theorem st_ws_last {y : Wy} (hr : rest.length ≤ 90) (hi : ifs.length < 1000) (ho : onB ifs = true) {ws : List Bs} (hne : ws ≠ []) (hw : ∀ w ∈ ws, WordL w ∧ mac w = none) (h : At s nm rest (ws.map tokW ++ R) mac ifs mn) :
    ∃ l s1, StT y l s s1 ∧ l.map Fd.kx = ws.map tokW ∧ At s1 nm rest R mac ifs mn ∧ s1.bol = false := by
  obtain ⟨init, x, rfl⟩ : ∃ init x, ws = init ++ [x] := ⟨ws.dropLast, ws.getLast hne, (List.dropLast_concat_getLast hne).symm⟩
  rw [List.map_append, List.append_assoc] at h
  obtain ⟨l1, s1, a1, a2, a3, _⟩ := st_ws (y := y) hr hi ho init s (fun w hx => hw w (by simp [hx])) h
  have hx := hw x (by simp)
  have hkd := hx.1.kind
  have hlen := hx.1.len
  obtain ⟨l2, s2, b1, b2, b3, b4, _⟩ := st_tok (y := y) (k := kindW x) (x := x) (R := R) a3 hr hkd.2.2.2.1 hkd.1 hkd.2.1 hkd.2.2.2.2.2.1 hkd.2.2.2.2.2.2.1 (by omega) (fun _ => hx.2) hi ho
  refine ⟨l1 ++ l2, s2, a1.app b1, by rw [List.map_append, a2, b2, List.map_append]; rfl, b3, ?_⟩
  rw [b4]
  simp [hkd.2.2.1]
end

/-- What is told of a file that dies. -/
def DieT (y : Wy) (text : Bs) : Prop := ∃ T l s', TL text 1 1 T ∧ StT y l ⟨[tzAb mainName T], 0, fun _ => none, [], true, []⟩ s' ∧ (∀ B ib C ev, 21 ≤ B → C.F = y.F → C.inc = y.inc → ∃ n, NxD B ib C ev n s') ∧ l.length ≤ 1000 ∧ ∀ f ∈ l, -1000000 ≤ f.k ∧ f.k < 1000000

/-- A macro is made twice. -/
def twiceF (name : Bs) (one two : List Bs) : Bs := defB name one (defB name two [])
theorem twice_told (y : Wy) {one two : List Bs} {name : Bs} (hn : PName name) (hnl : name.length ≤ 60) (h1 : ∀ w ∈ one, WordL w) (h2 : ∀ w ∈ two, WordL w) (h10 : one ≠ []) (h20 : two ≠ []) (h1h : one.head? ≠ some [40]) (h2h : two.head? ≠ some [40]) (l1 : one.length ≤ 20) (l2 : two.length ≤ 20) : DieT y (twiceF name one two) := by
  have hpc := pc_def hn hnl h1 (tail := defB name two []) (by simpa using pc_def hn hnl h2 (tail := []) .nil [] (by intro b h; cases h)) [] (by intro b h; cases h)
  obtain ⟨T, g1, g2⟩ := hpc.tl 1 1
  have hat := at_start (nm := mainName) g2
  obtain ⟨q1, s1, a1, a2, a3, a4, _⟩ := st_def (y := y) hat rfl (by simp) (by simp) (by simp) rfl (by decide) hnl h1 h10 h1h l1 rfl
  refine ⟨T, q1, s1, g1, a1, fun B ib C ev hB _ _ => ⟨0, die_define a3 a4 hB hnl h2 h20 h2h l2 (m := ⟨none, one.map tokW⟩) (by simp)⟩, ?_, a1.kinds⟩
  have := congrArg List.length a2
  simp at this
  omega

/-- Words, then the sign of a directive. -/
def placeF (ws : List Bs) : Bs := textB ws ++ (35 :: (kwDefine ++ 32 :: 95 :: 120 :: 32 :: 49 :: 10 :: []))
theorem place_told (y : Wy) {ws : List Bs} (hw : ∀ w ∈ ws, WordL w) (hne : ws ≠ []) (hl : ws.length ≤ 20) : DieT y (placeF ws) := by
  have hb : blanks [] := by intro b h; cases h
  have p1 : Pc ([32] ++ ([49] ++ 10 :: [])) _ := .cons (word_next one_word.wd one_word.nnl one_word.nm one_word.len blanks_one (.inr (.inl rfl)) []) one_word.kind.1 (by simpa using pc_nl (p := []) hb .nil)
  have hx : PName ([95, 120] : Bs) := ⟨95, [120], by decide, by decide, by decide⟩
  have hk : PName kwDefine := ⟨100, [101, 102, 105, 110, 101], by decide, by decide, by decide⟩
  have p2 : Pc ([32] ++ ([95, 120] ++ 32 :: (49 :: 10 :: []))) _ := pc_name hx (by decide) blanks_one p1
  have p3 : Pc ([] ++ (kwDefine ++ 32 :: (95 :: 120 :: 32 :: 49 :: 10 :: []))) _ := pc_name hk (by decide) hb p2
  have hpc := pc_words hw (tail := 35 :: (kwDefine ++ 32 :: 95 :: 120 :: 32 :: 49 :: 10 :: [])) (fun p hp => .cons (z := p ++ [35]) (.one (ws := p) (k := ((35 : UInt8).toNat : Int)) (x := [35]) (r' := kwDefine ++ 32 :: 95 :: 120 :: 32 :: 49 :: 10 :: []) hp (.char (by decide)) (by decide) (by simp) (by intro d n e; cases e)) (by decide) p3) [] hb
  obtain ⟨T, g1, g2⟩ := hpc.tl 1 1
  have hat := at_start (nm := mainName) g2
  obtain ⟨q1, s1, a1, a2, a3, a4⟩ := st_ws_last (y := y) (by simp) (by simp) rfl hne (fun w hx => ⟨hw w hx, rfl⟩) hat
  refine ⟨T, q1, s1, g1, a1, fun B ib C ev hB _ _ => ⟨0, die_place a3 a4⟩, ?_, a1.kinds⟩
  have := congrArg List.length a2
  simp at this
  omega

/-- Words, a line that ends a condition or begins its other part, words. -/
def endF (kw : Bs) (before after : List Bs) : Bs := textB before ++ 10 :: dirB kw (textB after ++ 10 :: [])
theorem end_told (y : Wy) (e : Bool) {before after : List Bs} (hb : ∀ w ∈ before, WordL w) (ha : ∀ w ∈ after, WordL w) (lb : before.length ≤ 20) : DieT y (endF (if e then kwEndif else kwElse) before after) := by
  have hk : PName (if e then kwEndif else kwElse) := by cases e; exact pn_else; exact pn_endif
  have hkl : (if e then kwEndif else kwElse).length ≤ 60 := by cases e <;> decide
  have r2 := pc_dirB hk hkl (tail := textB after ++ 10 :: []) (by simpa using pc_line ha .nil [] (by intro b h; cases h))
  have hpc := pc_line hb r2 [] (by intro b h; cases h)
  obtain ⟨T, g1, g2⟩ := hpc.tl 1 1
  have hat := at_start (nm := mainName) g2
  obtain ⟨q1, s1, a1, a2, a3, a4⟩ := part_read (y := y) (fun w hx => ⟨hb w hx, rfl⟩) (by simp) rfl hat
  refine ⟨T, q1, s1, g1, a1, fun B ib C ev hB _ _ => ⟨0, ?_⟩, ?_, a1.kinds⟩
  · cases e
    · exact die_else a3 a4 hB
    · exact die_endif a3 a4 hB
  · have := congrArg List.length a2
    simp at this
    omega

/-- Words, a line that opens a condition, words: it stays open. -/
def openF (t : Bool) (name : Bs) (before after : List Bs) : Bs := textB before ++ 10 :: dirN (if t then kwIfdef else kwIfndef) name (textB after ++ 10 :: [])
theorem open_told (y : Wy) (hy : y.bl = true) (t : Bool) {before after : List Bs} {name : Bs} (hn : PName name) (hnl : name.length ≤ 60) (hb : ∀ w ∈ before, WordL w) (ha : ∀ w ∈ after, WordL w) (lb : before.length ≤ 20) (la : after.length ≤ 20) : DieT y (openF t name before after) := by
  have hk : PName (if t then kwIfdef else kwIfndef) := by cases t; exact pn_ifndef; exact pn_ifdef
  have hkl : (if t then kwIfdef else kwIfndef).length ≤ 60 := by cases t <;> decide
  have r2 := pc_dirN hk hkl hn hnl (tail := textB after ++ 10 :: []) (by simpa using pc_line ha .nil [] (by intro b h; cases h))
  have hpc := pc_line hb r2 [] (by intro b h; cases h)
  obtain ⟨T, g1, g2⟩ := hpc.tl 1 1
  have hat := at_start (nm := mainName) g2
  obtain ⟨q1, s1, a1, a2, a3, a4⟩ := part_read (y := y) (fun w hx => ⟨hb w hx, rfl⟩) (by simp) rfl hat
  obtain ⟨s2, b1, b2, b3⟩ := nx_ifdef (y := y) (t := t) a3 a4 hy (by simp) (by simp) rfl hnl
  obtain ⟨q2, c1, c2, _⟩ := HashTo.st (m := 0) b1.1 b1.2.1 b1.2.2 (by simp)
  rw [List.nil_append] at b2
  have m1 := congrArg List.length a2
  have m2 := congrArg List.length c2
  simp at m1 m2
  cases t with
  | true =>
    have hlen : (q1 ++ q2).length ≤ 1000 := by rw [List.length_append]; omega
    refine ⟨T, q1 ++ q2, s2, g1, a1.app c1, fun B ib C ev hB _ _ => ?_, hlen, (a1.app c1).kinds⟩
    obtain ⟨s3, d1, d2⟩ := die_skips (B := B) (ib := ib) (C := C) (ev := ev) (nm := mainName) (rest := []) (R := []) (mac := fun _ => none) (mn := 0) (ifs := [false]) (by simp) (by simp) rfl _ s2 (skip_words (ws := after) (fun w hx => ⟨ha w hx, fun _ => rfl⟩)) (by simpa using b2)
    exact ⟨_, d2 0 (die_eof d1 (by simp) (by simp))⟩
  | false =>
    obtain ⟨q3, s3, d1, d2, d3, _⟩ := part_read (y := y) (R := []) (fun w hx => ⟨ha w hx, rfl⟩) (by simp) rfl b2
    have m3 := congrArg List.length d2
    simp at m3
    have hlen : (q1 ++ (q2 ++ q3)).length ≤ 1000 := by rw [List.length_append, List.length_append]; omega
    exact ⟨T, q1 ++ (q2 ++ q3), s3, g1, a1.app (c1.app d1), fun B ib C ev hB _ _ => ⟨0, die_eof d3 (by simp) (by simp)⟩, hlen, (a1.app (c1.app d1)).kinds⟩

/-- .. with its other part. -/
def openEF (name : Bs) (before after : List Bs) : Bs := textB before ++ 10 :: dirN kwIfdef name (dirB kwElse (textB after ++ 10 :: []))
theorem openE_told (y : Wy) (hy : y.bl = true) {before after : List Bs} {name : Bs} (hn : PName name) (hnl : name.length ≤ 60) (hb : ∀ w ∈ before, WordL w) (ha : ∀ w ∈ after, WordL w) (lb : before.length ≤ 20) (la : after.length ≤ 20) : DieT y (openEF name before after) := by
  have r3 := pc_dirB pn_else (by decide) (tail := textB after ++ 10 :: []) (by simpa using pc_line ha .nil [] (by intro b h; cases h))
  have r2 := pc_dirN pn_ifdef (by decide) hn hnl r3
  have hpc := pc_line hb r2 [] (by intro b h; cases h)
  obtain ⟨T, g1, g2⟩ := hpc.tl 1 1
  have hat := at_start (nm := mainName) g2
  obtain ⟨q1, s1, a1, a2, a3, a4⟩ := part_read (y := y) (fun w hx => ⟨hb w hx, rfl⟩) (by simp) rfl hat
  obtain ⟨s2, b1, b2, b3⟩ := nx_ifdef (y := y) (t := true) a3 a4 hy (by simp) (by simp) rfl hnl
  obtain ⟨q2, c1, c2, _⟩ := HashTo.st (m := 0) b1.1 b1.2.1 b1.2.2 (by simp)
  obtain ⟨s3, d1, d2, d3⟩ := nx_else (y := y) (b := false) (by simpa using b2) b3 hy (by simp)
  obtain ⟨q3, e1, e2, _⟩ := HashTo.st (m := 0) d1.1 d1.2.1 d1.2.2 (by simp)
  obtain ⟨q4, s4, f1, f2, f3, _⟩ := part_read (y := y) (R := []) (fun w hx => ⟨ha w hx, rfl⟩) (by simp) rfl d2
  have m1 := congrArg List.length a2
  have m2 := congrArg List.length c2
  have m3 := congrArg List.length e2
  have m4 := congrArg List.length f2
  simp at m1 m2 m3 m4
  have hlen : (q1 ++ (q2 ++ (q3 ++ q4))).length ≤ 1000 := by rw [List.length_append, List.length_append, List.length_append]; omega
  exact ⟨T, q1 ++ (q2 ++ (q3 ++ q4)), s4, g1, a1.app (c1.app (e1.app f1)), fun B ib C ev hB _ _ => ⟨0, die_eof f3 (by simp) (by simp)⟩, hlen, (a1.app (c1.app (e1.app f1))).kinds⟩
theorem pn_a : PName [97] := ⟨97, [], by decide, by decide, by decide⟩
theorem a_told (y : Wy) : ∃ T l s', TL [97, 10] 1 1 T ∧ StT y l ⟨[tzAb mainName T], 0, fun _ => none, [], true, []⟩ s' ∧ At s' mainName [] [] (fun _ => none) [] 0 ∧ l.length ≤ 1000 ∧ ∀ f ∈ l, -1000000 ≤ f.k ∧ f.k < 1000000 := by
  have hb : blanks [] := by intro b h; cases h
  have hpc : Pc ([] ++ ([97] ++ 10 :: [])) _ := pc_nm (p := []) pn_a (by decide) (by decide) hb (pc_nl (p := []) hb .nil)
  obtain ⟨T, g1, g2⟩ := hpc.tl 1 1
  have hat := at_start (nm := mainName) g2
  obtain ⟨q1, s1, a1, a2, a3, a4, _⟩ := st_tok (y := y) hat (by simp) (by decide) (by decide) (by decide) (by decide) (by decide) (by decide) (fun _ => rfl) (by simp) rfl
  obtain ⟨q2, s2, b1, b2, b3, b4, _⟩ := st_nl (y := y) a3 (by simp) (by simp) rfl
  refine ⟨T, q1 ++ q2, s2, g1, a1.app b1, b3, ?_, (a1.app b1).kinds⟩
  have k1 := congrArg List.length a2
  have k2 := congrArg List.length b2
  simp at k1 k2
  simp
  omega

section
variable {w : World} {ev : Value}
theorem expand_dies {g : Nat} {text : Bs} (hr : Files w g 1 [(mainBs, mkS text)]) (hd : DieT (yExp text) text) (ha : ascii text) (hlen : text.length < 900000) (hg : Glob w ev) (hB : 21 ≤ w.heap.size) :
    ∃ fl, Calls Tryz.prog 18 #[.slice (some ⟨g, 0, none⟩) 1 1, .slice none 0 0, .slice none 0 0] w (ExD fl w) := by
  obtain ⟨T, fl, s', h1, h2, h3, h4, h5⟩ := hd
  exact ⟨fl, expand_die (l := []) (inc := []) hr (by simp) (by simp) (by simp [tab]) h1 ha hlen (fun w0 w1 fb nf hb0 hm hb1 => by
    refine (newInput_gen (B := w0.heap.size) (bl := true) (inc := []) (F := tab ((mainBs, mkS text) :: []) (fun _ => none)) (hm.of_heap (hb1.block _ hm.lt)) ⟨rfl, .inl ⟨rfl, rfl⟩⟩ hb1.size (by decide) (fun w2 h2 => predefine_none)).mono ?_
    rintro e w' ⟨ib, mb, rfl, h1, h2, h3⟩
    exact ⟨ib, mb, rfl, h1, h2, h3⟩) h2 (fun w0 ib mb fb hb => h3 _ _ _ _ (Nat.le_trans hB hb.size) rfl rfl) (by omega) h5 hg hB⟩
theorem expand_fine {g : Nat} {text : Bs} (hr : Files w g 1 [(mainBs, mkS text)]) (hd : ∃ T l s', TL text 1 1 T ∧ StT (yFil text []) l ⟨[tzAb mainName T], 0, fun _ => none, [], true, []⟩ s' ∧ At s' mainName [] [] (fun _ => none) [] 0 ∧ l.length ≤ 1000 ∧ ∀ f ∈ l, -1000000 ≤ f.k ∧ f.k < 1000000) (ha : ascii text) (hlen : text.length < 900000) (hg : Glob w ev) (hB : 21 ≤ w.heap.size) :
    ∃ fl, Calls Tryz.prog 18 #[.slice (some ⟨g, 0, none⟩) 1 1, .slice none 0 0, .slice none 0 0] w (ExQ fl w) := by
  obtain ⟨T, fl, s', h1, h2, h3, h4, h5⟩ := hd
  exact ⟨fl, expand_told (l := []) hr (by simp) (by simp) (by simp [tab]) h1 ha hlen (fun w1 _ => predefine_none) h2 h3 (by omega) h5 hg hB⟩

set_option maxRecDepth 100000 in
set_option maxHeartbeats 2000000 in
theorem fails_true {text : Bs} (hd : DieT (yExp text) text) (ha : ascii text) (hlen : text.length < 900000) (hg : Glob w ev) (hB : 21 ≤ w.heap.size) :
    Calls Tryz.prog 21 #[.string (mkS text)] w (SQ w) := by
  have H1 : Hid (∀ w' g, Below w.heap.size w w' → Files w' g 1 [(mainBs, mkS text)] → ∃ fl, Calls Tryz.prog 18 #[.slice (some ⟨g, 0, none⟩) 1 1, .slice none 0 0, .slice none 0 0] w' (ExD fl w')) :=
    Lib.hid (fun w' g hb hr => expand_dies hr hd ha hlen (hg.only (Only.ofBelow hb) (fun k hk e => by omega)) (Nat.le_trans hB hb.size))
  have H2 : Hid (∀ w' g, Below w.heap.size w w' → Files w' g 1 [(mainBs, mkS [97, 10])] → ∃ fl, Calls Tryz.prog 18 #[.slice (some ⟨g, 0, none⟩) 1 1, .slice none 0 0, .slice none 0 0] w' (ExQ fl w')) :=
    Lib.hid (fun w' g hb hr => expand_fine hr (a_told _) (by unfold ascii; decide) (by decide) (hg.only (Only.ofBelow hb) (fun k hk e => by omega)) (Nat.le_trans hB hb.size))
  clear hd ha hlen hg hB
  go_enter Tryz.func21, Tryz.ntmps21
  go_wp2_with fail
  refine fileOf_any.mono ?_
  rintro e w1 ⟨rfl, rfl⟩
  have hfil := files_one w text
  have hbe : Below w.heap.size w (w.alloc (.cells #[.string mainName, .string (mkS text)] 33)) := (Below.refl _ _).alloc (Nat.le_refl _) _
  obtain ⟨fl1, hc1⟩ := H1.out _ _ hbe hfil
  have HC1 := Lib.hid hc1
  have Hbe := Lib.hid hbe
  clear hfil hbe hc1 H1
  generalize w.alloc (.cells #[.string mainName, .string (mkS text)] 33) = w1 at HC1 Hbe ⊢
  go_wp2_with fail
  refine HC1.out.mono ?_
  rintro e w2 ⟨a, n, c, rfl, hn, hb2⟩
  have Hb2 : Hid (Below w.heap.size w w2) := Lib.hid (Hbe.out.trans (hb2.mono Hbe.out.size))
  clear hn hb2 HC1 Hbe
  go_wp2_with fail
  refine fileOf_any.mono ?_
  rintro e w3 ⟨rfl, rfl⟩
  have hfil : Files (w2.alloc (.cells #[.string mainName, .string ⟨#[97, 10]⟩] 33)) w2.heap.size 1 [(mainBs, mkS [97, 10])] := files_one w2 [97, 10]
  have hbe : Below w.heap.size w (w2.alloc (.cells #[.string mainName, .string ⟨#[97, 10]⟩] 33)) := Hb2.out.alloc Hb2.out.size _
  obtain ⟨fl2, hc2⟩ := H2.out _ _ hbe hfil
  have HC2 := Lib.hid hc2
  have Hbe := Lib.hid hbe
  clear hfil hbe hc2 H2 Hb2
  generalize w2.alloc (.cells #[.string mainName, .string ⟨#[97, 10]⟩] 33) = w3 at HC2 Hbe ⊢
  go_wp2_with fail
  refine HC2.out.mono ?_
  rintro e w4 ⟨a4, n4, c4, rfl, hn4, _, hb4⟩
  have Hend : Hid (SQ w (.returned (.bool true)) w4) := Lib.hid ⟨rfl, Hbe.out.trans (hb4.mono Hbe.out.size)⟩
  clear hn4 hb4 HC2 Hbe
  go_wp2
  go_ret
  exact Hend.out
end
end Go.Proofs.YtpoimmpdncickaaGreatDoor
