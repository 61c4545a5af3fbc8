/- FnWrongFile, for every input: it returns true and leaves its input as it was (package variables hold what the row says; the card's conditions are the given row's). -/
import Derived.Test.YtpoimmpdncickaaGreatDoorJ10
import Derived.Test.YtpoimmpdncickaaGreatDoorCards
import Derived.Lib.LaidTab
import Derived.LaidSub
import Derived.Test.YtpoimmpdncickaaGreatDoorWfa
import Derived.Test.YtpoimmpdncickaaGreatDoorTie
import Derived.WalkKit
import Derived.ProofKit
import Derived.OpenShut
import Derived.ShutString
import Derived.ChangeOld
import Derived.SliceStrings
import Derived.SizedLaws
import Derived.Deep.DeepHandedRow
import Derived.Deep.DeepWitnessRowRef
import Derived.LaidMore
import Derived.Lay
import Derived.MakeChecks
/- What the row's hypotheses say of the package-level variables. -/
namespace Go.Proofs.YtpoimmpdncickaaGreatDoor
open Go Go.RowKit Lex
set_option linter.unusedVariables false
set_option linter.unusedSimpArgs false

theorem own : ownKnob Tryz.prog.godebug = none := by kernel_rfl
theorem gSize : Tryz.prog.globals.size = 21 := by kernel_rfl

set_option maxRecDepth 100000 in
/-- A variable that is an array of bytes holds bytes. -/
theorem bytes_of_shape {w : World} {g n : Nat} (h : w.ShapedOpen Tryz.prog) (hg : g < Tryz.prog.globals.size)
    (h0 : (((begin Tryz.prog (fun _ _ => 0) default).world.heap[g]?).bind Obj.row?).map (fun x => (x.1.size, Tryz.prog.buildable x.2, (Tryz.prog.cellTypes Tryz.prog.depth x.2).map fun ts => (ts.length, ts.all (· == 5)))) = some (n, true, some (n, true))) :
    ∀ i, i < n → ∃ x : Nat, x < 256 ∧ w.cell? ⟨g, i, none⟩ = some (.int .u8 (x : Nat)) := by
  intro i hi
  obtain ⟨⟨zero, t⟩, h1, h2⟩ := Option.map_eq_some_iff.1 h0
  simp only [Prod.mk.injEq] at h2
  obtain ⟨h3, h4, h5⟩ := h2
  obtain ⟨cs, hh, hs, hr⟩ := h.1 g zero t hg h1
  obtain ⟨ts, hts, _, hall⟩ := hr h4
  rw [hts] at h5
  simp only [Option.map_some, Option.some.injEq, Prod.mk.injEq] at h5
  have hlt : i < cs.size := by omega
  obtain ⟨u, hu, hok⟩ := hall i cs[i] (by simp [hlt])
  rw [h5.1, Nat.mod_eq_of_lt hi] at hu
  have hu5 : u = 5 := by
    have := List.all_eq_true.1 h5.2 u (List.mem_of_getElem? hu)
    exact eq_of_beq this
  subst hu5
  have hc : w.cell? ⟨g, i, none⟩ = some cs[i] := by simp [World.cell?, hh, hlt]
  unfold Cell.ok at hok
  rw [Tryz.underlying5] at hok
  generalize cs[i] = v at hok hc
  have hv : ∃ m, v = .int .u8 m ∧ IntKind.u8.has m := by
    cases v with
    | int k' m => obtain ⟨rfl, hm⟩ := hok; exact ⟨m, rfl, hm⟩
    | _ => exact hok.elim
  obtain ⟨m, rfl, hm⟩ := hv
  have hb : 0 ≤ m ∧ m < 256 := by
    have h1 : IntKind.u8.min ≤ m ∧ m ≤ IntKind.u8.max := hm
    have e1 : IntKind.u8.min = 0 := rfl
    have e2 : IntKind.u8.max = 255 := rfl
    omega
  exact ⟨m.toNat, by omega, by rw [hc]; congr 2; omega⟩

theorem row_eof (u : TypeId) (h : Tryz.prog.typeName? 3 u = some "*errors.errorString") : u = 236 :=
  typeName_ptr_named (nm := "errors.errorString") (by rw [show "*" ++ "errors.errorString" = "*errors.errorString" by decide]; kernel_rfl) (by kernel_rfl) (by decide) u (by rw [show "*" ++ "errors.errorString" = "*errors.errorString" by decide]; exact h)

set_option maxRecDepth 100000 in
theorem eof_of {w : World} (h1 : laidMet Tryz.prog [("io.EOF", Rows.laid_io_EOF)] w) : ∃ a, w.cell? ⟨5, 0, none⟩ = some (.iface 236 (.pointer (some a))) := by
  obtain ⟨ps, ⟨g', t', cs, fuel, p, q, hg', ht', hvar, hd, _, hps⟩, _, hok⟩ := h1
  obtain rfl : g' = 5 := (Option.some.inj ((show Tryz.prog.globalNamed "io.EOF" = some 5 by kernel_rfl).symm.trans hg')).symm
  obtain rfl : t' = 142 := (Option.some.inj ((show (Tryz.prog.globals[5]?).map (·.type) = some 142 by kernel_rfl).symm.trans ht')).symm
  have hcell : ∀ i v, cs[i]? = some v → w.cell? ⟨5, i, none⟩ = some v := fun i v hv => (World.var?_cell hg' hvar i).trans hv
  cases fuel with
  | zero => simp [DataW.trod] at hd
  | succ fuel =>
    unfold DataW.trod at hd
    rw [Tryz.underlying142] at hd
    have hcs : ∃ u v, cs.toList = [.iface u v] ∧ Tryz.prog.typeName? 3 u = some "*errors.errorString" ∧ ∃ x, DataW.trod (fun _ => ()) Tryz.prog w 0 (fun _ => true) false fuel u v.cells.toList = some x ∧ x.1 = (.ptr (.agg [.lit (.string [69, 79, 70])])) := by
      generalize cs.toList = l at hd
      match l, hd with
      | [.iface u v], hd =>
        simp only at hd
        cases hn : Tryz.prog.typeName? 3 u with
        | none => rw [hn] at hd; simp at hd
        | some name =>
          rw [hn] at hd
          obtain ⟨x, hx, e⟩ := Option.map_eq_some_iff.1 hd
          have e' : (DataW.iface name x.1, x.2) = (Rows.laid_io_EOF, p) := e
          unfold Rows.laid_io_EOF at e'
          simp only [Prod.mk.injEq, DataW.iface.injEq] at e'
          exact ⟨u, v, rfl, by rw [hn, e'.1.1], x, hx, e'.1.2⟩
      | [.nilIface], hd => simp [Rows.laid_io_EOF] at hd
    obtain ⟨u, v, h2, h3, x, h4, h5⟩ := hcs
    obtain rfl := row_eof u h3
    have hc0 := hcell 0 (.iface 236 v) (by rw [← Array.getElem?_toList, h2]; rfl)
    have hsz : cs.size = 1 := by rw [← Array.length_toList, h2]; rfl
    have hw := (hok 5 0 (by rw [hps, hsz]; simp [MemPlace.row])).2 _ _ hc0
    unfold Value.okWide at hw
    rw [Tryz.underlying236] at hw
    have hw2 : Cell.okWide Tryz.prog w .any 0 236 v := hw
    unfold Cell.okWide at hw2
    rw [Tryz.underlying236] at hw2
    have hw3 : Cell.ok Tryz.prog w .any 0 236 v := hw2
    unfold Cell.ok at hw3
    rw [Tryz.underlying236] at hw3
    cases v with
    | pointer a =>
      cases a with
      | some a => exact ⟨a, hc0⟩
      | none =>
        exfalso
        cases fuel with
        | zero => simp [DataW.trod] at h4
        | succ fuel =>
          unfold DataW.trod at h4
          rw [Tryz.underlying236] at h4
          simp [Value.cells] at h4
          rw [← h4] at h5
          simp at h5
    | _ => exact hw3.elim

set_option maxRecDepth 100000 in
theorem glob_of {w : World} (h : w.ShapedOpen Tryz.prog) (hL : laidMetH Tryz.prog Rows.fnWrongFileRow.laid w) : ∃ ev, Glob w ev := by
  have hp : Lib.TabIs Tryz.prog w "unicode.properties" .u8 (props.map fun n : Nat => (n : Int)) := by
    have h1 : laidMet Tryz.prog [("unicode.properties", Lib.tabData .u8 (props.map fun n : Nat => (n : Int)))] w := hL.filter (fun x => x.1 == "unicode.properties")
    exact Lib.tabIs_of_head (g := 0) (n := 256) (by kernel_rfl) (by kernel_rfl) Tryz.underlying143 Tryz.underlying5 (by kernel_rfl) (by kernel_rfl) h1
  have he : ∃ a, w.cell? ⟨5, 0, none⟩ = some (.iface 236 (.pointer (some a))) := by
    exact eof_of (hL.filter (fun x => x.1 == "io.EOF"))
  obtain ⟨a, ha⟩ := he
  refine ⟨_, bytes_of_shape h (by rw [gSize]; decide) (by kernel_rfl), fun i hi => ?_, fun i hi => ?_, ha, ⟨a, rfl⟩⟩
  · obtain ⟨x, _, hx⟩ := bytes_of_shape (g := 7) (n := 32) h (by rw [gSize]; decide) (by kernel_rfl) i hi
    exact ⟨x, hx⟩
  · have := hp.cell (g := 0) (by kernel_rfl) i (by simp; exact hi)
    rw [this]
    have e : (props.map fun n : Nat => (n : Int))[i]? = some ((props.getD i 0 : Nat) : Int) := by
      have hl : i < props.length := hi
      rw [List.getElem?_map, List.getElem?_eq_getElem hl, List.getD_eq_getElem?_getD, List.getElem?_eq_getElem hl]
      rfl
    first
      | rw [List.getD_eq_getElem?_getD, e]; rfl
      | (congr 2; exact Option.some.inj ((List.getElem?_eq_getElem _).symm.trans e))
end Go.Proofs.YtpoimmpdncickaaGreatDoor

/- FnWrongFile, for every input: it returns true and leaves its input as it was (package variables hold what the row says; the card's conditions are the given row's). -/
namespace Go.Proofs.YtpoimmpdncickaaGreatDoor.fnWrongFile
open Go Go.ChangeShapes Go.WideShapes Go.ChangeAt Go.RowKit Go.Proofs.YtpoimmpdncickaaGreatDoor Go.Proofs.YtpoimmpdncickaaGreatDoor.Lex Go.Proofs.YtpoimmpdncickaaGreatDoorW.PrintWords
open Go.ChangeMaps (open_string shut_string)
set_option linter.unusedVariables false

theorem laidOut : laidOutB Tryz.prog = true := by kernel_rfl
theorem startSize : decide (23 < (begin Tryz.prog (fun _ _ => 0) default).world.heap.size) = true := by kernel_rfl
theorem size_of_shape {W : World} (h : W.ShapedOpen Tryz.prog) : 24 ≤ W.heap.size := by
  obtain ⟨o, _, ho, _⟩ := h.2 23 (by rw [gSize]; decide) (of_decide_eq_true startSize)
  have := (Array.getElem?_eq_some_iff.1 ho).1
  omega

theorem back_strs (l : List ByteArray) : (l.map fun s => s.data.toList).map mkS = l := by
  rw [List.map_map]
  conv => rhs; rw [← List.map_id l]
  exact List.map_congr_left (fun s _ => mkS_of s)

/-- A slice of strings that came in. -/
theorem strs_of {H : Type} {enc : TypeId × Value → H} {W : World} {a : Option Addr} {len cap fuel : Nat} {x : DataW H × List MemPlace} (h : DataW.trod enc Tryz.prog W 0 (fun _ => true) true fuel 22 (Value.slice a len cap).cells.toList = some x) :
    ∃ l : List ByteArray, len = l.length ∧ l.length ≤ cap ∧ Kd.C Kd.string W a l.length l := by
  rcases Go.ChangeShapes.open_strings Tryz.underlying22 Tryz.underlying9 (by kernel_rfl) h with ⟨hcs, _⟩ | ⟨y, l, c, ss, hcs, _, hl, hm, hss, _, hcell, _⟩
  · simp [Value.cells] at hcs
    obtain ⟨rfl, rfl, rfl⟩ := hcs
    exact ⟨[], rfl, by simp, Kd.C_nil _ _⟩
  · simp [Value.cells] at hcs
    obtain ⟨rfl, rfl, rfl⟩ := hcs
    simp only [if_true] at hss
    have hlen : (ss.take len).length = len := by rw [List.length_take]; omega
    refine ⟨ss.take len, hlen.symm, by omega, Kd.C_of_reads (enc := Value.string) (d := ByteArray.empty) (h1 := fun _ => rfl) ⟨rfl, by rw [hlen]; unfold maxLen at hm; omega, fun hp => ⟨y, rfl, fun j hj => ?_⟩⟩⟩
    rw [hcell j (by omega)]
    congr 2
    rw [List.getD_eq_getElem?_getD, List.getD_eq_getElem?_getD, List.getElem?_take, if_pos (by omega)]

set_option maxRecDepth 100000 in
/-- WHAT THE WALK GIVES, FOR EVERY ARGUMENT AND EVERY WORLD OF THE ROW. -/
theorem contract (H : Type) (enc : TypeId × Value → H) (W : World) (base : Nat) (args : Array Value) (ds gs : List (DataW H)) (before : List MemPlace)
    (hval : ∀ (j : Nat) t v, Tryz.f7.params[j]? = some t → args[j]? = some v → Value.okWide Tryz.prog W .any base t v)
    (hW : DataW.Whole enc Tryz.prog Tryz.f7.params.toList Rows.fnWrongFileSpec.vars false W args.toList ds gs before) (hL : laidMetH Tryz.prog Rows.fnWrongFileRow.laid W) (hS : W.ShapedOpen Tryz.prog) :
    Calls Tryz.prog 7 args W fun e W' => ∃ v, e = .returned v ∧ Rows.fnWrongFileSpec.post enc Tryz.prog Tryz.f7 false true false false W args v W' := by
  have hW' := hW
  obtain ⟨p, q, hA0, hV, rfl, hfz, hnd⟩ := hW
  have hA : DataW.TrodAll enc Tryz.prog W 0 (fun _ => true) true Tryz.f7.params.toList args.toList ds p := hA0
  rw [Tryz.params7] at hA hval
  obtain ⟨v0, vs0, d0, ds0, p0, q0, hargs, rfl, rfl, h0, r0⟩ := trodAll_cons hA
  obtain ⟨v1, vs1, d1, ds1, p1, q1, rfl, rfl, rfl, h1, r1⟩ := trodAll_cons r0
  obtain ⟨v2, vs2, d2, ds2, p2, q2, rfl, rfl, rfl, h2, r2⟩ := trodAll_cons r1
  obtain ⟨rfl, rfl, rfl⟩ := trodAll_nil r2
  obtain rfl : args = #[v0, v1, v2] := by cases args; simp_all
  obtain ⟨rfl, rfl⟩ := trodVars_none hV
  obtain ⟨a0, rfl, rfl, rfl, y0⟩ := open_string Tryz.underlying9 (hval 0 9 v0 rfl rfl) h0
  obtain ⟨a1, len1, cap1, rfl⟩ := okWide_slice Tryz.underlying22 (hval 1 22 v1 rfl rfl)
  obtain ⟨a2, len2, cap2, rfl⟩ := okWide_slice Tryz.underlying22 (hval 2 22 v2 rfl rfl)
  have k1 := h1
  have lt1 : ∀ x ∈ p1, x.block < W.heap.size := by obtain ⟨m, hm⟩ := k1; exact DataW.trod_lt m _ _ _ hm
  obtain ⟨f1, e1⟩ := h1
  obtain ⟨l1, rfl, z1, c1⟩ := strs_of e1
  have k2 := h2
  have lt2 : ∀ x ∈ p2, x.block < W.heap.size := by obtain ⟨m, hm⟩ := k2; exact DataW.trod_lt m _ _ _ hm
  obtain ⟨f2, e2⟩ := h2
  obtain ⟨l2, rfl, z2, c2⟩ := strs_of e2
  obtain ⟨ev, hg⟩ := glob_of hS hL
  clear hA0
  have walk : Calls Tryz.prog 7 #[.string a0, .slice a1 l1.length cap1, .slice a2 l2.length cap2] W (LawQ W) := by
    have h := wrongfile_law (b0 := a0.data.toList) (l1 := l1.map fun s => s.data.toList) (A1 := a1) (c1 := cap1) (l2 := l2.map fun s => s.data.toList) (A2 := a2) (c2 := cap2) (w := W) (ev := ev)
    rw [back_strs, back_strs] at h
    exact h c1 z1 c2 z2 hg (by have := size_of_shape hS; omega)
  refine walk.mono fun e W' ⟨he, bel⟩ => ?_
  subst he
  exact ⟨_, rfl, _, _, _, [], _, [], hW', trodAll_mk1 (shut_bool Tryz.underlying4 _), (trodAll_cons_mk (shut_string Tryz.underlying9 y0) (trodAll_cons_mk (Below.trod laidOut (by kernel_rfl) (of_decide_eq_true (by kernel_rfl)) k1 bel lt1) (trodAll_cons_mk (Below.trod laidOut (by kernel_rfl) (of_decide_eq_true (by kernel_rfl)) k2 bel lt2) trodAll_mk0))), rfl, bel.frame _, fun h => by cases h⟩

theorem witness_zip {H : Type} {enc : TypeId × Value → H} {C : Checked} {os : Os} {f : FuncId} {fn : Func} {s : OpenSpec} {conds : List PathCond} {apart : Bool} {laid : List (String × DataW Unit)} (modest : Bool) (w0 : World) (args : Array Value) (hos : w0.os = os)
    (hv : (w0.forCall (fun _ _ => 0) ⟨#[], args, []⟩).variablesZipB C.prog = true)
    (hr : ((w0.forCall (fun _ _ => 0) ⟨#[], args, []⟩).heap.toList.drop C.prog.globals.size).take ((begin C.prog (fun _ _ => 0) default).world.heap.size - C.prog.globals.size) =
      (begin C.prog (fun _ _ => 0) default).world.heap.toList.drop C.prog.globals.size)
    (hok : Input.okWideB C.prog (w0.forCall (fun _ _ => 0) ⟨#[], args, []⟩) f ⟨#[], args, []⟩ = true)
    (hrow : s.preRow enc C.prog fn conds apart laid (w0.forCall (fun _ _ => 0) ⟨#[], args, []⟩).memory args) :
    ∃ (w : World) (tape : Tape) (i : Input), w.os = os ∧ (w.forCall tape i).Shaped C.prog ∧ i.vars = [] ∧ Input.okWide C.prog (w.forCall tape i) .any w.heap.size f i ∧
      s.preRow enc C.prog fn conds apart laid (w.forCall tape i).memory i.args ∧ ({ modest := modest } : Assume).holds C.prog (lone (Frame.enter C.prog f i.args .normal) [] (w.forCall tape i)) :=
  ⟨w0, fun _ _ => 0, ⟨#[], args, []⟩, hos, World.shaped_of_ZipB hv hr, (Input.okWide_of_okWideB (base := 0) hok).1, (Input.okWide_of_okWideB hok).2, hrow, by
    simp only [Assume.holds]
    exact ⟨by simp, by simp, fun _ => Modest.zero, by simp, by simp⟩⟩

def noArgs : Array Value := #[.string ⟨#[]⟩, .slice none 0 0, .slice none 0 0]
set_option maxRecDepth 100000 in
theorem door_met (os : Os) : laidMet Tryz.prog Rows.fnWrongFileRow.laid ((World.laidAll Tryz.prog os Rows.fnWrongFileRow.laid).forCall (fun _ _ => 0) ⟨#[], noArgs, []⟩).memory :=
  laidMet_laidAll noArgs (by kernel_rfl) (by kernel_rfl)
theorem reads (os : Os) {H : Type} (enc : TypeId × Value → H) : ∃ places, DataW.whole enc Tryz.prog ((World.laidAll Tryz.prog os Rows.fnWrongFileRow.laid).forCall (fun _ _ => 0) ⟨#[], noArgs, []⟩).memory Tryz.f7.params.toList Rows.fnWrongFileSpec.vars false noArgs.toList 8 = some ([.lit (.string []), .nil, .nil], [], places) :=
  ⟨[], by kernel_rfl⟩

set_option maxRecDepth 100000 in
theorem lifted (os : Os) (started : os.Started) (H : Type) (enc : TypeId × Value → H) (F : Stop.Interp) :
    ReturnsInHanded {} Tryz.checked os 7 .any ((OpenSpec.ofChange Rows.fnWrongFileSpec).preRow enc Tryz.prog Tryz.f7 Rows.fnWrongFileRow.domain false Rows.fnWrongFileRow.laid) (((OpenSpec.ofChange Rows.fnWrongFileSpec).at F).post enc Tryz.prog Tryz.f7 false true false false) := by
  obtain ⟨places, hx⟩ := reads os enc
  refine returnsInHanded_of_row (C := Tryz.checked) (s := OpenSpec.ofChange Rows.fnWrongFileSpec) own started (by kernel_rfl) Tryz.func7
    (witness_zip (enc := enc) (C := Tryz.checked) false (World.laidAll Tryz.prog os Rows.fnWrongFileRow.laid) noArgs (World.laidAll_os _ _ _) (by kernel_rfl) (by kernel_rfl) (by kernel_rfl)
      (OpenSpec.preRow_of_cond 8 hx (by kernel_rfl) (fun k hk => by cases hk) (by kernel_rfl) (door_met os))) ?_
  intro W base args ds gs before hval hW _ _ _ hL hS _
  exact contract H enc W base args ds gs before hval hW hL hS

theorem fact1 : (Rows.fnWrongFileRow.inPlace == Tryz.prog.inPlace 7) = true := by kernel_rfl
theorem fact2 : (Rows.fnWrongFileRow.unfollowed == Tryz.prog.unfollowed 7) = true := by kernel_rfl
theorem fact3 : (Rows.fnWrongFileRow.recurses == Tryz.prog.recurses 7) = true := by kernel_rfl
theorem fact4 : (Rows.fnWrongFileRow.named == Tryz.prog.varsNamed 7) = true := by kernel_rfl
theorem fact0 : (Rows.fnWrongFileRow.wf (OpenSpec.ofChange (OpenSpec.ofChange Rows.fnWrongFileSpec).bare) && laidOutB Tryz.prog && mapsRowed Tryz.prog) = true := by kernel_rfl
theorem closed : joinedFacts Tryz.prog 7 Tryz.f7 (OpenSpec.ofChange Rows.fnWrongFileSpec).bare Rows.fnWrongFileRow = true := by
  unfold joinedFacts
  rw [fact0, fact1, fact2, fact3, fact4]
  kernel_rfl

theorem said : Rows.FnWrongFileSaid :=
  OpenClaim.holds_of_cond 7 Tryz.f7 rfl rfl rfl rfl rfl rfl rfl ⟨rfl, rfl, rfl, rfl, rfl⟩ rfl rfl rfl rfl rfl (by kernel_rfl) Tryz.func7 closed
    (of_decide_eq_true (by kernel_rfl)) (by unfold Func.isWrapper; first | (rw [if_pos (by decide +kernel)]; kernel_rfl) | (rw [if_neg (by decide +kernel)]; exact ⟨rfl, rfl⟩))
    (fun os started H enc _ F => by rw [OpenClaim.pre_eq_preRow]; exact lifted os started H enc F)

/-- No parameter wants a stand-in; the program's own looks are off. -/
theorem plain (f : FuncId) (fn : Func) (hf : Tryz.pinned.checked.prog.funcNamed "loop.example/pub-g01461/laws.FnWrongFile" = some f) (hfn : Tryz.pinned.checked.prog.funcs[f]? = some fn) :
    true = Tryz.pinned.checked.prog.looks [] ∧ ∀ (j : Nat) t, fn.params[j]? = some t → Tryz.pinned.checked.prog.wantsStandIn t = false := by
  obtain rfl : f = 7 := Option.some.inj ((show Tryz.prog.funcNamed "loop.example/pub-g01461/laws.FnWrongFile" = some 7 by kernel_rfl).symm.trans hf) |>.symm
  obtain rfl : fn = Tryz.f7 := (Option.some.inj (Tryz.func7.symm.trans hfn)).symm
  refine ⟨by kernel_rfl, fun j t ht => ?_⟩
  rw [Tryz.params7] at ht
  have hm := Array.mem_of_getElem? ht
  have h : t = 9 ∨ t = 22 := by
    simp at hm
    first | omega | (rcases hm with h | h <;> simp [h]) | (rcases hm with h | h | h <;> simp [h]) | (rcases hm with h | h | h | h <;> simp [h]) | simp [hm]
  rcases h with rfl | rfl
  · exact (show Tryz.prog.wantsStandIn 9 = false by kernel_rfl)
  · exact (show Tryz.prog.wantsStandIn 22 = false by kernel_rfl)

theorem card : Rows.FnWrongFileCardSaid :=
  Claim7.holds_tied_plain_at .later [] _ _ _ _ said (fun _ h => by cases h) (by kernel_rfl) (fun _ h => by cases h) fnWrongFile_row_tie rfl ⟨rfl, rfl⟩ (by kernel_rfl) rfl plain (by kernel_rfl)
end Go.Proofs.YtpoimmpdncickaaGreatDoor.fnWrongFile
