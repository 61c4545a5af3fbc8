/- FnWrongArgs, for every input: it returns true and leaves its input as it was (package variables hold what the row says; the card's conditions are the given row's). -/
import Derived.Test.YtpoimmpdncickaaGreatDoorJ10
import Derived.Test.YtpoimmpdncickaaGreatDoorCards
import Derived.Lib.LaidTab
import Derived.LaidSub
import Derived.Test.YtpoimmpdncickaaGreatDoorWaa
import Derived.Test.YtpoimmpdncickaaGreatDoorTie
import Derived.WalkKit
import Derived.ProofKit
import Derived.OpenShut
import Derived.ShutString
import Derived.ChangeOld
import Derived.SliceStrings
import Derived.SizedLaws
import Derived.Deep.DeepHandedRow
import Derived.Deep.DeepWitnessRowRef
import Derived.LaidMore
import Derived.Lay
import Derived.MakeChecks
/- What the row's hypotheses say of the package-level variables. -/
namespace Go.Proofs.YtpoimmpdncickaaGreatDoor
open Go Go.RowKit Lex
set_option linter.unusedVariables false
set_option linter.unusedSimpArgs false

theorem own : ownKnob Tryz.prog.godebug = none := by kernel_rfl
theorem gSize : Tryz.prog.globals.size = 21 := by kernel_rfl

set_option maxRecDepth 100000 in
/-- A variable that is an array of bytes holds bytes. -/
theorem bytes_of_shape {w : World} {g n : Nat} (h : w.ShapedOpen Tryz.prog) (hg : g < Tryz.prog.globals.size)
    (h0 : (((begin Tryz.prog (fun _ _ => 0) default).world.heap[g]?).bind Obj.row?).map (fun x => (x.1.size, Tryz.prog.buildable x.2, (Tryz.prog.cellTypes Tryz.prog.depth x.2).map fun ts => (ts.length, ts.all (· == 5)))) = some (n, true, some (n, true))) :
    ∀ i, i < n → ∃ x : Nat, x < 256 ∧ w.cell? ⟨g, i, none⟩ = some (.int .u8 (x : Nat)) := by
  intro i hi
  obtain ⟨⟨zero, t⟩, h1, h2⟩ := Option.map_eq_some_iff.1 h0
  simp only [Prod.mk.injEq] at h2
  obtain ⟨h3, h4, h5⟩ := h2
  obtain ⟨cs, hh, hs, hr⟩ := h.1 g zero t hg h1
  obtain ⟨ts, hts, _, hall⟩ := hr h4
  rw [hts] at h5
  simp only [Option.map_some, Option.some.injEq, Prod.mk.injEq] at h5
  have hlt : i < cs.size := by omega
  obtain ⟨u, hu, hok⟩ := hall i cs[i] (by simp [hlt])
  rw [h5.1, Nat.mod_eq_of_lt hi] at hu
  have hu5 : u = 5 := by
    have := List.all_eq_true.1 h5.2 u (List.mem_of_getElem? hu)
    exact eq_of_beq this
  subst hu5
  have hc : w.cell? ⟨g, i, none⟩ = some cs[i] := by simp [World.cell?, hh, hlt]
  unfold Cell.ok at hok
  rw [Tryz.underlying5] at hok
  generalize cs[i] = v at hok hc
  have hv : ∃ m, v = .int .u8 m ∧ IntKind.u8.has m := by
    cases v with
    | int k' m => obtain ⟨rfl, hm⟩ := hok; exact ⟨m, rfl, hm⟩
    | _ => exact hok.elim
  obtain ⟨m, rfl, hm⟩ := hv
  have hb : 0 ≤ m ∧ m < 256 := by
    have h1 : IntKind.u8.min ≤ m ∧ m ≤ IntKind.u8.max := hm
    have e1 : IntKind.u8.min = 0 := rfl
    have e2 : IntKind.u8.max = 255 := rfl
    omega
  exact ⟨m.toNat, by omega, by rw [hc]; congr 2; omega⟩

theorem row_eof (u : TypeId) (h : Tryz.prog.typeName? 3 u = some "*errors.errorString") : u = 236 :=
  typeName_ptr_named (nm := "errors.errorString") (by rw [show "*" ++ "errors.errorString" = "*errors.errorString" by decide]; kernel_rfl) (by kernel_rfl) (by decide) u (by rw [show "*" ++ "errors.errorString" = "*errors.errorString" by decide]; exact h)

set_option maxRecDepth 100000 in
theorem eof_of {w : World} (h1 : laidMet Tryz.prog [("io.EOF", Rows.laid_io_EOF)] w) : ∃ a, w.cell? ⟨5, 0, none⟩ = some (.iface 236 (.pointer (some a))) := by
  obtain ⟨ps, ⟨g', t', cs, fuel, p, q, hg', ht', hvar, hd, _, hps⟩, _, hok⟩ := h1
  obtain rfl : g' = 5 := (Option.some.inj ((show Tryz.prog.globalNamed "io.EOF" = some 5 by kernel_rfl).symm.trans hg')).symm
  obtain rfl : t' = 142 := (Option.some.inj ((show (Tryz.prog.globals[5]?).map (·.type) = some 142 by kernel_rfl).symm.trans ht')).symm
  have hcell : ∀ i v, cs[i]? = some v → w.cell? ⟨5, i, none⟩ = some v := fun i v hv => (World.var?_cell hg' hvar i).trans hv
  cases fuel with
  | zero => simp [DataW.trod] at hd
  | succ fuel =>
    unfold DataW.trod at hd
    rw [Tryz.underlying142] at hd
    have hcs : ∃ u v, cs.toList = [.iface u v] ∧ Tryz.prog.typeName? 3 u = some "*errors.errorString" ∧ ∃ x, DataW.trod (fun _ => ()) Tryz.prog w 0 (fun _ => true) false fuel u v.cells.toList = some x ∧ x.1 = (.ptr (.agg [.lit (.string [69, 79, 70])])) := by
      generalize cs.toList = l at hd
      match l, hd with
      | [.iface u v], hd =>
        simp only at hd
        cases hn : Tryz.prog.typeName? 3 u with
        | none => rw [hn] at hd; simp at hd
        | some name =>
          rw [hn] at hd
          obtain ⟨x, hx, e⟩ := Option.map_eq_some_iff.1 hd
          have e' : (DataW.iface name x.1, x.2) = (Rows.laid_io_EOF, p) := e
          unfold Rows.laid_io_EOF at e'
          simp only [Prod.mk.injEq, DataW.iface.injEq] at e'
          exact ⟨u, v, rfl, by rw [hn, e'.1.1], x, hx, e'.1.2⟩
      | [.nilIface], hd => simp [Rows.laid_io_EOF] at hd
    obtain ⟨u, v, h2, h3, x, h4, h5⟩ := hcs
    obtain rfl := row_eof u h3
    have hc0 := hcell 0 (.iface 236 v) (by rw [← Array.getElem?_toList, h2]; rfl)
    have hsz : cs.size = 1 := by rw [← Array.length_toList, h2]; rfl
    have hw := (hok 5 0 (by rw [hps, hsz]; simp [MemPlace.row])).2 _ _ hc0
    unfold Value.okWide at hw
    rw [Tryz.underlying236] at hw
    have hw2 : Cell.okWide Tryz.prog w .any 0 236 v := hw
    unfold Cell.okWide at hw2
    rw [Tryz.underlying236] at hw2
    have hw3 : Cell.ok Tryz.prog w .any 0 236 v := hw2
    unfold Cell.ok at hw3
    rw [Tryz.underlying236] at hw3
    cases v with
    | pointer a =>
      cases a with
      | some a => exact ⟨a, hc0⟩
      | none =>
        exfalso
        cases fuel with
        | zero => simp [DataW.trod] at h4
        | succ fuel =>
          unfold DataW.trod at h4
          rw [Tryz.underlying236] at h4
          simp [Value.cells] at h4
          rw [← h4] at h5
          simp at h5
    | _ => exact hw3.elim

set_option maxRecDepth 100000 in
theorem glob_of {w : World} (h : w.ShapedOpen Tryz.prog) (hL : laidMetH Tryz.prog Rows.fnWrongArgsRow.laid w) : ∃ ev, Glob w ev := by
  have hp : Lib.TabIs Tryz.prog w "unicode.properties" .u8 (props.map fun n : Nat => (n : Int)) := by
    have h1 : laidMet Tryz.prog [("unicode.properties", Lib.tabData .u8 (props.map fun n : Nat => (n : Int)))] w := hL.filter (fun x => x.1 == "unicode.properties")
    exact Lib.tabIs_of_head (g := 0) (n := 256) (by kernel_rfl) (by kernel_rfl) Tryz.underlying143 Tryz.underlying5 (by kernel_rfl) (by kernel_rfl) h1
  have he : ∃ a, w.cell? ⟨5, 0, none⟩ = some (.iface 236 (.pointer (some a))) := by
    exact eof_of (hL.filter (fun x => x.1 == "io.EOF"))
  obtain ⟨a, ha⟩ := he
  refine ⟨_, bytes_of_shape h (by rw [gSize]; decide) (by kernel_rfl), fun i hi => ?_, fun i hi => ?_, ha, ⟨a, rfl⟩⟩
  · obtain ⟨x, _, hx⟩ := bytes_of_shape (g := 7) (n := 32) h (by rw [gSize]; decide) (by kernel_rfl) i hi
    exact ⟨x, hx⟩
  · have := hp.cell (g := 0) (by kernel_rfl) i (by simp; exact hi)
    rw [this]
    have e : (props.map fun n : Nat => (n : Int))[i]? = some ((props.getD i 0 : Nat) : Int) := by
      have hl : i < props.length := hi
      rw [List.getElem?_map, List.getElem?_eq_getElem hl, List.getD_eq_getElem?_getD, List.getElem?_eq_getElem hl]
      rfl
    first
      | rw [List.getD_eq_getElem?_getD, e]; rfl
      | (congr 2; exact Option.some.inj ((List.getElem?_eq_getElem _).symm.trans e))
end Go.Proofs.YtpoimmpdncickaaGreatDoor

/- FnWrongArgs, for every input: it returns true and leaves its input as it was (package variables hold what the row says; the card's conditions are the given row's). -/
namespace Go.Proofs.YtpoimmpdncickaaGreatDoor.fnWrongArgs
open Go Go.ChangeShapes Go.WideShapes Go.ChangeAt Go.RowKit Go.Proofs.YtpoimmpdncickaaGreatDoor Go.Proofs.YtpoimmpdncickaaGreatDoor.Lex Go.Proofs.YtpoimmpdncickaaGreatDoorW.PrintWords
open Go.ChangeMaps (open_string shut_string)
set_option linter.unusedVariables false

theorem laidOut : laidOutB Tryz.prog = true := by kernel_rfl
theorem startSize : decide (23 < (begin Tryz.prog (fun _ _ => 0) default).world.heap.size) = true := by kernel_rfl
theorem size_of_shape {W : World} (h : W.ShapedOpen Tryz.prog) : 24 ≤ W.heap.size := by
  obtain ⟨o, _, ho, _⟩ := h.2 23 (by rw [gSize]; decide) (of_decide_eq_true startSize)
  have := (Array.getElem?_eq_some_iff.1 ho).1
  omega

theorem back_strs (l : List ByteArray) : (l.map fun s => s.data.toList).map mkS = l := by
  rw [List.map_map]
  conv => rhs; rw [← List.map_id l]
  exact List.map_congr_left (fun s _ => mkS_of s)

/-- A slice of strings that came in. -/
theorem strs_of {H : Type} {enc : TypeId × Value → H} {W : World} {a : Option Addr} {len cap fuel : Nat} {x : DataW H × List MemPlace} (h : DataW.trod enc Tryz.prog W 0 (fun _ => true) true fuel 22 (Value.slice a len cap).cells.toList = some x) :
    ∃ l : List ByteArray, len = l.length ∧ l.length ≤ cap ∧ Kd.C Kd.string W a l.length l := by
  rcases Go.ChangeShapes.open_strings Tryz.underlying22 Tryz.underlying9 (by kernel_rfl) h with ⟨hcs, _⟩ | ⟨y, l, c, ss, hcs, _, hl, hm, hss, _, hcell, _⟩
  · simp [Value.cells] at hcs
    obtain ⟨rfl, rfl, rfl⟩ := hcs
    exact ⟨[], rfl, by simp, Kd.C_nil _ _⟩
  · simp [Value.cells] at hcs
    obtain ⟨rfl, rfl, rfl⟩ := hcs
    simp only [if_true] at hss
    have hlen : (ss.take len).length = len := by rw [List.length_take]; omega
    refine ⟨ss.take len, hlen.symm, by omega, Kd.C_of_reads (enc := Value.string) (d := ByteArray.empty) (h1 := fun _ => rfl) ⟨rfl, by rw [hlen]; unfold maxLen at hm; omega, fun hp => ⟨y, rfl, fun j hj => ?_⟩⟩⟩
    rw [hcell j (by omega)]
    congr 2
    rw [List.getD_eq_getElem?_getD, List.getD_eq_getElem?_getD, List.getElem?_take, if_pos (by omega)]

theorem wrap_of {n : Int} (h : (Lit.int .i64 n).wf = true) : IntKind.i64.wrap n = n := by
  have h2 : (decide (IntKind.i64.min ≤ n) && decide (n ≤ IntKind.i64.max)) = true := h
  simp only [Bool.and_eq_true, decide_eq_true_eq] at h2
  have h3 : IntKind.i64.min = -9223372036854775808 := by decide
  have h4 : IntKind.i64.max = 9223372036854775807 := by decide
  rw [h3, h4] at h2
  rw [IntKind.wrap_i64]
  omega

set_option maxRecDepth 100000 in
/-- WHAT THE WALK GIVES, FOR EVERY ARGUMENT AND EVERY WORLD OF THE ROW. -/
theorem contract (H : Type) (enc : TypeId × Value → H) (W : World) (base : Nat) (args : Array Value) (ds gs : List (DataW H)) (before : List MemPlace)
    (hval : ∀ (j : Nat) t v, Tryz.f5.params[j]? = some t → args[j]? = some v → Value.okWide Tryz.prog W .any base t v)
    (hW : DataW.Whole enc Tryz.prog Tryz.f5.params.toList Rows.fnWrongArgsSpec.vars false W args.toList ds gs before) (hL : laidMetH Tryz.prog Rows.fnWrongArgsRow.laid W) (hS : W.ShapedOpen Tryz.prog) :
    Calls Tryz.prog 5 args W fun e W' => ∃ v, e = .returned v ∧ Rows.fnWrongArgsSpec.post enc Tryz.prog Tryz.f5 false true false false W args v W' := by
  have hW' := hW
  obtain ⟨p, q, hA0, hV, rfl, hfz, hnd⟩ := hW
  have hA : DataW.TrodAll enc Tryz.prog W 0 (fun _ => true) true Tryz.f5.params.toList args.toList ds p := hA0
  rw [Tryz.params5] at hA hval
  obtain ⟨v0, vs0, d0, ds0, p0, q0, hargs, rfl, rfl, h0, r0⟩ := trodAll_cons hA
  obtain ⟨v1, vs1, d1, ds1, p1, q1, rfl, rfl, rfl, h1, r1⟩ := trodAll_cons r0
  obtain ⟨v2, vs2, d2, ds2, p2, q2, rfl, rfl, rfl, h2, r2⟩ := trodAll_cons r1
  obtain ⟨rfl, rfl, rfl⟩ := trodAll_nil r2
  obtain rfl : args = #[v0, v1, v2] := by cases args; simp_all
  obtain ⟨rfl, rfl⟩ := trodVars_none hV
  obtain ⟨a0, rfl, rfl, rfl, y0⟩ := open_string Tryz.underlying9 (hval 0 9 v0 rfl rfl) h0
  obtain ⟨a1, rfl, rfl, rfl, y1⟩ := ChangeShapes.open_int Tryz.underlying3 (hval 1 3 v1 rfl rfl) h1
  obtain ⟨a2, rfl, rfl, rfl, y2⟩ := ChangeShapes.open_int Tryz.underlying3 (hval 2 3 v2 rfl rfl) h2
  obtain ⟨ev, hg⟩ := glob_of hS hL
  clear hA0
  have walk : Calls Tryz.prog 5 #[.string a0, .int .i64 a1, .int .i64 a2] W (LawQ W) := by
    have h := wrongargs_law (b0 := a0.data.toList) (i1 := a1) (i2 := a2) (w := W) (ev := ev)
    exact h (wrap_of y1) (wrap_of y2) hg (by have := size_of_shape hS; omega)
  refine walk.mono fun e W' ⟨he, bel⟩ => ?_
  subst he
  exact ⟨_, rfl, _, _, _, [], _, [], hW', trodAll_mk1 (shut_bool Tryz.underlying4 _), (trodAll_cons_mk (shut_string Tryz.underlying9 y0) (trodAll_cons_mk (ChangeShapes.shut_int Tryz.underlying3 y1) (trodAll_cons_mk (ChangeShapes.shut_int Tryz.underlying3 y2) trodAll_mk0))), rfl, bel.frame _, fun h => by cases h⟩

theorem witness_zip {H : Type} {enc : TypeId × Value → H} {C : Checked} {os : Os} {f : FuncId} {fn : Func} {s : OpenSpec} {conds : List PathCond} {apart : Bool} {laid : List (String × DataW Unit)} (modest : Bool) (w0 : World) (args : Array Value) (hos : w0.os = os)
    (hv : (w0.forCall (fun _ _ => 0) ⟨#[], args, []⟩).variablesZipB C.prog = true)
    (hr : ((w0.forCall (fun _ _ => 0) ⟨#[], args, []⟩).heap.toList.drop C.prog.globals.size).take ((begin C.prog (fun _ _ => 0) default).world.heap.size - C.prog.globals.size) =
      (begin C.prog (fun _ _ => 0) default).world.heap.toList.drop C.prog.globals.size)
    (hok : Input.okWideB C.prog (w0.forCall (fun _ _ => 0) ⟨#[], args, []⟩) f ⟨#[], args, []⟩ = true)
    (hrow : s.preRow enc C.prog fn conds apart laid (w0.forCall (fun _ _ => 0) ⟨#[], args, []⟩).memory args) :
    ∃ (w : World) (tape : Tape) (i : Input), w.os = os ∧ (w.forCall tape i).Shaped C.prog ∧ i.vars = [] ∧ Input.okWide C.prog (w.forCall tape i) .any w.heap.size f i ∧
      s.preRow enc C.prog fn conds apart laid (w.forCall tape i).memory i.args ∧ ({ modest := modest } : Assume).holds C.prog (lone (Frame.enter C.prog f i.args .normal) [] (w.forCall tape i)) :=
  ⟨w0, fun _ _ => 0, ⟨#[], args, []⟩, hos, World.shaped_of_ZipB hv hr, (Input.okWide_of_okWideB (base := 0) hok).1, (Input.okWide_of_okWideB hok).2, hrow, by
    simp only [Assume.holds]
    exact ⟨by simp, by simp, fun _ => Modest.zero, by simp, by simp⟩⟩

def noArgs : Array Value := #[.string ⟨#[]⟩, .int .i64 0, .int .i64 0]
set_option maxRecDepth 100000 in
theorem door_met (os : Os) : laidMet Tryz.prog Rows.fnWrongArgsRow.laid ((World.laidAll Tryz.prog os Rows.fnWrongArgsRow.laid).forCall (fun _ _ => 0) ⟨#[], noArgs, []⟩).memory :=
  laidMet_laidAll noArgs (by kernel_rfl) (by kernel_rfl)
theorem reads (os : Os) {H : Type} (enc : TypeId × Value → H) : ∃ places, DataW.whole enc Tryz.prog ((World.laidAll Tryz.prog os Rows.fnWrongArgsRow.laid).forCall (fun _ _ => 0) ⟨#[], noArgs, []⟩).memory Tryz.f5.params.toList Rows.fnWrongArgsSpec.vars false noArgs.toList 8 = some ([.lit (.string []), .lit (.int .i64 0), .lit (.int .i64 0)], [], places) :=
  ⟨[], by kernel_rfl⟩

set_option maxRecDepth 100000 in
theorem lifted (os : Os) (started : os.Started) (H : Type) (enc : TypeId × Value → H) (F : Stop.Interp) :
    ReturnsInHanded {} Tryz.checked os 5 .any ((OpenSpec.ofChange Rows.fnWrongArgsSpec).preRow enc Tryz.prog Tryz.f5 Rows.fnWrongArgsRow.domain false Rows.fnWrongArgsRow.laid) (((OpenSpec.ofChange Rows.fnWrongArgsSpec).at F).post enc Tryz.prog Tryz.f5 false true false false) := by
  obtain ⟨places, hx⟩ := reads os enc
  refine returnsInHanded_of_row (C := Tryz.checked) (s := OpenSpec.ofChange Rows.fnWrongArgsSpec) own started (by kernel_rfl) Tryz.func5
    (witness_zip (enc := enc) (C := Tryz.checked) false (World.laidAll Tryz.prog os Rows.fnWrongArgsRow.laid) noArgs (World.laidAll_os _ _ _) (by kernel_rfl) (by kernel_rfl) (by kernel_rfl)
      (OpenSpec.preRow_of_cond 8 hx (by kernel_rfl) (fun k hk => by cases hk) (by kernel_rfl) (door_met os))) ?_
  intro W base args ds gs before hval hW _ _ _ hL hS _
  exact contract H enc W base args ds gs before hval hW hL hS

theorem fact1 : (Rows.fnWrongArgsRow.inPlace == Tryz.prog.inPlace 5) = true := by kernel_rfl
theorem fact2 : (Rows.fnWrongArgsRow.unfollowed == Tryz.prog.unfollowed 5) = true := by kernel_rfl
theorem fact3 : (Rows.fnWrongArgsRow.recurses == Tryz.prog.recurses 5) = true := by kernel_rfl
theorem fact4 : (Rows.fnWrongArgsRow.named == Tryz.prog.varsNamed 5) = true := by kernel_rfl
theorem fact0 : (Rows.fnWrongArgsRow.wf (OpenSpec.ofChange (OpenSpec.ofChange Rows.fnWrongArgsSpec).bare) && laidOutB Tryz.prog && mapsRowed Tryz.prog) = true := by kernel_rfl
theorem closed : joinedFacts Tryz.prog 5 Tryz.f5 (OpenSpec.ofChange Rows.fnWrongArgsSpec).bare Rows.fnWrongArgsRow = true := by
  unfold joinedFacts
  rw [fact0, fact1, fact2, fact3, fact4]
  kernel_rfl

theorem said : Rows.FnWrongArgsSaid :=
  OpenClaim.holds_of_cond 5 Tryz.f5 rfl rfl rfl rfl rfl rfl rfl ⟨rfl, rfl, rfl, rfl, rfl⟩ rfl rfl rfl rfl rfl (by kernel_rfl) Tryz.func5 closed
    (of_decide_eq_true (by kernel_rfl)) (by unfold Func.isWrapper; first | (rw [if_pos (by decide +kernel)]; kernel_rfl) | (rw [if_neg (by decide +kernel)]; exact ⟨rfl, rfl⟩))
    (fun os started H enc _ F => by rw [OpenClaim.pre_eq_preRow]; exact lifted os started H enc F)

/-- No parameter wants a stand-in; the program's own looks are off. -/
theorem plain (f : FuncId) (fn : Func) (hf : Tryz.pinned.checked.prog.funcNamed "loop.example/pub-g01461/laws.FnWrongArgs" = some f) (hfn : Tryz.pinned.checked.prog.funcs[f]? = some fn) :
    true = Tryz.pinned.checked.prog.looks [] ∧ ∀ (j : Nat) t, fn.params[j]? = some t → Tryz.pinned.checked.prog.wantsStandIn t = false := by
  obtain rfl : f = 5 := Option.some.inj ((show Tryz.prog.funcNamed "loop.example/pub-g01461/laws.FnWrongArgs" = some 5 by kernel_rfl).symm.trans hf) |>.symm
  obtain rfl : fn = Tryz.f5 := (Option.some.inj (Tryz.func5.symm.trans hfn)).symm
  refine ⟨by kernel_rfl, fun j t ht => ?_⟩
  rw [Tryz.params5] at ht
  have hm := Array.mem_of_getElem? ht
  have h : t = 9 ∨ t = 3 := by
    simp at hm
    first | omega | (rcases hm with h | h <;> simp [h]) | (rcases hm with h | h | h <;> simp [h]) | (rcases hm with h | h | h | h <;> simp [h]) | simp [hm]
  rcases h with rfl | rfl
  · exact (show Tryz.prog.wantsStandIn 9 = false by kernel_rfl)
  · exact (show Tryz.prog.wantsStandIn 3 = false by kernel_rfl)

theorem card : Rows.FnWrongArgsCardSaid :=
  Claim7.holds_tied_plain_at .later [] _ _ _ _ said (fun _ h => by cases h) (by kernel_rfl) (fun _ h => by cases h) fnWrongArgs_row_tie rfl ⟨rfl, rfl⟩ (by kernel_rfl) rfl plain (by kernel_rfl)
end Go.Proofs.YtpoimmpdncickaaGreatDoor.fnWrongArgs
