/- The law FnWrongFile's walk: it returns true. -/
import Derived.Test.YtpoimmpdncickaaGreatDoorJ10
import Derived.Test.YtpoimmpdncickaaGreatDoorJ11
import Derived.Test.YtpoimmpdncickaaGreatDoorB8
import Derived.Test.YtpoimmpdncickaaGreatDoorJ12
import Derived.Test.YtpoimmpdncickaaGreatDoorJ9
import Derived.Shelf.Unicode.WordAny
import Derived.Lib.ValidAsc
import Derived.Laws.BitsAllLaws
import Derived.Deep.DeepBigQuietO
import Derived.Deep.DeepMust
/- What is told of a file that includes another; plain lists. -/
namespace Go.Proofs.YtpoimmpdncickaaGreatDoor
open Go Go.RowKit Lex Go.Proofs.YtpoimmpdncickaaGreatDoorW.PrintWords Go.Proofs.YtpoimmpdncickaaGreatDoor.PHelp
set_option linter.unusedVariables false
set_option linter.unusedSimpArgs false

def insBs : Bs := [105, 110, 115, 105, 100, 101, 46, 104]
/-- The line that includes a file. -/
def incB (q : Bs) (tail : Bs) : Bs := 35 :: (kwInclude ++ 32 :: 34 :: (q ++ 34 :: 10 :: tail))
/-- The two files. -/
def incF (before after : List Bs) : Bs := textB before ++ 10 :: incB insBs (textB after ++ 10 :: [])
def insF (inside : List Bs) (name : Bs) (body : List Bs) : Bs := textB inside ++ 10 :: defB name body []

theorem pn_include : PName kwInclude := ⟨105, [110, 99, 108, 117, 100, 101], by decide, by decide, by decide⟩
theorem pc_inc {q : Bs} (hq : ∀ b ∈ q, isStr b = true) (hl : q.length ≤ 62) {tail : Bs} {ts : List (Int × Bs)} (ht : Pc tail ts) : Pc (incB q tail) ((35, [35]) :: (-2, kwInclude) :: (-6, 34 :: (q ++ [34])) :: (10, [10]) :: ts) := by
  refine .cons (z := [35]) (.one (ws := []) (k := ((35 : UInt8).toNat : Int)) (x := [35]) (r' := kwInclude ++ 32 :: 34 :: (q ++ 34 :: 10 :: tail)) (by intro b h; cases h) (.char (by decide)) (by decide) (by simp) (by intro d n e; cases e)) (by decide) ?_
  refine pc_nm (p := []) pn_include (by decide) (by decide) (by intro b h; cases h) ?_
  have h1 : TNext ([32] ++ ((34 :: (q ++ [34])) ++ 10 :: tail)) (-6) (34 :: (q ++ [34])) ([32] ++ (34 :: (q ++ [34]))) (10 :: tail) := .one blanks_one (.str hq) (by decide) (by simp; omega) (by intro d n e; cases e)
  have e : [32] ++ ((34 :: (q ++ [34])) ++ 10 :: tail) = 32 :: 34 :: (q ++ 34 :: 10 :: tail) := by simp
  rw [e] at h1
  exact .cons h1 (by decide) (pc_nl (p := []) (by intro b h; cases h) ht)

theorem inc_told {before inside body after : List Bs} {name : Bs} (hn : PName name) (hnl : name.length ≤ 60) (hbe : ∀ w ∈ before, WordL w) (hin : ∀ w ∈ inside, WordL w) (hb : ∀ w ∈ body, WordL w) (haf : ∀ w ∈ after, WordL w) (hb0 : body ≠ []) (hbh : body.head? ≠ some [40]) (hb20 : body.length ≤ 20) (he20 : before.length ≤ 20) (hi20 : inside.length ≤ 20) (ha20 : after.length ≤ 20) (hno : name ∉ body)
    (hun : ∀ w, Calls Tryz.prog 92 #[.string (mkS (34 :: (insBs ++ [34])))] w (UnqQ insBs w)) (ha : ascii (insF inside name body)) :
    ∃ T l s' mac mn, TL (incF before after) 1 1 T ∧ StT (yFil (incF before after) [(insBs, mkS (insF inside name body))]) l ⟨[tzAb mainName T], 0, fun _ => none, [], true, []⟩ s' ∧ At s' mainName [] [] mac [] mn ∧ shown (l.map Fd.kx) = (before ++ inside) ++ after.flatMap (repW name body) ∧ l.length ≤ 1000 ∧ ∀ f ∈ l, -1000000 ≤ f.k ∧ f.k < 1000000 := by
  have hpc := pc_line hbe (tail := incB insBs (textB after ++ 10 :: [])) (pc_inc (q := insBs) (by decide) (by decide) (tail := textB after ++ 10 :: []) (by simpa using pc_line haf .nil [] (by intro b h; cases h))) [] (by intro b h; cases h)
  obtain ⟨T, h1, h2⟩ := hpc.tl 1 1
  have hpi := pc_line hin (tail := defB name body []) (by simpa using pc_def hn hnl hb .nil [] (by intro b h; cases h)) [] (by intro b h; cases h)
  obtain ⟨T2, i1, i2⟩ := hpi.tl 1 1
  have hlen : (insF inside name body).length < 900000 := by
    have e1 := textB_len inside (fun x hx => (hin x hx).len)
    have e2 := textB_len body (fun x hx => (hb x hx).len)
    have : kwDefine.length = 6 := rfl
    simp only [insF, defB, List.length_cons, List.length_append, List.length_nil]
    omega
  have hat := at_start (nm := mainName) h2
  obtain ⟨l1, s1, a1, a2, a3, _⟩ := st_ws (y := yFil (incF before after) [(insBs, mkS (insF inside name body))]) (by simp) (by simp) rfl before _ (fun w hw => ⟨hbe w hw, rfl⟩) hat
  obtain ⟨l2, s2, b1, b2, b3, b4, _⟩ := st_nl (y := yFil (incF before after) [(insBs, mkS (insF inside name body))]) a3 (by simp) (by simp) rfl
  obtain ⟨l3, s3, o, c1, c2, c3, c4, c5, c6, c7⟩ := st_incl (y := yFil (incF before after) [(insBs, mkS (insF inside name body))]) (T := T2) b3 b4 (by simp) (by simp) rfl hun (by rfl) (by decide) (by simpa [insF] using i1) ha hlen
  rw [i2] at c3
  obtain ⟨l4, s4, d1, d2, d3, _⟩ := st_ws (y := yFil (incF before after) [(insBs, mkS (insF inside name body))]) (by simp) (by simp) rfl inside _ (fun w hw => ⟨hin w hw, rfl⟩) c3
  obtain ⟨l5, s5, e1, e2, e3, e4, _⟩ := st_nl (y := yFil (incF before after) [(insBs, mkS (insF inside name body))]) d3 (by simp) (by simp) rfl
  obtain ⟨l6, s6, f1, f2, f3, f4, _⟩ := st_def (y := yFil (incF before after) [(insBs, mkS (insF inside name body))]) e3 e4 (fun q hq => by simp at hq; rw [hq]; exact c5) (by simp) (by simp) rfl (by decide) hnl hb hb0 hbh hb20 rfl
  have f3' := at_pop f3 c5 c6 c7
  obtain ⟨l7, s7, g1, g2, g3, _⟩ := st_words (y := yFil (incF before after) [(insBs, mkS (insF inside name body))]) (rep_one hb hb0 hb20 hno) (by simp) (by simp) rfl after _ (fun w hw => ⟨haf w hw, fun h => (haf w hw).name_kind (mac_one h ▸ hn)⟩) f3'
  obtain ⟨l8, s8, k1, k2, k3, _, _⟩ := st_nl (y := yFil (incF before after) [(insBs, mkS (insF inside name body))]) g3 (by simp) (by simp) rfl
  have hs := a1.app (b1.app (c1.app (d1.app (e1.app (f1.app (g1.app k1))))))
  refine ⟨T, _, s8, _, _, h1, hs, k3, ?_, ?_, hs.kinds⟩
  · simp only [List.map_append, shown_app]
    rw [a2, b2, c2, d2, e2, f2, g2, k2, shown_words hbe, shown_words hin, shown_words (fun w hw => ?_)]
    · simp [shown, isShown]
    · obtain ⟨x, hx, hw⟩ := List.mem_flatMap.1 hw
      unfold repW at hw
      split at hw
      · exact hb w hw
      · simp at hw; rw [hw]; exact haf x hx
  · have m1 := congrArg List.length a2
    have m2 := congrArg List.length b2
    have m3 := congrArg List.length c2
    have m4 := congrArg List.length d2
    have m5 := congrArg List.length e2
    have m6 := congrArg List.length f2
    have m7 := congrArg List.length g2
    have m8 := congrArg List.length k2
    have m9 := repW_len name body hb20 after
    simp at m1 m2 m3 m4 m5 m6 m7 m8
    simp only [List.length_append]
    have m0 : (after.flatMap (repW name body)).length = (List.map (fun a => (repW name body a).length) after).sum := by simp [List.length_flatMap]
    omega
end Go.Proofs.YtpoimmpdncickaaGreatDoor

/- include: a file that is in none of the folders. -/
namespace Go.Proofs.YtpoimmpdncickaaGreatDoor
open Go Go.RowKit Lex
set_option linter.unusedVariables false
set_option linter.unusedSimpArgs false

section
variable {w w' : World} {B ib : Nat} {C : Cfg} {ab ab' : List Ab} {mn : Nat} {mac : Bs → Option Mc} {ifs : List Bool} {bol : Bool} {text : Bs} {ev : Value}

set_option maxRecDepth 100000 in
set_option maxHeartbeats 4000000 in
theorem include_die {dead rest : List Ab} {a : Ab} {st nl : Tok} {ts : List Tok} {nmB : Bs} {jn : Nat → Bs} (h : Inp w B ib C (dead ++ a :: rest) mn mac ifs bol text) (hd : ∀ d ∈ dead, d.ts = []) (hats : a.ts = st :: nl :: ts)
    (hsk : st.k = -6) (hun : ∀ w, Calls Tryz.prog 92 #[.string (mkS st.x)] w (UnqQ nmB w)) (hnl : nl.k = 10) (hF0 : C.F nmB = none) (hj : ∀ i, i < C.inc.length → ∃ d : ByteArray, C.inc[i]? = some d ∧ d.size ≤ 1000 ∧ Go.Lib.Pa.joinL [d.data.toList, nmB] = jn i ∧ (jn i).length ≤ 5000) (hmiss : ∀ i, i < C.inc.length → C.F (jn i) = none) (hk : C.inc.length < 1000)
    (hxl : nmB.length ≤ 1000) (hg : Glob w ev) (hB : 21 ≤ B) (hl : (dead ++ a :: rest).length < 500) :
    Calls Tryz.prog 71 #[.pointer (some ⟨ib, 0, none⟩)] w (DieQ B C.bl w) := by
  have hBw : B ≤ w.heap.size := by
    obtain ⟨S, rs, h⟩ := h
    exact Nat.le_of_lt (Nat.lt_of_le_of_lt h.stk.low h.stk.blk.lt)
  have hn := inNext h hd hats hg hB hl
  rw [hsk] at hn
  have Hn := Lib.hid hn
  have hl2 : ({ a with cur := st, ts := nl :: ts } :: rest : List Ab).length < 500 := by simp at hl ⊢; omega
  have Htx := Lib.hid (fun (w1 : World) (h1 : Inp w1 B ib C ({ a with cur := st, ts := nl :: ts } :: rest) mn mac ifs bol text) => inText h1 (by show st.k ≠ 0; rw [hsk]; decide) hl2)
  have Hnl := Lib.hid (fun (w1 : World) (d : ByteArray) (h1 : Inp w1 B ib C ({ a with cur := st, ts := nl :: ts } :: rest) mn mac ifs bol text) (hg1 : Glob w1 ev) => inExpectNl (d := d) h1 (nl := nl) (ts := ts) rfl hnl hg1 hB hl2)
  have hl3 : ({ a with cur := nl, ts := ts } :: rest : List Ab).length < 500 := by simp at hl ⊢; omega
  have HE := Lib.hid (fun (w1 : World) (x : ByteArray) (hx : x.size ≤ 1000) (h1 : Inp w1 B ib C ({ a with cur := nl, ts := ts } :: rest) mn mac ifs bol text) => inErrOne h1 hl3 hx)
  have Hun := Lib.hid hun
  have Hg := Lib.hid hg
  have HF0 := Lib.hid hF0
  have Hj := Lib.hid hj
  have Hmiss := Lib.hid hmiss
  have hnm := mkS_size nmB
  obtain ⟨xn, hxn⟩ : ∃ q, q = mkS nmB := ⟨_, rfl⟩
  clear h hd hats hsk hnl hg hl hl2 hl3 hn hun hF0 hj hmiss
  go_enter Tryz.func71, Tryz.ntmps71
  go_wp2_with fail
  refine Hn.out.mono ?_
  rintro e w1 ⟨rfl, h1, s1⟩
  have Ht1 := Lib.hid (Htx.out w1 h1)
  have S1 := Lib.hid s1
  clear h1 s1 Htx Hn
  go_wp2_with fail
  refine Ht1.out.mono ?_
  rintro e w2 ⟨rfl, h2, s2⟩
  have H2 := Lib.hid h2
  have S2 := Lib.hid (S1.out.trans s2)
  clear h2 s2 Ht1
  go_wp2_with fail
  refine (Hun.out w2).mono ?_
  rintro e w3 ⟨rfl, hb3⟩
  have h3 := H2.out.below hb3
  have s3 := S2.out.trans (Soft.ofBelow hb3)
  have Hn3 := Lib.hid (fun d => Hnl.out w3 d h3 (s3.glob Hg.out hB))
  have S3 := Lib.hid s3
  clear h3 s3 hb3 H2
  go_wp2_with fail
  refine (Hn3.out _).mono ?_
  rintro e w4 ⟨rfl, h4, s4⟩
  obtain ⟨c2, nf, hsm⟩ := h4.fil_at
  obtain ⟨av, ac, c1, hinc⟩ := h4.inc_at
  have hib := h4.ib_lt
  have hlk := hsm.look_ok Tryz.underlying48 (z := .string ⟨#[]⟩) (fun w => by kernel_rfl) nmB (by omega)
  rw [HF0.out] at hlk
  have hlk' : (Instr.lookup 48 (.map (some C.fb)) (.string (mkS nmB)) true).run Tryz.prog w4 = .ok (.tuple #[.string ⟨#[]⟩, .bool false]) w4 := hlk
  have H4 := Lib.hid h4
  have S4 := Lib.hid (S3.out.trans s4)
  have hBw4 : B ≤ w4.heap.size := Nat.le_trans hBw S4.out.size
  have HBw4 := Lib.hid hBw4
  have Hsm := Lib.hid hsm
  have Hinc := Lib.hid hinc
  obtain ⟨ln, hln⟩ : ∃ q, q = C.inc.length := ⟨_, rfl⟩
  rw [← hln] at c1 Hinc
  have Hln := Lib.hid hln
  have hst : DLp ln w4 ln (.int .i64 0) (.string ⟨#[]⟩) (.bool false) w4 := ⟨0, rfl, rfl, rfl, by omega, Below.refl _ _⟩
  have Hst := Lib.hid hst
  clear h4 s4 Hn3 hBw4 hsm hinc hln hlk hst
  go_wp2
  go_loopg [52, 5, 6] ln (fun n v52 v5 v6 wr => DLp ln w4 n v52 v5 v6 wr)
  case atStart => exact Hst.out
  case round =>
    clear Hst hlk'
    obtain ⟨i, rfl, rfl, rfl, hik, hbr⟩ := hrel
    have hkn : ln < 1000 := by have := Hln.out; omega
    rcases Nat.lt_or_ge i ln with hik2 | hge
    rotate_left
    · have hge2 : ¬ (i : Int) < (ln : Int) := by omega
      have HEd := Lib.hid (fun (x : ByteArray) (hx : x.size ≤ 1000) => HE.out wr x hx (H4.out.below hbr))
      have Sr := Lib.hid (S4.out.trans (Soft.ofBelow hbr))
      clear hbr
      go_wp2_with fail
      refine (HEd.out _ (by decide)).mono ?_
      rintro e w9 ⟨⟨g, rfl⟩, s9⟩
      have Hfin := Lib.hid (Sr.out.trans s9)
      clear s9
      go_wp2
      exact ⟨rfl, ⟨g, rfl⟩, Hfin.out⟩
    obtain ⟨d, hdi, hds, hdj, hjl⟩ := Hj.out i (by have := Hln.out; omega)
    obtain ⟨gi, rfl⟩ : ∃ gi, av = some ⟨gi, 0, none⟩ := by
      obtain ⟨_, ⟨e, e0⟩ | ⟨g, cap, cur, e, _⟩⟩ := Hinc.out
      · rw [← Hln.out] at e0; omega
      · cases e; exact ⟨g, rfl⟩
    have hgi : gi < w4.heap.size := (ownBlock_row Hinc.out gi rfl).2.lt
    have ki : w4.cell? ⟨gi, i, none⟩ = some (.string d) := by
      have := Hinc.out.cells (g := gi) rfl i (.string d) (by rw [List.getElem?_map, hdi]; rfl)
      rwa [Addr.add_lit, Nat.zero_add] at this
    have kr : wr.cell? ⟨gi, i, none⟩ = some (.string d) := (hbr.cell (p := ⟨gi, i, none⟩) hgi).trans ki
    have k2 : wr.cell? ⟨ib, 2, none⟩ = some (.map (some C.fb)) := (hbr.cell (p := ⟨ib, 2, none⟩) hib).trans c2
    have k2' : (wr.alloc (.cells #[.string d, .string (mkS nmB)] 9)).cell? ⟨ib, 2, none⟩ = some (.map (some C.fb)) := ((hbr.alloc hbr.size _).cell (p := ⟨ib, 2, none⟩) hib).trans c2
    have hlt : (i : Int) < (ln : Int) := by omega
    have Hbr := Lib.hid hbr
    have Hdj := Lib.hid hdj
    clear hbr hdi hdj ki
    have hjoin : ∀ m, Calls Tryz.prog 93 #[.slice (some ⟨wr.heap.size, 0, none⟩) 2 2] ((wr.drewN m).alloc (.cells #[.string d, .string (mkS nmB)] 9)) fun e w' => e = .returned (.string (mkS (jn i))) ∧ Below w4.heap.size w4 w' ∧ w'.cell? ⟨ib, 2, none⟩ = some (.map (some C.fb)) ∧ (Instr.lookup 48 (.map (some C.fb)) (.string (mkS (jn i))) true).run Tryz.prog w' = .ok (.tuple #[((C.F (jn i)).map Value.string).getD (.string ⟨#[]⟩), .bool ((C.F (jn i)).map Value.string).isSome]) w' := fun m => by
      have hB := Blk.lit (wr.drewN m) #[.string d, .string (mkS nmB)] 9
      have hbm : Below w4.heap.size w4 ((wr.drewN m).alloc (.cells #[.string d, .string (mkS nmB)] 9)) := (below_drewN Hbr.out m).alloc (below_drewN Hbr.out m).size _
      have hlens : Go.Lib.Pa.lens (([d, mkS nmB] : List ByteArray).map (·.data.toList)) + ([d, mkS nmB] : List ByteArray).length ≤ 281474976710656 := by
        have e1 : ([d, mkS nmB] : List ByteArray).map (·.data.toList) = [d.data.toList, nmB] := by simp [mkS]
        have e2 : d.data.toList.length = d.size := by rw [Array.length_toList]; rfl
        rw [e1]
        simp only [Go.Lib.Pa.lens, List.map_cons, List.map_nil, List.sum_cons, List.sum_nil, List.length_cons, List.length_nil]
        rw [e2]
        omega
      refine (path_join (wr.drewN m).heap.size 0 2 [d, mkS nmB] _ (fun j x hx => ?_) (by simp) hlens).mono ?_
      · rw [Nat.zero_add]
        have hj2 := (List.getElem?_eq_some_iff.1 hx).1
        simp at hj2
        obtain rfl | rfl : j = 0 ∨ j = 1 := by omega
        · simp at hx; subst hx; exact hB.cell_eq (i := 0) (by simp) (by rfl)
        · simp at hx; subst hx; exact hB.cell_eq (i := 1) (by simp) (by rfl)
      · rintro e w' ⟨rfl, hb⟩
        have hb' := hbm.trans (hb.mono hbm.size)
        refine ⟨?_, hb', (hb'.cell (p := ⟨ib, 2, none⟩) hib).trans c2, ?_⟩
        · have e1 : ([d, mkS nmB] : List ByteArray).map (·.data.toList) = [d.data.toList, nmB] := by simp [mkS]
          rw [e1, Hdj.out]
          rfl
        · exact (Hsm.out.of_heap (hb'.block _ Hsm.out.lt)).look_ok Tryz.underlying48 (z := .string ⟨#[]⟩) (fun w => by kernel_rfl) (jn i) (by omega)
    have e3 : IntKind.i64.wrap ((i : Int) + 1) = (i : Int) + 1 := IntWalk.i64_in _ (by omega)
    · rw [Hmiss.out i (by have := Hln.out; omega)] at hjoin
      have HJ := Lib.hid hjoin
      have hgk : gk - 1 < gk := by omega
      clear hjoin
      go_wp2_with fail
      go_region_held3 (fun w' => w'.cell? ⟨ib, 2, none⟩ = some (.map (some C.fb))) (first | exact k2 | exact k2' | assumption)
        (first
          | (go_at_call 93; refine (HJ.out _).mono ?_; rintro e w6 ⟨rfl, hb6, hc6, hl6⟩; have HB6 := Lib.hid hb6; clear hb6; simp only [Option.map_none, Option.getD_none, Option.isSome_none] at hl6))
      have hrel : DLp ln w4 (gk - 1) (.int .i64 ((i + 1 : Nat) : Int)) (.string ⟨#[]⟩) (.bool false) w6 := ⟨i + 1, rfl, rfl, rfl, by omega, HB6.out⟩
      have Hrel := Lib.hid hrel
      clear hrel
      go_wp2
      go_roundg (gk - 1)
      case measure => exact hgk
      case rel => exact Hrel.out
end
set_option maxRecDepth 100000 in
theorem sc_index (s : ByteArray) (c : Int) (w : World) :
    Calls Tryz.prog 134 #[.string s, .int .u8 c] w fun e w' => e = .returned (.int .i64 (Go.Lib.indexByte s.data.toList c.toNat.toUInt8)) ∧ w' = w := by
  go_enter Tryz.func134, Tryz.ntmps134
  go_wp2
  rw [run_callFunc_extern Tryz.func99 (by kernel_rfl) (by kernel_rfl) (by kernel_rfl) (e := Extern.BytealgIndexByte.indexByte) (by kernel_rfl), Go.Lib.run_indexByteString]
  simp only [Result.andThen]
  rw [Oper.upon_value]
  go_wp2
  go_ret
  exact ⟨rfl, rfl⟩
set_option maxRecDepth 100000 in
theorem sc_none (s : Bs) (c : UInt8) (h : c ∉ s) (w : World) :
    Calls Tryz.prog 135 #[.string (mkS s), .int .u8 (c.toNat : Int)] w fun e w' => e = .returned (.bool false) ∧ w' = w := by
  go_enter Tryz.func135, Tryz.ntmps135
  go_wp2_with fail
  refine (sc_index _ _ _).mono ?_
  rintro e w1 ⟨rfl, rfl⟩
  have hx : Go.Lib.indexByte (mkS s).data.toList ((c.toNat : Int).toNat.toUInt8) = -1 := by
    rw [show (mkS s).data.toList = s by simp [mkS], show ((c.toNat : Int).toNat.toUInt8) = c by simp]
    exact byteIdx_none h
  rw [hx]
  go_wp2
  go_ret
  exact ⟨rfl, rfl⟩

/-- Bytes below 128. -/
def VLoop (w : World) (n : Nat) (v : Value) (wr : World) : Prop := ∃ t : Bs, v = .string (mkS t) ∧ (∀ b ∈ t, b < 128) ∧ t.length < n ∧ t.length ≤ 9 ∧ ∃ m, wr = w.drewN m

set_option maxRecDepth 100000 in
set_option maxHeartbeats 2000000 in
theorem valid_short {x : Bs} (ha : ∀ b ∈ x, b < 128) (hl : x.length ≤ 9) (w : World) :
    Calls Tryz.prog 136 #[.string (mkS x)] w (fun e w' => e = .returned (.bool true) ∧ ∃ m, w' = w.drewN m) := by
  go_enter Tryz.func136, Tryz.ntmps136
  go_wp2
  go_loopg [0] (x.length + 1) (fun n v wr => VLoop w n v wr)
  case atStart => exact ⟨x, rfl, ha, by omega, hl, 0, rfl⟩
  case round =>
    obtain ⟨t, rfl, hta, htn, htl, m, rfl⟩ := hrel
    cases t with
    | nil =>
      go_wp2
      go_ret
      exact ⟨rfl, _, rfl⟩
    | cons c r =>
      have hc : c < 128 := hta c (by simp)
      have hs : (mkS (c :: r)).size = r.length + 1 := by rw [mkS_size]; rfl
      have h0 : (0 : Int) < ((r.length + 1 : Nat) : Int) := by omega
      have hr : r.length ≤ 8 := by simp at htl; omega
      have hx : (mkS (c :: r)).extract 1 (r.length + 1) = mkS r := by
        apply ByteArray.ext
        simp [mkS, ByteArray.data_extract]
      have hi : 0 < (mkS (c :: r)).size := by rw [hs]; omega
      have h128 : (((mkS (c :: r))[0]'hi).toNat : Int) < 128 := by
        have e : (mkS (c :: r))[0]'hi = c := rfl
        rw [e]
        have : c.toNat < 128 := hc
        omega
      have h8 : ¬ (8 : Int) < (r.length : Int) := by omega
      have hsr : (mkS r).size = r.length := mkS_size r
      have hta' : ∀ b ∈ r, b < 128 := fun b hb => hta b (by simp [hb])
      have hrel : ∀ k, VLoop w (gk - 1) (.string (mkS r)) (w.drewN k) := fun k => ⟨r, rfl, hta', by simp at htn; omega, by omega, k, rfl⟩
      have Hrel := Lib.hid hrel
      have hgk : gk - 1 < gk := by omega
      clear hta hta' hrel htn htl ha hl hc
      go_wp2
      go_roundg (gk - 1)
      case measure => exact hgk
      case rel => exact Hrel.out _

theorem str_no {x : Bs} (h : ∀ b ∈ x, isStr b = true) : (34 : UInt8) ∉ x ∧ (92 : UInt8) ∉ x ∧ (10 : UInt8) ∉ x ∧ ∀ b ∈ x, b < 128 := by
  refine ⟨fun hm => ?_, fun hm => ?_, fun hm => ?_, fun b hb => ?_⟩
  · have := h _ hm; revert this; decide
  · have := h _ hm; revert this; decide
  · have := h _ hm; revert this; decide
  · have := h b hb
    unfold isStr at this
    simp at this
    have h2 : b.toNat ≤ 126 := this.1.1.2
    show b.toNat < 128
    omega

set_option maxRecDepth 100000 in
set_option maxHeartbeats 2000000 in
theorem unquote_in {x : Bs} (hx : ∀ b ∈ x, isStr b = true) (hl : x.length ≤ 1000) (hv : ∀ w, Calls Tryz.prog 136 #[.string (mkS x)] w (fun e w' => e = .returned (.bool true) ∧ ∃ m, w' = w.drewN m)) (w : World) :
    Calls Tryz.prog 113 #[.string (mkS (34 :: (x ++ [34]))), .bool true] w (fun e w' => e = .returned (.tuple #[.string (mkS x), .string ⟨#[]⟩, .nilIface]) ∧ ∃ m, w' = w.drewN m) := by
  obtain ⟨n1, n2, n3, n4⟩ := str_no hx
  obtain ⟨d, hd⟩ : ∃ d, d = mkS (34 :: (x ++ [34])) := ⟨_, rfl⟩
  have hs : d.size = x.length + 2 := by rw [hd, mkS_size]; simp
  have hi : 0 < d.size := by rw [hs]; omega
  have h34 : (((d)[0]'hi).toNat : Int) = 34 := by subst hd; rfl
  have hk : (x ++ [(34 : UInt8)]).take (x.length + 1) = x ++ [34] := List.take_of_length_le (by simp)
  have e1 : d.extract 1 (x.length + 2) = mkS (x ++ [34]) := by
    rw [hd]
    apply ByteArray.ext
    simp [mkS, ByteArray.data_extract, hk]
  have e2 : d.extract 0 (x.length + 2) = d := by
    rw [hd]
    apply ByteArray.ext
    simp [mkS, ByteArray.data_extract, hk]
  have e3 : d.extract 1 (x.length + 1) = mkS x := by
    rw [hd]
    apply ByteArray.ext
    simp [mkS, ByteArray.data_extract]
  have e4 : d.extract (x.length + 2) (x.length + 2) = ⟨#[]⟩ := by
    apply ByteArray.ext
    simp [ByteArray.data_extract]
  have hidx : Go.Lib.indexByte (mkS (x ++ [34])).data.toList ((34 : Int).toNat.toUInt8) = ((x.length : Nat) : Int) := by
    rw [show (mkS (x ++ [34])).data.toList = x ++ 34 :: [] by simp [mkS]]
    exact index_at n1
  have h92 : ∀ w, Calls Tryz.prog 135 #[.string d, .int .u8 92] w fun e w' => e = .returned (.bool false) ∧ w' = w := fun w => hd ▸ sc_none (34 :: (x ++ [34])) 92 (by simp [n2]) w
  have h10 : ∀ w, Calls Tryz.prog 135 #[.string d, .int .u8 10] w fun e w' => e = .returned (.bool false) ∧ w' = w := fun w => hd ▸ sc_none (34 :: (x ++ [34])) 10 (by simp [n3]) w
  have H92 := Lib.hid h92
  have H10 := Lib.hid h10
  have Hv := Lib.hid hv
  obtain ⟨n, hn⟩ : ∃ n, n = x.length := ⟨_, rfl⟩
  rw [← hn] at hs e1 e2 e3 e4 hidx hl
  have ew : IntKind.i64.wrap ((n : Int) + 2) = (n : Int) + 2 := IntWalk.i64_in _ (by omega)
  have ew2 : IntKind.i64.wrap ((n : Int) + 2 - 1) = (n : Int) + 1 := by rw [IntWalk.i64_in _ (by omega)]; omega
  have hsx : (mkS x).size = n := by rw [mkS_size, hn]
  rw [← hd]
  clear hx n1 n2 n3 n4 hd hn hk h92 h10 hv
  go_enter Tryz.func113, Tryz.ntmps113
  change Code.wp _ _ _ _ (w.drewN 0)
  go_wp2_with fail
  refine (sc_index _ _ _).mono ?_
  rintro e w1 ⟨rfl, rfl⟩
  rw [hidx]
  go_wp2_with fail
  refine (H92.out _).mono ?_
  rintro e w2 ⟨rfl, rfl⟩
  go_wp2_with fail
  refine (H10.out _).mono ?_
  rintro e w3 ⟨rfl, rfl⟩
  go_wp2_with fail
  refine (Hv.out _).mono ?_
  rintro e w4 ⟨rfl, m4, rfl⟩
  go_wp2_with fail
  go_quiet (fail)
  rw [e4]
  go_wp2
  exact bodyPost_ret (v := .tuple #[.string (mkS x), .string ⟨#[]⟩, .nilIface]) (by simp [results, Tryz.results113, go_sem]) rfl ⟨rfl, m4 + nq, by simp [World.drewN, Nat.add_assoc]⟩

set_option maxRecDepth 100000 in
theorem unquote_of {x : Bs} (hx : ∀ b ∈ x, isStr b = true) (hl : x.length ≤ 1000) (hv : ∀ w, Calls Tryz.prog 136 #[.string (mkS x)] w (fun e w' => e = .returned (.bool true) ∧ ∃ m, w' = w.drewN m)) (w : World) :
    Calls Tryz.prog 92 #[.string (mkS (34 :: (x ++ [34])))] w (UnqQ x w) := by
  have H := Lib.hid (unquote_in hx hl hv w)
  clear hx hl hv
  go_enter Tryz.func92, Tryz.ntmps92
  go_wp2_with fail
  refine H.out.mono ?_
  rintro e w1 ⟨rfl, m, rfl⟩
  go_wp2
  go_ret2
  exact ⟨rfl, below_drewN (Below.refl _ _) _⟩
theorem unquote_any {x : Bs} (hx : ∀ b ∈ x, isStr b = true) (hl : x.length ≤ 9) (w : World) :
    Calls Tryz.prog 92 #[.string (mkS (34 :: (x ++ [34])))] w (UnqQ x w) :=
  unquote_of hx (by omega) (fun w => valid_short (str_no hx).2.2.2 hl w) w
def wdLays_ren : Go.Shelf.Ren := ⟨fun | 259 => 161 | n => n, fun | 5 => 5 | 9 => 9 | 12 => 12 | 46 => 90 | 53 => 91 | n => n, fun | n => n⟩
theorem wdLays : Go.Proofs.Lays.n259 Tryz.prog wdLays_ren := {
  mixed := by kernel_rfl
  f259 := Tryz.func161.trans (congrArg some (by kernel_rfl))
  t5 := Tryz.underlying5
  a5 := Tryz.isAgg5
  z5 := Tryz.sizeOf5
  v5 := Tryz.zeroValue5
  t9 := Tryz.underlying9
  a9 := Tryz.isAgg9
  z9 := Tryz.sizeOf9
  v9 := Tryz.zeroValue9
  t12 := Tryz.underlying12
  a12 := Tryz.isAgg12
  z12 := Tryz.sizeOf12
  v12 := Tryz.zeroValue12
  t46 := Tryz.underlying90
  a46 := Tryz.isAgg90
  z46 := Tryz.sizeOf90
  v46 := Tryz.zeroValue90
  t53 := Tryz.underlying91
  a53 := Tryz.isAgg91
  z53 := Tryz.sizeOf91
  v53 := Tryz.zeroValue91 }

theorem utf8_word (s : ByteArray) (w : World) (hs : 8 ≤ s.size) :
    Calls Tryz.prog 161 #[.string s] w fun e w' => e = .returned (.int .u64 (Go.Lib.leNat [s.get! 0, s.get! 1, s.get! 2, s.get! 3, s.get! 4, s.get! 5, s.get! 6, s.get! 7])) ∧ ∃ q, w' = w.drewN q := Any.utf8_word wdLays s w hs

def Msk (A : Nat) : Prop := A < 18446744073709551616 ∧ A &&& 9259542123273814144 = 0
theorem Msk.or {A B : Nat} (a : Msk A) (b : Msk B) : Msk (A ||| B) ∧ bits .or .u64 (A : Int) (B : Int) = ((A ||| B : Nat) : Int) :=
  ⟨⟨Nat.or_lt_two_pow (n := 64) a.1 b.1, (Go.Lib.or_mask A B _).2 ⟨a.2, b.2⟩⟩, u64_or_nat A B a.1 b.1⟩
theorem Msk.and {A : Nat} (a : Msk A) : bits .and .u64 (A : Int) 9259542123273814144 = 0 := by
  have h := u64_and_nat A 9259542123273814144 a.1 (by omega)
  rw [a.2] at h
  exact h
/-- Bytes below 128 alone. -/
def AscB (t : ByteArray) : Prop := ∀ b ∈ t.data.toList, b < 128
theorem asc_ext {t : ByteArray} (ha : AscB t) (k : Nat) : AscB (t.extract k t.size) := fun b hb => by
  rw [Go.Lib.ext_list] at hb
  exact ha b (List.mem_of_mem_drop hb)
theorem asc_head {t : ByteArray} (ha : AscB t) (h : 0 < t.size) : (t[0]'h).toNat < 128 := by
  have hm : (t[0]'h) ∈ t.data.toList := by
    show t.data[0]'h ∈ t.data.toList
    simp
  exact ha _ hm
theorem asc_word {t : ByteArray} (ha : AscB t) (hl : 8 ≤ t.size) : ∃ A : Nat, Msk A ∧ ∀ W, Calls Tryz.prog 161 #[.string t] W fun e w' => e = .returned (.int .u64 (A : Int)) ∧ ∃ q, w' = W.drewN q :=
  ⟨_, ⟨Go.Lib.word_lt t, (Go.Lib.word_asc t hl).2 (fun b hb => ha b (List.mem_of_mem_take hb))⟩, fun W => utf8_word t W hl⟩

def ULoop (w : World) (n : Nat) (v : Value) (wr : World) : Prop := ∃ t : ByteArray, v = .string t ∧ AscB t ∧ t.size < n ∧ t.size ≤ 64 ∧ ∃ m, wr = w.drewN m
theorem drew_more {w a : World} (h : ∃ m, a = w.drewN m) (q : Nat) : ∃ m, a.drewN q = w.drewN m := by
  obtain ⟨m, rfl⟩ := h
  exact ⟨m + q, World.drewN_drewN ..⟩

set_option maxRecDepth 1000000 in
set_option maxHeartbeats 16000000 in
theorem valid_asc {x : Bs} (ha : ∀ b ∈ x, b < 128) (hl : x.length ≤ 64) (w : World) :
    Calls Tryz.prog 136 #[.string (mkS x)] w (fun e w' => e = .returned (.bool true) ∧ ∃ m, w' = w.drewN m) := by
  have mixed : Tryz.prog.follows .mixedOrders = true := by kernel_rfl
  have hst : ULoop w (x.length + 1) (.string (mkS x)) w := ⟨mkS x, rfl, by intro b hb; exact ha b (by simpa [mkS] using hb), by rw [mkS_size]; omega, by rw [mkS_size]; exact hl, 0, rfl⟩
  have Hst := Lib.hid hst
  clear hst ha
  obtain ⟨s, hs⟩ : ∃ s, s = mkS x := ⟨_, rfl⟩
  rw [← hs] at Hst ⊢
  obtain ⟨N, hN⟩ : ∃ q, q = x.length + 1 := ⟨_, rfl⟩
  rw [← hN] at Hst
  clear hs hN hl
  go_enter Tryz.func136, Tryz.ntmps136
  go_wp2
  go_loopg [0] N (fun n v wr => ULoop w n v wr)
  case atStart => exact Hst.out
  case round =>
    clear Hst
    obtain ⟨t, rfl, hta, htn, htl, hd⟩ := hrel
    by_cases h0 : 0 < t.size
    · obtain ⟨g', rfl⟩ : ∃ g', gk = g' + 1 := ⟨gk - 1, by omega⟩
      have h0z : (0 : Int) < (t.size : Int) := by omega
      have hx0a := asc_head hta h0
      obtain ⟨x0, hx0⟩ : ∃ x0, t[0]'h0 = x0 := ⟨_, rfl⟩
      rw [hx0] at hx0a
      have hascz : (x0.toNat : Int) < 128 := by omega
      obtain ⟨t1, ht1⟩ : ∃ t1, t.extract 1 t.size = t1 := ⟨_, rfl⟩
      have z1 : t1.size + 1 = t.size := by rw [← ht1, Go.Lib.ext_size]; omega
      have a1 : AscB t1 := ht1 ▸ asc_ext hta 1
      clear hta hx0a
      by_cases c8 : 8 < t1.size
      · have c8z : (8 : Int) < (t1.size : Int) := by omega
        obtain ⟨A1, m1, cW1⟩ := asc_word a1 (by omega)
        have hand1 := m1.and
        obtain ⟨t2, ht2⟩ : ∃ t2, t1.extract 8 t1.size = t2 := ⟨_, rfl⟩
        have z2 : t2.size + 8 = t1.size := by rw [← ht2, Go.Lib.ext_size]; omega
        have a2 : AscB t2 := ht2 ▸ asc_ext a1 8
        have Ha2 := Lib.hid a2
        have Hd := Lib.hid hd
        clear m1 a1 a2 hd
        go_wp2_with (go_at_call 161; go_must (refine (cW1 _).mono ?_; rintro e W1 ⟨rfl, q1, rfl⟩))
        have Hd1 := Lib.hid (drew_more Hd.out q1)
        clear cW1 Hd
        generalize wr.drewN q1 = wq at Hd1 ⊢
        by_cases c16 : 16 < t2.size
        · have c16z : (16 : Int) < (t2.size : Int) := by omega
          have s8z : (8 : Int) ≤ (t2.size : Int) := by omega
          obtain ⟨t2b, ht2b⟩ : ∃ t2b, t2.extract 8 t2.size = t2b := ⟨_, rfl⟩
          have z2b : t2b.size + 8 = t2.size := by rw [← ht2b, Go.Lib.ext_size]; omega
          obtain ⟨A2, k2, cW2⟩ := asc_word Ha2.out (by omega)
          obtain ⟨A3, k3, cW3⟩ := asc_word (t := t2b) (ht2b ▸ asc_ext Ha2.out 8) (by omega)
          obtain ⟨k23, hor2⟩ := k2.or k3
          have hand2 := k23.and
          obtain ⟨O2, hO2⟩ : ∃ q, A2 ||| A3 = q := ⟨_, rfl⟩
          rw [hO2] at hor2 hand2
          obtain ⟨t3, ht3⟩ : ∃ t3, t2.extract 16 t2.size = t3 := ⟨_, rfl⟩
          have z3 : t3.size + 16 = t2.size := by rw [← ht3, Go.Lib.ext_size]; omega
          have Ha3 : Hid (AscB t3) := Lib.hid (ht3 ▸ asc_ext Ha2.out 16)
          clear k2 k3 k23 hO2 Ha2
          go_big_quiet_o (first | (go_at_call 161; with_reducible refine Calls.quiet_of (cW2 _)) | (go_at_call 161; with_reducible refine Calls.quiet_of (cW3 _)))
          have Hd2 := Lib.hid (drew_more Hd1.out nq)
          clear cW2 cW3 Hd1
          generalize wq.drewN nq = wq2 at Hd2 ⊢
          go_wp2
          go_loopg [0] (t3.size + 1) (fun g2 s0 wx => ∃ u : ByteArray, s0 = .string u ∧ AscB u ∧ u.size < g2 ∧ u.size ≤ t3.size ∧ ∃ m, wx = w.drewN m)
          case atStart => exact ⟨t3, rfl, Ha3.out, by omega, Nat.le_refl _, Hd2.out⟩
          case round =>
            obtain ⟨u, rfl, hua, hgu, hut, hdu⟩ := hrel
            have Hdu := Lib.hid hdu
            have Hua := Lib.hid hua
            clear hdu hua Hd2 Ha3
            by_cases c32 : 32 < u.size
            · obtain ⟨g3, rfl⟩ : ∃ g3, gk = g3 + 1 := ⟨gk - 1, by omega⟩
              have c32z : (32 : Int) < (u.size : Int) := by omega
              have s8u : (8 : Int) ≤ (u.size : Int) := by omega
              have s16u : (16 : Int) ≤ (u.size : Int) := by omega
              have s24u : (24 : Int) ≤ (u.size : Int) := by omega
              obtain ⟨ub, hub⟩ : ∃ ub, u.extract 8 u.size = ub := ⟨_, rfl⟩
              have zub : ub.size + 8 = u.size := by rw [← hub, Go.Lib.ext_size]; omega
              obtain ⟨uc, huc⟩ : ∃ uc, u.extract 16 u.size = uc := ⟨_, rfl⟩
              have zuc : uc.size + 16 = u.size := by rw [← huc, Go.Lib.ext_size]; omega
              obtain ⟨ud, hud⟩ : ∃ ud, u.extract 24 u.size = ud := ⟨_, rfl⟩
              have zud : ud.size + 24 = u.size := by rw [← hud, Go.Lib.ext_size]; omega
              obtain ⟨B0, n0, cB0⟩ := asc_word Hua.out (by omega)
              obtain ⟨B1, n1, cB1⟩ := asc_word (t := ub) (hub ▸ asc_ext Hua.out 8) (by omega)
              obtain ⟨B2, n2, cB2⟩ := asc_word (t := uc) (huc ▸ asc_ext Hua.out 16) (by omega)
              obtain ⟨B3, n3, cB3⟩ := asc_word (t := ud) (hud ▸ asc_ext Hua.out 24) (by omega)
              obtain ⟨n01, ho1⟩ := n0.or n1
              obtain ⟨n23, ho2⟩ := n2.or n3
              obtain ⟨n03, ho3⟩ := n01.or n23
              have hand3 := n03.and
              obtain ⟨P1, hP1⟩ : ∃ q, B0 ||| B1 = q := ⟨_, rfl⟩
              obtain ⟨P2, hP2⟩ : ∃ q, B2 ||| B3 = q := ⟨_, rfl⟩
              rw [hP1, hP2] at ho3 hand3
              rw [hP1] at ho1
              rw [hP2] at ho2
              obtain ⟨P3, hP3⟩ : ∃ q, P1 ||| P2 = q := ⟨_, rfl⟩
              rw [hP3] at ho3 hand3
              obtain ⟨u2, hu2⟩ : ∃ u2, u.extract 32 u.size = u2 := ⟨_, rfl⟩
              have zu2 : u2.size + 32 = u.size := by rw [← hu2, Go.Lib.ext_size]; omega
              have Hu2 : Hid (AscB u2) := Lib.hid (hu2 ▸ asc_ext Hua.out 32)
              clear n0 n1 n2 n3 n01 n23 n03 hP1 hP2 hP3 Hua
              go_wp2_with fail
              go_big_quiet_o (first | (go_at_call 161; with_reducible refine Calls.quiet_of (cB0 _)) | (go_at_call 161; with_reducible refine Calls.quiet_of (cB1 _)) | (go_at_call 161; with_reducible refine Calls.quiet_of (cB2 _)) | (go_at_call 161; with_reducible refine Calls.quiet_of (cB3 _)))
              go_wp2
              go_roundg g3
              case measure => omega
              case rel => exact ⟨u2, rfl, Hu2.out, by omega, by omega, drew_more Hdu.out nq⟩
            · have c32z : ¬ ((32 : Int) < (u.size : Int)) := by omega
              have c32b : decide ((32 : Int) < (u.size : Int)) = false := decide_eq_false c32z
              go_wp2_with fail
              go_big_quiet_o (fail)
              go_wp2
              go_roundg g'
              case measure => omega
              case rel => exact ⟨u, rfl, Hua.out, by omega, by omega, drew_more Hdu.out nq⟩
        · have c16z : ¬ ((16 : Int) < (t2.size : Int)) := by omega
          have c16b : decide ((16 : Int) < (t2.size : Int)) = false := decide_eq_false c16z
          go_big_quiet_o (fail)
          go_wp2
          go_roundg g'
          case measure => omega
          case rel => exact ⟨t2, rfl, Ha2.out, by omega, by omega, drew_more Hd1.out nq⟩
      · have c8z : ¬ ((8 : Int) < (t1.size : Int)) := by omega
        go_wp2
        go_roundg g'
        case measure => omega
        case rel => exact ⟨t1, rfl, a1, by omega, by omega, hd⟩
    · have h0z : ¬ ((0 : Int) < (t.size : Int)) := by omega
      go_wp2
      go_ret
      exact ⟨rfl, hd⟩

theorem unquote_long {x : Bs} (hx : ∀ b ∈ x, isStr b = true) (hl : x.length ≤ 64) (w : World) :
    Calls Tryz.prog 92 #[.string (mkS (34 :: (x ++ [34])))] w (UnqQ x w) :=
  unquote_of hx (by omega) (fun w => valid_asc (str_no hx).2.2.2 hl w) w
end Go.Proofs.YtpoimmpdncickaaGreatDoor

/- A file to include that is nowhere: told of lines, as lists. -/
namespace Go.Proofs.YtpoimmpdncickaaGreatDoor
open Go Go.RowKit Lex Go.Proofs.YtpoimmpdncickaaGreatDoorW.PrintWords Go.Proofs.YtpoimmpdncickaaGreatDoor.PHelp
set_option linter.unusedVariables false
set_option linter.unusedSimpArgs false

theorem die_incl {B ib : Nat} {C : Cfg} {ev : Value} {s : Sg} {nm : ByteArray} {rest : List Ab} {R : List (Int × Bs)} {mac : Bs → Option Mc} {ifs : List Bool} {mn : Nat} {q nmB : Bs} {jn : Nat → Bs}
    (h : At s nm rest ((35, [35]) :: (-2, kwInclude) :: (-6, q) :: (10, [10]) :: R) mac ifs mn) (hbol : s.bol = true) (hi : ifs.length < 1000) (ho : onB ifs = true) (hB : 21 ≤ B)
    (hun : ∀ w, Calls Tryz.prog 92 #[.string (mkS q)] w (UnqQ nmB w)) (hF0 : C.F nmB = none) (hj : ∀ i, i < C.inc.length → ∃ d : ByteArray, C.inc[i]? = some d ∧ d.size ≤ 1000 ∧ Go.Lib.Pa.joinL [d.data.toList, nmB] = jn i ∧ (jn i).length ≤ 5000) (hmiss : ∀ i, i < C.inc.length → C.F (jn i) = none) (hk : C.inc.length < 1000) (hxl : nmB.length ≤ 1000) : NxD B ib C ev 0 s :=
  die_hash h hbol (fun s1 ⟨a, h1, h0, h2, h3, h4⟩ hm hif w hH hg => by
    obtain ⟨L, hL, hI⟩ := hH
    obtain ⟨kt, T2, e2, hkk, hkx, h5⟩ := kx_cons h4
    obtain ⟨st, T3, e3, hsk, hsx, h6⟩ := kx_cons h5
    obtain ⟨nl, T4, e4, hnk, hnx, h7⟩ := kx_cons h6
    subst e4 e3
    have hsx' : st.x = q := hsx
    rw [h1, hif] at hI
    refine hash_include_die (C := { C with lim := L }) (dead := []) hI ho hi (by simp) e2 hkk hkx hL hg hB (by simp; omega) (fun w1 k1 k2 k3 => ?_)
    exact include_die (dead := []) (st := st) (nl := nl) (ts := T4) (nmB := nmB) (jn := jn) k1 (by simp) rfl hsk (by rw [hsx']; exact hun) hnk hF0 hj hmiss hk hxl k3 hB (by simp; omega))

/-- The file's name, the file. -/
def hName (name : Bs) : Bs := name ++ [46, 104]
def fileF (name : Bs) (before after : List Bs) : Bs := textB before ++ 10 :: incB (hName name) (textB after ++ 10 :: [])

set_option maxRecDepth 100000 in
theorem idc_str : ∀ n : Fin 256, isIdc (UInt8.ofNat n.val) = true → isStr (UInt8.ofNat n.val) = true ∧ UInt8.ofNat n.val ≠ 47 ∧ UInt8.ofNat n.val ≠ 46 := by decide
theorem idc_ok {c : UInt8} (h : isIdc c = true) : isStr c = true ∧ c ≠ 47 ∧ c ≠ 46 := by
  have := idc_str ⟨c.toNat, UInt8.toNat_lt c⟩
  simp only [UInt8.ofNat_toNat] at this
  exact this h
theorem PName.idc {w : Bs} (h : PName w) : ∀ b ∈ w, isIdc b = true := by
  obtain ⟨c, x, rfl, h1, h2⟩ := h
  intro b hb
  rcases List.mem_cons.1 hb with rfl | hb
  · unfold isIdc; simp [h1]
  · exact h2 b hb
theorem hName_str {name : Bs} (hn : PName name) : ∀ b ∈ hName name, isStr b = true := fun b hb => by
  rcases List.mem_append.1 hb with hb | hb
  · exact (idc_ok (hn.idc b hb)).1
  · simp at hb
    rcases hb with rfl | rfl <;> decide
theorem hName_elem {name : Bs} (hn : PName name) : Elem (hName name) := by
  have hlen : 3 ≤ (hName name).length := by
    obtain ⟨c, x, rfl, _, _⟩ := hn
    simp [hName]
  refine ⟨fun h => ?_, fun e => ?_, fun e => ?_, fun e => ?_⟩
  · rcases List.mem_append.1 h with hb | hb
    · exact (idc_ok (hn.idc _ hb)).2.1 rfl
    · revert hb; decide
  · rw [e] at hlen; simp at hlen
  · rw [e] at hlen; simp at hlen
  · rw [e] at hlen; simp at hlen
theorem hName_main {name : Bs} : hName name ≠ mainBs := fun h => by
  have h1 : (104 : UInt8) ∈ hName name := by simp [hName]
  rw [h] at h1
  revert h1
  decide

theorem file_told {name : Bs} {before after : List Bs} (hn : PName name) (hnl : name.length ≤ 60) (hb : ∀ w ∈ before, WordL w) (ha : ∀ w ∈ after, WordL w) (lb : before.length ≤ 20)
    (hun : ∀ w, Calls Tryz.prog 92 #[.string (mkS (34 :: (hName name ++ [34])))] w (UnqQ (hName name) w)) : DieT (yExp (fileF name before after)) (fileF name before after) := by
  have hbl : blanks [] := by intro b h; cases h
  have hlen : (hName name).length ≤ 62 := by simp [hName]; omega
  have hpc := pc_line hb (pc_inc (q := hName name) (hName_str hn) hlen (tail := textB after ++ 10 :: []) (by simpa using pc_line ha .nil [] hbl)) [] hbl
  obtain ⟨T, g1, g2⟩ := hpc.tl 1 1
  have hat := at_start (nm := mainName) g2
  obtain ⟨q1, s1, a1, a2, a3, a4⟩ := part_read (y := yExp (fileF name before after)) (fun w hx => ⟨hb w hx, rfl⟩) (by simp) rfl hat
  refine ⟨T, q1, s1, g1, a1, fun B ib C ev hB hF hi => ⟨0, ?_⟩, ?_, a1.kinds⟩
  · have hF0 : C.F (hName name) = none := by
      rw [hF]
      show tab [(mainBs, mkS (fileF name before after))] (fun _ => none) (hName name) = none
      simp [tab, hName_main]
    have hinc : C.inc = [dotName] := hi
    refine die_incl (jn := fun _ => hName name) a3 a4 (by simp) rfl hB hun hF0 (fun i h => ?_) (fun i h => hF0) (by rw [hinc]; simp) (by omega)
    rw [hinc] at h
    simp at h
    subst h
    exact ⟨dotName, by rw [hinc]; rfl, by decide, joinL_dot (hName_elem hn), by show (hName name).length ≤ 5000; omega⟩
  · have := congrArg List.length a2
    simp at this
    omega
section
variable {w : World} {ev : Value} {b0 : Bs} {l1 : List Bs} {A1 : Option Addr} {c1 : Nat} {l2 : List Bs} {A2 : Option Addr} {c2 : Nat}
set_option maxRecDepth 100000 in
set_option maxHeartbeats 4000000 in
theorem wrongfile_law (hr1 : Kd.C Kd.string w A1 (l1.map mkS).length (l1.map mkS)) (hc1 : (l1.map mkS).length ≤ c1) (hr2 : Kd.C Kd.string w A2 (l2.map mkS).length (l2.map mkS)) (hc2 : (l2.map mkS).length ≤ c2) (hg : Glob w ev) (hB : 21 ≤ w.heap.size) :
    Calls Tryz.prog 7 #[.string (mkS b0), .slice A1 (l1.map mkS).length c1, .slice A2 (l2.map mkS).length c2] w (LawQ w) := by
  have Hfin := Lib.hid (lawq_drewN w)
  have Hg := Lib.hid hg
  have s0 := mkS_size b0
  obtain ⟨n0, e0⟩ : ∃ n, n = b0.length := ⟨_, rfl⟩
  rw [← e0] at s0
  have N0 := Lib.hid e0
  obtain ⟨m1, e1⟩ : ∃ m, m = (l1.map mkS).length := ⟨_, rfl⟩
  have M1 := Lib.hid e1
  have R1 := Lib.hid hr1
  have C1 := Lib.hid hc1
  have q1 : m1 ≤ c1 := by rw [e1]; exact hc1
  rw [← e1]
  obtain ⟨m2, e2⟩ : ∃ m, m = (l2.map mkS).length := ⟨_, rfl⟩
  have M2 := Lib.hid e2
  have R2 := Lib.hid hr2
  have C2 := Lib.hid hc2
  have q2 : m2 ≤ c2 := by rw [e2]; exact hc2
  rw [← e2]
  clear hg e0 e1 e2 hr1 hc1 hr2 hc2
  go_enter Tryz.func7, Tryz.ntmps7
  change Code.wp _ _ _ _ (w.drewN 0)
  rcases Nat.lt_or_ge 2147483647 n0 with hz0 | hz0
  · go_wp2
    go_ret
    exact Hfin.out _
  obtain ⟨t1, z1, y1⟩ := fits_f (ws := l1)
  have g1 := gd_fits R1.out C1.out z1
  rw [← M1.out] at g1
  have G := Lib.hid g1
  have F1 := Lib.hid y1
  clear g1 z1 y1
  go_wp2_with fail
  refine (G.out _).mono ?_
  rintro e u1 ⟨rfl, j1, rfl⟩
  clear G
  cases t1 with
  | false => go_wp2; go_ret; exact Hfin.out _
  | true =>
  obtain ⟨t2, z2, y2⟩ := fits_f (ws := l2)
  have g2 := gd_fits R2.out C2.out z2
  rw [← M2.out] at g2
  have G := Lib.hid g2
  have F2 := Lib.hid y2
  clear g2 z2 y2
  go_wp2_with fail
  refine (G.out _).mono ?_
  rintro e u2 ⟨rfl, j2, rfl⟩
  clear G
  cases t2 with
  | false => go_wp2; go_ret; exact Hfin.out _
  | true =>
  obtain ⟨t1, z1, y1⟩ := line_f (F1.out (by first | rfl | trivial)).2 (F1.out (by first | rfl | trivial)).1
  have g1 := gd_line R1.out C1.out z1
  rw [← M1.out] at g1
  have G := Lib.hid g1
  have Y := Lib.hid y1
  clear g1 z1 y1
  go_wp2_with fail
  refine (G.out _).mono ?_
  rintro e u3 ⟨rfl, j3, rfl⟩
  clear G
  cases t1 with
  | false => go_wp2; go_ret; exact Hfin.out _
  | true =>
  have W1 : Hid (∀ x ∈ l1, WordL x) := Lib.hid (fun x hx => ((Y.out (by first | rfl | trivial)).1 x hx).word)
  have T1 : Hid (l1.length ≤ 20) := Lib.hid (Y.out (by first | rfl | trivial)).2
  clear Y
  obtain ⟨t2, z2, y2⟩ := line_f (F2.out (by first | rfl | trivial)).2 (F2.out (by first | rfl | trivial)).1
  have g2 := gd_line R2.out C2.out z2
  rw [← M2.out] at g2
  have G := Lib.hid g2
  have Y := Lib.hid y2
  clear g2 z2 y2
  go_wp2_with fail
  refine (G.out _).mono ?_
  rintro e u4 ⟨rfl, j4, rfl⟩
  clear G
  cases t2 with
  | false => go_wp2; go_ret; exact Hfin.out _
  | true =>
  have W2 : Hid (∀ x ∈ l2, WordL x) := Lib.hid (fun x hx => ((Y.out (by first | rfl | trivial)).1 x hx).word)
  have T2 : Hid (l2.length ≤ 20) := Lib.hid (Y.out (by first | rfl | trivial)).2
  clear Y
  obtain ⟨t0, z0, y0⟩ := plain_f b0 (by rw [← N0.out]; exact hz0)
  have G := Lib.hid (gd_plain (w := w) z0)
  have Y := Lib.hid y0
  clear z0 y0
  go_wp2_with fail
  refine (G.out _).mono ?_
  rintro e u5 ⟨rfl, j5, rfl⟩
  clear G
  cases t0 with
  | false => go_wp2; go_ret; exact Hfin.out _
  | true =>
  have X0 : Hid (PName b0) := Lib.hid (Y.out (by first | rfl | trivial)).2
  clear Y
  obtain ⟨te, heq⟩ : ∃ r, ((mkS b0).toList == ([109, 97, 105, 110] : List UInt8)) = r := ⟨_, rfl⟩
  cases te with
  | true => go_wp2; go_ret; exact Hfin.out _
  | false =>
  rcases Nat.lt_or_ge 60 n0 with h60 | h60_0
  · go_wp2
    go_ret
    exact Hfin.out _
  have hn0 : b0.length ≤ 60 := by rw [← N0.out]; exact h60_0
  have htl1 := textB_len l1 (fun x hx => (W1.out x hx).len)
  have hT1 := T1.out
  have g1 := gd_text R1.out C1.out (text_f (by omega) (fun x hx => (W1.out x hx).len))
  rw [← M1.out] at g1
  have htl2 := textB_len l2 (fun x hx => (W2.out x hx).len)
  have hT2 := T2.out
  have g2 := gd_text R2.out C2.out (text_f (by omega) (fun x hx => (W2.out x hx).len))
  rw [← M2.out] at g2
  have hx : (mkS (textB l1) ++ ⟨#[10, 35, 105, 110, 99, 108, 117, 100, 101, 32, 34]⟩ ++ mkS (b0) ++ ⟨#[46, 104, 34, 10]⟩ ++ mkS (textB l2) ++ ⟨#[10]⟩ : ByteArray) = mkS (fileF b0 l1 l2) := by
    have e0 : (⟨#[10, 35, 105, 110, 99, 108, 117, 100, 101, 32, 34]⟩ : ByteArray) = mkS [10, 35, 105, 110, 99, 108, 117, 100, 101, 32, 34] := rfl
    have e1 : (⟨#[46, 104, 34, 10]⟩ : ByteArray) = mkS [46, 104, 34, 10] := rfl
    have e2 : (⟨#[10]⟩ : ByteArray) = mkS [10] := rfl
    rw [e0, e1, e2]
    simp only [mkS_app]
    congr 1
    try simp [fileF, incB, hName, kwInclude]
  have hlen : (fileF b0 l1 l2).length ≤ 5000 := by
    unfold fileF incB hName
    simp only [List.length_cons, List.length_append, List.length_nil]
    have : kwInclude.length = 7 := rfl
    omega
  have hasc : ascii (fileF b0 l1 l2) := by
    unfold fileF incB hName
    exact ascii_app (ascii_text W1.out) (ascii_cons (by decide) (ascii_cons (by decide) (ascii_app (by unfold ascii; decide) (ascii_cons (by decide) (ascii_cons (by decide) (ascii_app (ascii_app X0.out.ascii (by unfold ascii; decide)) (ascii_cons (by decide) (ascii_cons (by decide) (ascii_app (ascii_text W2.out) (ascii_cons (by decide) (by intro b h; cases h)))))))))))
  have hhn : (hName b0).length ≤ 64 := by simp [hName]; omega
  have GF : Hid (∀ k, Calls Tryz.prog 21 #[.string (mkS (fileF b0 l1 l2))] (w.drewN k) (LawQ w)) := Lib.hid (fun k => by
    refine (fails_true (w := w.drewN k) (text := fileF b0 l1 l2) (file_told X0.out hn0 W1.out W2.out hT1 (unquote_long (hName_str X0.out) hhn)) hasc (by omega) (Hg.out.only (Only.ofBelow (below_drewN (Below.refl w.heap.size w) k)) (fun k hk e => by omega)) hB).mono ?_
    rintro e w' ⟨rfl, hb⟩
    exact ⟨rfl, (below_drewN (Below.refl _ _) k).trans hb⟩)
  obtain ⟨x1', hx1⟩ : ∃ x, x = mkS (textB l1) := ⟨_, rfl⟩
  have z1 : x1'.size = (textB l1).length := by rw [hx1, mkS_size]
  rw [← hx1] at g1 hx
  obtain ⟨p1, hp1⟩ : ∃ p, p = (textB l1).length := ⟨_, rfl⟩
  rw [← hp1] at z1 htl1
  have hp1' : p1 ≤ 1300 := by omega
  have G1 := Lib.hid g1
  obtain ⟨x2', hx2⟩ : ∃ x, x = mkS (textB l2) := ⟨_, rfl⟩
  have z2 : x2'.size = (textB l2).length := by rw [hx2, mkS_size]
  rw [← hx2] at g2 hx
  obtain ⟨p2, hp2⟩ : ∃ p, p = (textB l2).length := ⟨_, rfl⟩
  rw [← hp2] at z2 htl2
  have hp2' : p2 ≤ 1300 := by omega
  have G2 := Lib.hid g2
  have HX := Lib.hid hx
  clear g1 g2 hx hlen hasc hx1 hx2 hp1 hp2 htl1 htl2 hT1 hT2 hn0 hhn
  go_wp2_with fail
  refine (G1.out _).mono ?_
  rintro e v1 ⟨rfl, i1', rfl⟩
  go_wp2_with fail
  refine (G2.out _).mono ?_
  rintro e v2 ⟨rfl, i2', rfl⟩
  go_wp2_with fail
  rw [HX.out]
  refine (GF.out _).mono ?_
  rintro e w9 ⟨rfl, hb9⟩
  have Hend : Hid (LawQ w (.returned (.bool true)) w9) := Lib.hid ⟨rfl, hb9⟩
  clear hb9
  go_wp2
  go_ret
  exact Hend.out
end
end Go.Proofs.YtpoimmpdncickaaGreatDoor
