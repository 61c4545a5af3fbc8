/- ZZTokens and Expand of files without errors, and what laws make of them. -/
import Derived.Test.YtpoimmpdncickaaGreatDoorJ9
import Derived.Defers
import Derived.Recover
import Derived.Deep.AppendLies
import Derived.Test.YtpoimmpdncickaaGreatDoorJ10
/- ZZTokens: the tokens of a file behind macros, conditions and inclusions, where there is no error. -/
namespace Go.Proofs.YtpoimmpdncickaaGreatDoor
open Go Go.RowKit Lex
set_option linter.unusedVariables false
set_option linter.unusedSimpArgs false

/-- Tokens as cells. -/
def cellsZ (ts : List Fd) : List Value := ts.flatMap fun t => [.int .i32 t.k, .string (mkS t.x), .string t.nm, .int .i64 (t.line : Nat)]
theorem cellsZ_snoc (ts : List Fd) (t : Fd) : cellsZ (ts ++ [t]) = cellsZ ts ++ [.int .i32 t.k, .string (mkS t.x), .string t.nm, .int .i64 (t.line : Nat)] := by simp [cellsZ]

theorem infoZZ : (Tryz.prog.info? 52).map (fun i => (i.zero, i.size, i.bytes)) = some (some (.agg #[.int .i32 0, .string ⟨#[]⟩, .string ⟨#[]⟩, .int .i64 0]), 4, 48) := by kernel_rfl

theorem cellFour (w : World) (a b c d : Value) (T : TypeId) : ∀ j u, [a, b, c, d][j]? = some u → (w.alloc (.cells #[a, b, c, d] T)).cell? ((⟨w.heap.size, 0, none⟩ : Addr).add j) = some u := by
  intro j u h
  have hB := Blk.lit w #[a, b, c, d] T
  rw [Addr.add_lit, Nat.zero_add]
  have hj := (List.getElem?_eq_some_iff.1 h).1
  have hj2 : j < 4 := hj
  obtain rfl | rfl | rfl | rfl : j = 0 ∨ j = 1 ∨ j = 2 ∨ j = 3 := by omega
  · exact hB.cell_eq (i := 0) (by simp) (by simpa using h)
  · exact hB.cell_eq (i := 1) (by simp) (by simpa using h)
  · exact hB.cell_eq (i := 2) (by simp) (by simpa using h)
  · exact hB.cell_eq (i := 3) (by simp) (by simpa using h)

section
variable {w w' : World} {B ib : Nat} {C : Cfg} {s s' : Sg} {ab : List Ab} {mn : Nat} {mac : Bs → Option Mc} {ifs : List Bool} {bol : Bool} {text : Bs} {ev : Value} {E : Nat → Prop}

/-- Blocks of another type are written. -/
theorem Inp.far {T : TypeId} (hT : ¬ MT T ∧ T ≠ 4 ∧ T ≠ 116 ∧ T ≠ 120 ∧ T ≠ 9 ∧ T ≠ 129) (h : Inp w B ib C ab mn mac ifs bol text) (ho : Only E w w') (hE : ∀ k, E k → k < w.heap.size → Typed w k (· = T)) : Inp w' B ib C ab mn mac ifs bol text := by
  obtain ⟨S, rs, h⟩ := h
  have hty : ∀ {k : Nat} {P : TypeId → Prop}, Typed w k P → (¬ P T) → ¬ E k := fun {k P} ht h1 e => typed_ne ht (hE k e ht.lt) (fun U a b => h1 (b ▸ a)) rfl
  have hnt : ∀ k, E k → k < w.heap.size → ∀ U : TypeId, U ≠ T → ¬ Typed w k (· = U) := fun k e hk U hU ht => typed_ne ht (hE k e hk) (fun V a b => hU (a.symm.trans b)) rfl
  have hmap : ∀ {b n : Nat} {f : Bs → Option Value}, SMap w b n f → SMap w' b n f := fun hm => hm.of_heap (ho.block _ hm.lt (fun e => hm.not_typed (hE _ e hm.lt)))
  have hs : Stk w' B ib S rs := ⟨h.stk.blk.only ho (hty (h.stk.blk.typed (P := (· = 73)) rfl) (fun e => hT.1 (.inr (.inl e)))), h.stk.low, row_only h.stk.row ho (fun k e hk => hnt k e hk _ (fun x => hT.1 (.inr (.inr x.symm)))),
    fun r hr => Rd.only (h.stk.rds r hr) ho (fun k hk => hty (Rd.foot (h.stk.rds r hr) k hk).2 (fun e => hT.1 (.inl e))) (fun k e hk => hnt k e hk _ (fun x => hT.2.2.1 x.symm)), h.stk.apart⟩
  obtain ⟨f, m1, m2, m3⟩ := h.env.mcs
  obtain ⟨nf, hf⟩ := h.env.fis
  have hen : Env w' B S C mn mac ifs := ⟨row_only h.env.ifr ho (fun k e hk => hnt k e hk _ (fun x => hT.2.1 x.symm)), h.env.mcv, ⟨f, hmap m1, m2, fun x m hx => by
      obtain ⟨b, hb, hm⟩ := m3 x m hx
      exact ⟨b, hb, hm.only ho (fun k e hk => ⟨hnt k e hk _ (fun x => hT.2.2.2.1 x.symm), hnt k e hk _ (fun x => hT.2.2.1 x.symm), hnt k e hk _ (fun x => hT.2.2.2.2.1 x.symm)⟩)⟩⟩, h.env.mlow, h.env.fiv, ⟨nf, hmap hf⟩, h.env.ne, row_only h.env.inv ho (fun k e hk => hnt k e hk _ (fun x => hT.2.2.2.2.1 x.symm)), h.env.inl⟩
  refine ⟨S, rs, ⟨hs, h.abs, fun r hr => ?_, hen, h.s3, h.s6, h.s7, h.s8, h.s9⟩⟩
  obtain ⟨S2, hb, hn⟩ := h.nms r hr
  exact ⟨S2, hb.only ho (hty (hb.typed (P := (· = 129)) rfl) (fun e => hT.2.2.2.2.2 e)), hn⟩

theorem zz_far : ¬ MT 52 ∧ 52 ≠ 4 ∧ 52 ≠ 116 ∧ 52 ≠ 120 ∧ 52 ≠ 9 ∧ 52 ≠ 129 := by
  unfold MT RT; decide

set_option maxRecDepth 100000 in
theorem inInText (h : Inp w B ib C ab mn mac ifs bol text) : Calls Tryz.prog 35 #[.pointer (some ⟨ib, 0, none⟩)] w (fun e w' => e = .returned (.string (mkS text)) ∧ ∃ m, w' = w.drewN m) := by
  have c6 := h.c6.1
  clear h
  go_enter Tryz.func35, Tryz.ntmps35
  change Code.wp _ _ _ _ (w.drewN 0)
  go_wp2
  go_ret
  exact ⟨rfl, _, rfl⟩

theorem zzTokens_catch (p : Addr) (w : World) :
    CallsD Tryz.prog 29 #[.pointer (some p)] .returning w fun e u' w' => e = .returned (.tuple #[]) ∧ u' = .returning ∧ w' = w := by
  refine callsD_of_wpS Tryz.func29 rfl fun c₀ cs hu => ?_
  apply wpS_seq
  apply wpS_region
  simp [wpOpsS, go_sem, recoverD, hu, Tryz.ntmps29, Exit.thenS]
  apply wpS_seq
  apply wpS_region
  simp [wpOpsS, go_sem, Exit.thenS]
  refine wpS_cond (t := false) (by simp [Act.eval, Array.replicate]) ?_
  simp only [Bool.false_eq_true, if_false]
  refine wpS_of_wp (wp_skip ?_)
  cases c₀
  simp_all [bodyPostS, results, Tryz.results29]

theorem err_mt2 (bl : Bool) : ¬ MT2 bl 45 := by cases bl <;> (unfold MT2 MT RT; decide)
theorem zz_mt2 (bl : Bool) : ¬ MT2 bl 52 := by cases bl <;> (unfold MT2 MT RT; decide)

/-- What NewInput leaves: the input's first state. -/
def NewQ (B fb : Nat) (F : Bs → Option ByteArray) (inc : List ByteArray) (mn0 : Nat) (mac0 : Bs → Option Mc) (w : World) (e : Ending) (w' : World) : Prop :=
  ∃ ib mb, e = .returned (.pointer (some ⟨ib, 0, none⟩)) ∧ Held w' B ib ⟨0, true, mb, fb, F, dotName :: inc⟩ ⟨[], mn0, mac0, [], true, []⟩ ∧ Below w.heap.size w w' ∧ w.heap.size ≤ ib

/-- What ZZTokens leaves. -/
def ZTQ (l : List Fd) (w : World) (e : Ending) (w' : World) : Prop :=
  ∃ a n c, e = .returned (.tuple #[.slice a n c, .pointer none]) ∧ n = l.length ∧ w'.ownsRow 0 52 4 (.slice a n c) n (cellsZ l) ∧ Below w.heap.size w w'

def ZLoop (B ib nb : Nat) (C : Cfg) (s' : Sg) (l : List Fd) (w : World) (n : Nat) (v8 : Value) (wr : World) : Prop :=
  ∃ s1 l1 l2 a c dl, l = l1 ++ l2 ∧ n = l2.length ∧ dl = l1.length ∧ v8 = .slice a dl c ∧ wr.ownsRow B 52 4 (.slice a dl c) dl (cellsZ l1) ∧ Held wr B ib C s1 ∧ StT C.wy l2 s1 s' ∧ Below B w wr ∧ Blk wr nb 45 1 (fun i => [Value.pointer none].getD i undef)

set_option maxRecDepth 100000 in
set_option maxHeartbeats 8000000 in
theorem zzTokens_ok {fb nf mn0 mn' il ic dl dc : Nat} {ia da : Option Addr} {F : Bs → Option ByteArray} {inc : List ByteArray} {mac0 mac' : Bs → Option Mc} {nm' : ByteArray} {text : Bs} {ts : List Tok} {l : List Fd} {s' : Sg}
    (hf : SMap w fb nf (fun x => (F x).map Value.string)) (hF : F mainBs = some (mkS text)) (htl : TL text 1 1 ts) (ha : ascii text) (hlen : text.length < 900000)
    (hnew : ∀ w1, Below w.heap.size w w1 → Calls Tryz.prog 30 #[.string mainName, .map (some fb), .slice ia il ic, .slice da dl dc] w1 (NewQ w.heap.size fb F inc mn0 mac0 w1))
    (hst : StT ⟨true, F, dotName :: inc⟩ l ⟨[tzAb mainName ts], mn0, mac0, [], true, []⟩ s') (hend : At s' nm' [] [] mac' [] mn') (hl : l.length < 100000) (hg : Glob w ev) (hB : 21 ≤ w.heap.size) :
    Calls Tryz.prog 25 #[.string mainName, .map (some fb), .slice ia il ic, .slice da dl dc] w (ZTQ l w) := by
  have hmf : ∀ (fn : Fn) (first cap : Array Value) (w : World), (Instr.makeFunc fn first cap).run Tryz.prog w = .ok (.func fn first cap) w := fun _ _ _ _ => rfl
  have hb1 : Below w.heap.size w (w.alloc (.cells #[.pointer none] 45)) := (Below.refl _ _).alloc (Nat.le_refl _) _
  have hB1 := Blk.lit w #[.pointer none] 45
  have Hb1 := Lib.hid hb1
  have HB1 := Lib.hid hB1
  have Hf := Lib.hid hf
  have HF := Lib.hid hF
  have Htl := Lib.hid htl
  have Ha := Lib.hid ha
  have Hnew := Lib.hid (hnew _ hb1)
  have Hst := Lib.hid hst
  have Hend := Lib.hid hend
  have Hg := Lib.hid hg
  clear hb1 hB1 hf hF htl ha hnew hst hend hg
  go_enter_defers Tryz.func25, Tryz.ntmps25
  go_wp2_with fail
  obtain ⟨nb, hnb⟩ : ∃ nb, nb = w.heap.size := ⟨_, rfl⟩
  rw [← hnb] at HB1 ⊢
  have Hnb := Lib.hid hnb
  clear hnb
  generalize hw1 : w.alloc (.cells #[.pointer none] 45) = w1
  rw [hw1] at Hb1 HB1 Hnew
  clear hw1
  refine Hnew.out.mono ?_
  rintro e w2 ⟨ib, mb, rfl, hheld, hbel, hle⟩
  have hbel2 : Below w.heap.size w w2 := Hb1.out.trans (hbel.mono Hb1.out.size)
  have hf2 := Hf.out.of_heap (hbel2.block _ Hf.out.lt)
  have hlook := hf2.look Tryz.underlying48 (z := .string ⟨#[]⟩) (fun w => by kernel_rfl) mainBs (by decide)
  rw [HF.out] at hlook
  simp only [Option.map_some, Option.getD_some] at hlook
  have hlook' : (Instr.lookup 48 (.map (some fb)) (.string mainName) false).run Tryz.prog w2 = .ok (.string (mkS text)) w2 := hlook
  have hB2 : Blk w2 nb 45 1 (fun i => [Value.pointer none].getD i undef) := HB1.out.of_heap (hbel.block _ HB1.out.lt)
  have HHeld := Lib.hid hheld
  have Hbel2 := Lib.hid hbel2
  have HB2 := Lib.hid hB2
  have Hle := Lib.hid hle
  clear hheld hbel hbel2 hf2 hlook hB2 hle Hnew
  go_wp2_with fail
  refine newReader_any.mono ?_
  rintro e w3 ⟨rfl, rfl⟩
  have hb3 : Below w2.heap.size w2 (w2.alloc (.cells #[.string (mkS text), .int .i64 0, .int .i64 (-1)] 104)) := (Below.refl _ _).alloc (Nat.le_refl _) _
  have htok := newTok_any (w := w2.alloc (.cells #[.string (mkS text), .int .i64 0, .int .i64 (-1)] 104)) (B := w.heap.size) (rb := w2.heap.size) (ty := 63) (ra := some ⟨w2.heap.size, 0, none⟩) (nm := mainName) (text := text) (Nat.le_trans Hbel2.out.size hb3.size) ⟨Hbel2.out.size, .inr ⟨rfl, _, text, 0, -1, Blk.lit w2 _ _, rfl, rfl, rfl, by omega, rfl, by omega⟩⟩ (by simp) Ha.out (by omega)
  have Hb3 := Lib.hid hb3
  have Htok := Lib.hid htok
  clear hb3 htok hlook'
  go_wp2_with fail
  refine Htok.out.mono ?_
  rintro e w4 ⟨tz, sb, bb, rfl, hz, hpb, h1, h2, h3, hbel4⟩
  have hb4 : Below w2.heap.size w2 w4 := Hb3.out.trans (hbel4.mono Hb3.out.size)
  have hpush := inPush_tz HHeld.out hb4 hz hpb (Nat.le_trans Hb3.out.size h1) (Nat.le_trans Hb3.out.size h2) (Nat.le_refl _) Htl.out (by omega) (by simp)
  have Hpush := Lib.hid hpush
  have Hb4 := Lib.hid hb4
  clear hz hpb h1 h2 h3 hbel4 hb4 hpush Htok Hb3
  go_wp2_with fail
  refine Hpush.out.mono ?_
  rintro e w5 ⟨rfl, hheld, hs5⟩
  have hb5 : Below w.heap.size w w5 := (Hbel2.out.trans (Hb4.out.mono Hbel2.out.size)).trans (hs5.below (Nat.le_trans Hbel2.out.size Hb4.out.size))
  have hB5 : Blk w5 nb 45 1 (fun i => [Value.pointer none].getD i undef) := hs5.blk (HB2.out.of_heap (Hb4.out.block _ HB2.out.lt)) (err_mt2 _)
  have hst0 : ZLoop w.heap.size ib nb ⟨0, true, mb, fb, F, dotName :: inc⟩ s' l w l.length (.slice none 0 0) w5 :=
    ⟨_, [], l, none, 0, 0, rfl, rfl, rfl, rfl, World.ownsRow_nil _ _ _ _, hheld, Hst.out, hb5, hB5⟩
  have Hst0 := Lib.hid hst0
  clear hheld hs5 hb5 hB5 hst0 Hpush HHeld HB2 Hst Htl
  go_wp2
  go_loopg [8] l.length (fun n v8 wr => ZLoop w.heap.size ib nb ⟨0, true, mb, fb, F, dotName :: inc⟩ s' l w n v8 wr)
  case atStart => exact Hst0.out
  case round =>
    clear Hst0
    obtain ⟨s1, l1, l2, a, c, dl, hl12, rfl, hdl, rfl, hown, hH, hSt, hb, hBe⟩ := hrel
    have hgw : Glob wr ev := Hg.out.only (Only.ofBelow hb) (fun k hk e => by omega)
    cases hSt with
    | nil => as_aux_lemma =>
      obtain ⟨dead, a1, q1, q2, q3, q4, q5, q6, q7, q8, q9⟩ := Hend.out
      have Hnx := Lib.hid (next_eof hH q1 q3 (kx_nil q6) q4 q8 (by simp; omega) hgw hB)
      have Hown := Lib.hid hown
      have Hb := Lib.hid hb
      have HBe := Lib.hid hBe
      have Hl12 := Lib.hid hl12
      have Hdl := Lib.hid hdl
      clear hown hH hb hBe hgw q1 q2 q3 q4 q5 q6 q7 q8 q9 hl12 hdl
      go_wp2_with fail
      refine Hnx.out.mono ?_
      rintro e w6 ⟨rfl, _, hs6⟩
      have hb6 := HBe.out
      have hB6 : Blk w6 nb 45 1 (fun i => [Value.pointer none].getD i undef) := hs6.blk HBe.out (err_mt2 _)
      have k0 : w6.cell? ⟨nb, 0, none⟩ = some (.pointer none) := hB6.cell (i := 0) (by decide)
      have f0 := hB6.frozen 0
      have k1 : (w6.setCell ⟨nb, 0, none⟩ (.pointer none)).cell? ⟨nb, 0, none⟩ = some (.pointer none) := (hB6.set 0 (.pointer none)).cell_eq (by decide) (upd_same _ _ _)
      have hdl2 : dl = l.length := by rw [Hdl.out, Hl12.out]; simp
      have hll : l1 = l := by rw [Hl12.out]; simp
      have ho := (Only.refl (fun k => k = nb) w6).setCell (p := ⟨nb, 0, none⟩) (fun _ => rfl) (.pointer none)
      have hbw : Below w.heap.size w w6 := Hb.out.trans (hs6.below Hb.out.size)
      have hrow6 : w6.ownsRow w.heap.size 52 4 (.slice a dl c) dl (cellsZ l1) := hs6.row Hown.out (zz_mt2 _)
      have hfin : ZTQ l w (.returned (.tuple #[.slice a dl c, .pointer none])) (w6.setCell ⟨nb, 0, none⟩ (.pointer none)) := by
        refine ⟨a, dl, c, rfl, hdl2, ?_, ?_⟩
        · have h1 := ownsRow_low hrow6 (Nat.zero_le _)
          rw [hll] at h1
          exact row_only h1 ho (fun k e hk ht => typed_ne ht (e ▸ hB6.typed rfl) (fun T a b => by rw [a] at b; revert b; decide) rfl)
        · exact hbw.trans (ho.below hbw.size (fun k hk e => by have := Hnb.out; omega))
      have Hfin := Lib.hid hfin
      clear hb6 hB6 hdl2 hll ho hbw hrow6 hfin hs6 Hnx Hown Hb HBe
      go_wp2
      refine leaves_cons (f := 29) (args := #[.pointer (some ⟨nb, 0, none⟩)]) (by simp) (by simp [go_sem]) ?_
      refine (zzTokens_catch ⟨nb, 0, none⟩ _).mono ?_
      rintro e u' w'' ⟨rfl, rfl, rfl⟩
      simp [Leaves, settle, results, Tryz.results25, go_sem, k1]
      exact Hfin.out
    | @cons m _ k s2 a1 rest l3 _ hx hk hk1 hk2 hab hlen2 hSt => as_aux_lemma =>
      have hnx := next_in (C := ⟨0, true, mb, fb, F, dotName :: inc⟩) hH hx hgw hB
      have Hnx := Lib.hid hnx
      have Hown := Lib.hid hown
      have Hb := Lib.hid hb
      have HBe := Lib.hid hBe
      have Hl12 := Lib.hid hl12
      have Hdl := Lib.hid hdl
      have HSt := Lib.hid hSt
      have Hab := Lib.hid hab
      have hkb : (k == -1) = false := by simp [hk]
      clear hnx hown hH hb hBe hgw hl12 hdl hSt hab hx hk
      go_wp2_with fail
      refine Hnx.out.mono ?_
      rintro e w6 ⟨rfl, h6, s6⟩
      obtain ⟨L6, hL6, h6⟩ := h6
      rw [Hab.out] at h6
      have gdw : ∀ {fn : FuncId} {args : Array Value} {r : Value}, (∀ m, Calls Tryz.prog fn args (w6.drewN m) fun e w' => e = .returned r ∧ ∃ j, w' = (w6.drewN m).drewN j) → ∀ m, Calls Tryz.prog fn args (w6.drewN m) fun e w' => e = .returned r ∧ ∃ j, w' = w6.drewN j := fun h m => by
        refine (h m).mono ?_
        rintro e w' ⟨rfl, j, rfl⟩
        exact ⟨rfl, m + j, by simp [World.drewN, Nat.add_assoc]⟩
      have Htx := Lib.hid (gdw (fun m => inInText (h6.drewN m)))
      have Hfi := Lib.hid (gdw (fun m => inFile (h6.drewN m) hlen2))
      have Hli := Lib.hid (gdw (fun m => inLine (h6.drewN m) hlen2))
      have H6 := Lib.hid h6
      have S6 := Lib.hid s6
      clear h6 s6 gdw
      obtain ⟨nm, hnm⟩ : ∃ nm, nm = a1.nm := ⟨_, rfl⟩
      obtain ⟨ln, hln⟩ : ∃ ln, ln = a1.cur.line := ⟨_, rfl⟩
      rw [← hnm] at Hfi Hl12
      rw [← hln] at Hli Hl12
      clear hnm hln
      obtain ⟨i0, hi, hz0, hz1, hz2⟩ := info_parts infoZZ
      have hdl5 : dl < 100000 := by
        have h1 := congrArg List.length Hl12.out
        have h2 := Hdl.out
        simp at h1
        omega
      have hbw : Below w.heap.size w w6 := Hb.out.trans (S6.out.below Hb.out.size)
      have hbs := hbw.size
      have Hbw := Lib.hid hbw
      have hrow6 : w6.ownsRow w.heap.size 52 4 (.slice a dl c) dl (cellsZ l1) := S6.out.row Hown.out (zz_mt2 _)
      have HR : Hid (∀ j, (w6.drewN j).ownsRow w.heap.size 52 4 (.slice a dl c) dl (cellsZ l1)) := Lib.hid (fun j => ownsRow_only hrow6 (fun _ _ => rfl))
      have HNEWS : Hid (∀ j, ∀ i u, [Value.int .i32 k, .string (mkS s2.text), .string nm, .int .i64 (ln : Nat)][i]? = some u → ((w6.drewN j).alloc (.cells #[.int .i32 k, .string (mkS s2.text), .string nm, .int .i64 (ln : Nat)] 52)).cell? (Addr.add ⟨w6.heap.size, 0, none⟩ i) = some u) := Lib.hid (fun j => cellFour (w6.drewN j) _ _ _ _ _)
      have hB6 : Blk w6 nb 45 1 (fun i => [Value.pointer none].getD i undef) := S6.out.blk HBe.out (err_mt2 _)
      have HB6 := Lib.hid hB6
      clear hrow6 hbw hB6 HBe Hown Hb
      go_upto_region 7 with (fail)
      go_region_held3 (fun w' => True) (first | trivial | assumption)
        (first
          | (go_at_call 35; refine (Htx.out _).mono ?_; rintro e w7 ⟨rfl, j7, rfl⟩)
          | (go_at_call 36; refine (Hfi.out _).mono ?_; rintro e w7 ⟨rfl, j7, rfl⟩)
          | (go_at_call 37; refine (Hli.out _).mono ?_; rintro e w7 ⟨rfl, j7, rfl⟩)
          | (refine step_append_lies _ (by rfl) _ _ _ (by rfl) w.heap.size 52 i0 _ 4 48 Tryz.underlying44 hi hz0 hz1 hz2 rfl (by omega) (.slice a dl c) dl (cellsZ l1) (by rfl) ((HR.out _).alloc _) ⟨w6.heap.size, 0, none⟩ 1 1 [.int .i32 k, .string (mkS s2.text), .string nm, .int .i64 (ln : Nat)] (by rfl) (by rfl) (HNEWS.out _) (by simp [Value.oneCell']) (by omega) (by unfold maxLen; omega) (by omega) (by simp; omega) (w6.heap.size + 1) (by simp) ?_; intro g9 c9 w9 hown9 hgrow9 hat9 hlt9; have HOWN9 := Lib.hid hown9; have HGROW9 := Lib.hid hgrow9; clear hown9 hgrow9 hat9 hlt9))
      have hrel : ZLoop w.heap.size ib nb ⟨0, true, mb, fb, F, dotName :: inc⟩ s' l w l3.length (.slice (some ⟨g9, 0, none⟩) (dl + 1 : Nat) c9) w9 := by
        have hb7 : Below w6.heap.size w6 ((w6.drewN j7).alloc (.cells #[.int .i32 k, .string (mkS s2.text), .string nm, .int .i64 (ln : Nat)] 52)) := (below_drewN (Below.refl _ _) _).alloc (Nat.le_refl _) _
        have ho := (Only.refl (fun q => (Value.slice a dl c).ownBlock = some q) _).grown HGROW9.out (fun k hk _ => hk)
        have hty : ∀ q, (Value.slice a dl c).ownBlock = some q → w.heap.size ≤ q ∧ Typed ((w6.drewN j7).alloc (.cells #[.int .i32 k, .string (mkS s2.text), .string nm, .int .i64 (ln : Nat)] 52)) q (· = 52) := fun q hq => ownBlock_row ((HR.out j7).alloc _) q hq
        have h9 := ((H6.out).below hb7).far zz_far ho (fun q hq _ => (hty q hq).2)
        refine ⟨s2, l1 ++ [⟨k, s2.text, nm, ln⟩], l3, some ⟨g9, 0, none⟩, c9, dl + 1, by rw [Hl12.out]; simp, rfl, by simp [Hdl.out], rfl, by rw [cellsZ_snoc]; exact HOWN9.out, ⟨L6, Nat.le_trans hL6 (Nat.le_trans hb7.size ho.size), by rw [Hab.out]; exact h9⟩, HSt.out, ?_, ?_⟩
        · exact (Hbw.out.trans (hb7.mono hbs)).trans (ho.below (Nat.le_trans hbs hb7.size) (fun q hk e => by have := (hty q e).1; omega))
        · exact (HB6.out.of_heap (hb7.block _ HB6.out.lt)).only ho (fun e => typed_ne (hty _ e).2 ((HB6.out.of_heap (hb7.block _ HB6.out.lt)).typed rfl) (fun T a b => by rw [a] at b; revert b; decide) rfl)
      have Hrel := Lib.hid hrel
      clear hrel HOWN9 HGROW9
      go_wp2
      go_roundg l3.length
      case measure => simp
      case rel => exact Hrel.out
end
/-- Tokens, as the thin package has them, as cells. -/
def cellsE (ts : List Fd) : List Value := ts.flatMap fun t => [.int .i64 t.k, .string (mkS t.x), .string t.nm, .int .i64 (t.line : Nat)]
theorem cellsE_snoc (ts : List Fd) (t : Fd) : cellsE (ts ++ [t]) = cellsE ts ++ [.int .i64 t.k, .string (mkS t.x), .string t.nm, .int .i64 (t.line : Nat)] := by simp [cellsE]
theorem cellsZ_get : ∀ (ts : List Fd) (i : Nat) (t : Fd), ts[i]? = some t → (cellsZ ts)[4 * i]? = some (.int .i32 t.k) ∧ (cellsZ ts)[4 * i + 1]? = some (.string (mkS t.x)) ∧ (cellsZ ts)[4 * i + 2]? = some (.string t.nm) ∧ (cellsZ ts)[4 * i + 3]? = some (.int .i64 (t.line : Nat))
  | [], i, t, h => by simp at h
  | s :: r, 0, t, h => by
    simp at h; subst h
    exact ⟨rfl, rfl, rfl, rfl⟩
  | s :: r, i + 1, t, h => by
    have := cellsZ_get r i t (by simpa using h)
    rw [show 4 * (i + 1) = 4 * i + 4 by omega, show 4 * i + 4 + 1 = 4 * i + 1 + 4 by omega, show 4 * i + 4 + 2 = 4 * i + 2 + 4 by omega, show 4 * i + 4 + 3 = 4 * i + 3 + 4 by omega]
    exact this

theorem infoFd : (Tryz.prog.info? 54).map (fun i => (i.zero, i.size, i.bytes)) = some (some (.agg #[.int .i64 0, .string ⟨#[]⟩, .string ⟨#[]⟩, .int .i64 0]), 4, 48) := by kernel_rfl

def ExQ (l : List Fd) (w : World) (e : Ending) (w' : World) : Prop :=
  ∃ a n c, e = .returned (.tuple #[.slice a n c, .bool true]) ∧ n = l.length ∧ w'.ownsRow 0 54 4 (.slice a n c) n (cellsE l) ∧ Below w.heap.size w w'

def ELoop (l : List Fd) (w : World) (n : Nat) (v31 v10 : Value) (wr : World) : Prop :=
  ∃ i g cap, v31 = .int .i64 (i : Nat) ∧ v10 = .slice (some ⟨g, 0, none⟩) i cap ∧ wr.ownsRow w.heap.size 54 4 (.slice (some ⟨g, 0, none⟩) i cap) i (cellsE (l.take i)) ∧ i + n = l.length ∧ Below w.heap.size w wr

section
variable {w : World} {ev : Value}

set_option maxRecDepth 100000 in
set_option maxHeartbeats 8000000 in
theorem expand_ok {g cap mn0 mn' il ic dl dc : Nat} {ia da : Option Addr} {inc : List ByteArray} {mac0 mac' : Bs → Option Mc} {nm' : ByteArray} {text : Bs} {ts : List Tok} {l : List (Bs × ByteArray)} {fl : List Fd} {s' : Sg}
    (hr : Files w g cap ((mainBs, mkS text) :: l)) (hnm : ∀ p ∈ l, p.1.length ≤ 1000000) (hll : l.length < 900) (hF : tab ((mainBs, mkS text) :: l) (fun _ => none) mainBs = some (mkS text)) (htl : TL text 1 1 ts) (ha : ascii text) (hlen : text.length < 900000)
    (hnew : ∀ w0 w1 fb nf, Below w.heap.size w w0 → SMap w0 fb nf (tabV ((mainBs, mkS text) :: l)) → Below w0.heap.size w0 w1 → Calls Tryz.prog 30 #[.string mainName, .map (some fb), .slice ia il ic, .slice da dl dc] w1 (NewQ w0.heap.size fb (tab ((mainBs, mkS text) :: l) (fun _ => none)) inc mn0 mac0 w1))
    (hst : StT ⟨true, tab ((mainBs, mkS text) :: l) (fun _ => none), dotName :: inc⟩ fl ⟨[tzAb mainName ts], mn0, mac0, [], true, []⟩ s') (hend : At s' nm' [] [] mac' [] mn') (hfl : fl.length < 100000) (hfk : ∀ f ∈ fl, -1000000 ≤ f.k ∧ f.k < 1000000) (hg : Glob w ev) (hB : 21 ≤ w.heap.size) :
    Calls Tryz.prog 18 #[.slice (some ⟨g, 0, none⟩) (l.length + 1 : Nat) cap, .slice ia il ic, .slice da dl dc] w (ExQ fl w) := by
  have hgl : g < w.heap.size := (ownBlock_row hr g rfl).2.lt
  have hlen2 : l.length + 1 ≤ cap := by
    obtain ⟨_, ⟨e, _⟩ | ⟨g', cap', cur, e, _, _, h1, h2⟩⟩ := hr
    · cases e
    · cases e; simpa using h1
  obtain ⟨L, hL⟩ : ∃ L, L = l.length + 1 := ⟨_, rfl⟩
  have k0 : w.cell? ⟨g, 0, none⟩ = some (.string mainName) := hr.cells (g := g) rfl 0 _ rfl
  rw [← hL] at hlen2 ⊢
  have htab : ∀ k, Calls Tryz.prog 26 #[.slice (some ⟨g, 0, none⟩) L cap] (w.drewN k) (TabQ ((mainBs, mkS text) :: l) (w.drewN k)) := fun k => by
    have h := tableOf_any (w := w.drewN k) (l := (mainBs, mkS text) :: l) (g := g) (cap := cap) (ownsRow_only hr (fun _ _ => rfl)) (fun p hp => by
      rcases List.mem_cons.1 hp with e | hp
      · rw [e]; exact (by decide : mainBs.length ≤ 1000000)
      · exact hnm p hp) (by simp; omega)
    rwa [show ((mainBs, mkS text) :: l).length = L from hL.symm] at h
  have hzz : ∀ w0 fb, Below w.heap.size w w0 → SMap w0 fb L (tabV ((mainBs, mkS text) :: l)) → Calls Tryz.prog 25 #[.string mainName, .map (some fb), .slice ia il ic, .slice da dl dc] w0 (ZTQ fl w0) := fun w0 fb hb hm =>
    zzTokens_ok hm hF htl ha hlen (fun w1 h1 => hnew w0 w1 fb L hb hm h1) hst hend hfl (hg.only (Only.ofBelow hb) (fun k hk e => by omega)) (Nat.le_trans hB hb.size)
  have Htab := Lib.hid htab
  have Hzz := Lib.hid hzz
  have Hfk := Lib.hid hfk
  have HL := Lib.hid hL
  have hL1 : 1 ≤ L ∧ L < 901 := by omega
  have hL2 : (((L : Nat) : Int) == 0) = false := by simp; omega
  have hL3 : (0 : Int) < (L : Int) := by omega
  have hL4 : 0 < L := by omega
  clear hr hnm hF htl ha hnew hst hend hfk hg htab hzz hL
  go_enter Tryz.func18, Tryz.ntmps18
  go_wp2_with fail
  go_region_held3 (fun w' => w'.cell? ⟨g, 0, none⟩ = some (.string mainName)) (first | exact k0 | assumption)
    (first
      | (go_at_call 26; refine (Htab.out _).mono ?_; rintro e w1 ⟨fb, rfl, hfm, hfb, hbel⟩; have hd0 : w1.cell? ⟨g, 0, none⟩ = some (.string mainName) := (hbel.cell (p := ⟨g, 0, none⟩) hgl).trans k0; have HBel : Hid (Below w.heap.size w w1) := Lib.hid ⟨hbel.os, hbel.tape, hbel.output, hbel.size, hbel.block⟩; have HFM : Hid (SMap w1 fb L (tabV ((mainBs, mkS text) :: l))) := Lib.hid (HL.out ▸ hfm); clear hfm hfb hbel)
      | (go_at_call 25; refine (Hzz.out _ _ HBel.out HFM.out).mono ?_; rintro e w2 ⟨za, zn, zc, rfl, hzn, hz, hb2⟩; have HZ := Lib.hid hz; have HB2 : Hid (Below w.heap.size w w2) := Lib.hid (HBel.out.trans (hb2.mono HBel.out.size)); have HZN := Lib.hid hzn; have hd2 : w2.cell? ⟨g, 0, none⟩ = some (.string mainName) := (HB2.out.cell (p := ⟨g, 0, none⟩) hgl).trans k0; clear hz hb2 hzn))
  clear Htab Hzz HFM HBel k0 hd0 hd2
  have hst : ELoop fl w2 zn (.int .i64 0) (.slice (some ⟨w2.heap.size, 0, none⟩) 0 0) (w2.alloc (.cells #[] 54)) :=
    ⟨0, _, _, rfl, rfl, ⟨rfl, .inr ⟨w2.heap.size, 0, _, rfl, Nat.le_refl _, heap_alloc_new w2 _, Nat.le_refl _, by unfold maxLen; omega, rfl, rfl⟩⟩, by have := HZN.out; omega, (Below.refl _ _).alloc (Nat.le_refl _) _⟩
  have Hst := Lib.hid hst
  clear hst
  have hzn5 : zn < 100000 := by have := HZN.out; omega
  go_wp2
  generalize hw3 : w2.alloc (.cells #[] 54) = w3
  rw [hw3] at Hst
  clear hw3
  obtain ⟨i0, hi, hz0, hz1, hz2⟩ := info_parts infoFd
  go_loopg [31, 10] zn (fun n v31 v10 wr => ELoop fl w2 n v31 v10 wr)
  case atStart => exact Hst.out
  case round =>
    clear Hst
    obtain ⟨i, gg, cc, rfl, rfl, hrow, hin, hbr⟩ := hrel
    have hzn := HZN.out
    rcases Nat.lt_or_ge i zn with hlt | hge
    · obtain ⟨t, ht⟩ : ∃ t, fl[i]? = some t := ⟨fl[i]'(by omega), List.getElem?_eq_getElem _⟩
      obtain ⟨gt, rfl⟩ : ∃ gt, za = some ⟨gt, 0, none⟩ := by
        obtain ⟨_, ⟨e, e0⟩ | ⟨g, cap, cur, e, _⟩⟩ := HZ.out
        · omega
        · cases e; exact ⟨g, rfl⟩
      have hgt : gt < w2.heap.size := (ownBlock_row HZ.out gt rfl).2.lt
      have hcap : zn ≤ zc := by
        obtain ⟨_, ⟨e, e0⟩ | ⟨g, cap, cur, e, _, _, h3, _⟩⟩ := HZ.out
        · cases e
        · cases e; exact h3
      obtain ⟨q0, q1, q2, q3⟩ := cellsZ_get fl i t ht
      have k0 := HZ.out.cells (g := gt) rfl (4 * i) _ q0
      have k1 := HZ.out.cells (g := gt) rfl (4 * i + 1) _ q1
      have k2 := HZ.out.cells (g := gt) rfl (4 * i + 2) _ q2
      have k3 := HZ.out.cells (g := gt) rfl (4 * i + 3) _ q3
      rw [Addr.add_lit, Nat.zero_add, Nat.mul_comm, ← hbr.cell (p := ⟨gt, i * 4, none⟩) hgt] at k0
      rw [Addr.add_lit, Nat.zero_add, Nat.mul_comm, ← hbr.cell (p := ⟨gt, i * 4 + 1, none⟩) hgt] at k1
      rw [Addr.add_lit, Nat.zero_add, Nat.mul_comm, ← hbr.cell (p := ⟨gt, i * 4 + 2, none⟩) hgt] at k2
      rw [Addr.add_lit, Nat.zero_add, Nat.mul_comm, ← hbr.cell (p := ⟨gt, i * 4 + 3, none⟩) hgt] at k3
      have hkb := Hfk.out t (List.mem_of_getElem? ht)
      have e1 : IntKind.i64.wrap t.k = t.k := IntWalk.i64_in _ (by omega)
      have hlt2 : (i : Int) < (zn : Int) := by omega
      have Hrow := Lib.hid hrow
      have Hbr := Lib.hid hbr
      have Hin := Lib.hid hin
      have Ht := Lib.hid ht
      have hi1 : i < 100000 := by omega
      clear hrow hbr hin ht q0 q1 q2 q3 hkb hzn
      go_wp2_with (at_builtin; refine wpList_append_own _ rfl _ _ 34 rfl w2.heap.size 54 i0 (.agg #[.int .i64 0, .string ⟨#[]⟩, .string ⟨#[]⟩, .int .i64 0]) 4 48 Tryz.underlying34 hi hz0 hz1 hz2 rfl (by decide) _ _ _ rfl ((Hrow.out.alloc _).alloc _) ⟨wr.heap.size + 1, 0, none⟩ 1 1 [.int .i64 t.k, .string (mkS t.x), .string t.nm, .int .i64 (t.line : Nat)] rfl rfl ?c1 ?c2 ?c3 ?c4 ?c5 ?_)
      case c1 =>
        have h1 := cellFour (wr.alloc (.cells #[.int .i32 t.k, .string (mkS t.x), .string t.nm, .int .i64 (t.line : Nat)] 52)) (.int .i64 t.k) (.string (mkS t.x)) (.string t.nm) (.int .i64 (t.line : Nat)) 54
        rw [show (wr.alloc (.cells #[.int .i32 t.k, .string (mkS t.x), .string t.nm, .int .i64 (t.line : Nat)] 52)).heap.size = wr.heap.size + 1 by simp] at h1
        exact h1
      case c2 => intro u hu; simp at hu; rcases hu with rfl | rfl | rfl | rfl <;> rfl
      case c3 => unfold maxLen; omega
      case c4 => omega
      case c5 => have := Hbr.out.size; simp; omega
      intro v' w5 hown5 hgrow _
      obtain ⟨g9, c9, rfl⟩ : ∃ g9 c9, v' = .slice (some ⟨g9, 0, none⟩) (i + 1) c9 := by
        obtain ⟨_, ⟨_, h0⟩ | ⟨g, cap, cur, e, _⟩⟩ := hown5
        · omega
        · exact ⟨g, cap, e⟩
      have hrel : ELoop fl w2 (gk - 1) (.int .i64 ((i + 1 : Nat) : Int)) (.slice (some ⟨g9, 0, none⟩) (i + 1 : Nat) c9) w5 := by
        have hb1 : Below w2.heap.size w2 ((wr.alloc (.cells #[.int .i32 t.k, .string (mkS t.x), .string t.nm, .int .i64 (t.line : Nat)] 52)).alloc (.cells #[.int .i64 t.k, .string (mkS t.x), .string t.nm, .int .i64 (t.line : Nat)] 54)) := (Hbr.out.alloc Hbr.out.size _).alloc (by have := Hbr.out.size; simp; omega) _
        have hgg := (ownBlock_row Hrow.out gg rfl).1
        have e2 : fl.take (i + 1) = fl.take i ++ [t] := by rw [List.take_add_one, Ht.out]; rfl
        refine ⟨i + 1, g9, c9, rfl, rfl, by rw [e2, cellsE_snoc]; exact hown5, by have := Hin.out; have := HZN.out; omega, hb1.trans ⟨hgrow.os, hgrow.tape, hgrow.output, hgrow.size, fun k hk => hgrow.block k (by have := hb1.size; omega) (fun e => by simp [Value.ownBlock] at e; omega)⟩⟩
      have Hrel := Lib.hid hrel
      have hgk : gk - 1 < gk := by have := Hin.out; have := HZN.out; omega
      have e3 : IntKind.i64.wrap ((i : Int) + 1) = (i : Int) + 1 := IntWalk.i64_in _ (by omega)
      clear hrel hown5 hgrow
      go_wp2
      go_roundg (gk - 1)
      case measure => exact hgk
      case rel => exact Hrel.out
    · have e : i = zn := by omega
      have hlt2 : ¬ (i : Int) < (zn : Int) := by omega
      have hfin : ExQ fl w (.returned (.tuple #[.slice (some ⟨gg, 0, none⟩) i cc, .bool true])) wr := by
        refine ⟨_, i, _, rfl, by omega, ?_, HB2.out.trans (hbr.mono HB2.out.size)⟩
        have h1 := ownsRow_low hrow (Nat.zero_le _)
        rwa [show fl.take i = fl by rw [e, hzn, List.take_length]] at h1
      have Hfin := Lib.hid hfin
      clear hrow hbr hin hfin e hge
      go_wp2
      go_ret2
      exact Hfin.out
end
end Go.Proofs.YtpoimmpdncickaaGreatDoor

/- Equal lists of texts. -/
namespace Go.Proofs.YtpoimmpdncickaaGreatDoor
open Go Go.RowKit Lex Go.Proofs.YtpoimmpdncickaaGreatDoorW.PrintWords Go.Proofs.YtpoimmpdncickaaGreatDoor.PHelp
set_option linter.unusedVariables false
set_option linter.unusedSimpArgs false

section
variable {ws : List Bs}
theorem texts_f (hl : ws.length ≤ 1000000) : Ev (fun k => spec_SameTexts.f k (ws.map mkS) (ws.map mkS)) true := by
  have H : ∀ d i : Nat, ws.length - i ≤ d → i ≤ ws.length → Ev (fun k => spec_SameTexts.l0 k (ws.map mkS) (ws.map mkS) ((ws.map mkS).length : Int) (i : Int)) true := by
    have hend : Ev (fun k => spec_SameTexts.l0 k (ws.map mkS) (ws.map mkS) ((ws.map mkS).length : Int) (ws.length : Int)) true := by
      refine Ev.step (f := fun _ => some true) (fun k => ?_) (Ev.now _)
      simp only [spec_SameTexts.l0]
      rw [if_neg (by rw [List.length_map]; omega)]
    intro d
    induction d with
    | zero =>
      intro i hd hi
      obtain rfl : i = ws.length := by omega
      exact hend
    | succ d ih =>
      intro i hd hi
      rcases Nat.lt_or_ge i ws.length with hlt | hge
      · refine Ev.step (fun k => ?_) (ih (i + 1) (by omega) (by omega))
        simp only [spec_SameTexts.l0]
        rw [if_pos (by rw [List.length_map]; omega), if_pos (by omega), if_pos (by rw [List.length_map]; omega), if_pos (by rw [List.length_map]; omega), w64 (by omega)]
        simp only [if_true]
        rfl
      · obtain rfl : i = ws.length := by omega
        exact hend
  refine Ev.congr (fun k => ?_) (H _ 0 (Nat.le_refl _) (Nat.zero_le _))
  unfold spec_SameTexts.f
  rw [if_pos rfl]
  rfl

end
/-- A told token, as the thin package has it. -/
def sFd (f : Fd) : S54 := ⟨f.k, mkS f.x, f.nm, (f.line : Int)⟩
/-- The texts that are shown. -/
def isShown (k : Int) : Bool := !(k == 10) && !(k == 35) && !(k == -1004) && !(k == -1)
def shown (l : List (Int × Bs)) : List Bs := (l.filter fun f => isShown f.1).map Prod.snd
theorem shown_app (a b : List (Int × Bs)) : shown (a ++ b) = shown a ++ shown b := by simp [shown]
theorem shown_cons (a : Int × Bs) (b : List (Int × Bs)) : shown (a :: b) = (if isShown a.1 then [a.2] else []) ++ shown b := by
  unfold shown
  cases h : isShown a.1 <;> simp [h]

theorem rd_found {l : List S54} {i : Nat} {x : S54} (h : l[i]? = some x) : rd_T54 l (i : Int) = x := by
  unfold rd_T54
  rw [List.getD_eq_getElem?_getD]
  simp [h]

theorem shown_f (l : List Fd) (hl : l.length ≤ 1000000) : Ev (fun k => spec_Shown.f k (l.map sFd)) ((shown (l.map Fd.kx)).map mkS) := by
  have H : ∀ d i : Nat, l.length - i ≤ d → i ≤ l.length → Ev (fun k => spec_Shown.l0 k ((shown ((l.take i).map Fd.kx)).map mkS) (l.map sFd) ((l.map sFd).length : Int) (i : Int)) ((shown (l.map Fd.kx)).map mkS) := by
    have hend : Ev (fun k => spec_Shown.l0 k ((shown ((l.take l.length).map Fd.kx)).map mkS) (l.map sFd) ((l.map sFd).length : Int) (l.length : Int)) ((shown (l.map Fd.kx)).map mkS) := by
      refine Ev.step (f := fun _ => some _) (fun k => ?_) (Ev.now _)
      simp only [spec_Shown.l0]
      rw [if_neg (by rw [List.length_map]; omega), List.take_length]
    intro d
    induction d with
    | zero =>
      intro i hd hi
      obtain rfl : i = l.length := by omega
      exact hend
    | succ d ih =>
      intro i hd hi
      rcases Nat.lt_or_ge i l.length with hlt | hge
      · obtain ⟨f, hf⟩ : ∃ f, l[i]? = some f := ⟨l[i], List.getElem?_eq_getElem hlt⟩
        have hm : (l.map sFd)[i]? = some (sFd f) := by rw [List.getElem?_map, hf]; rfl
        have htk : shown ((l.take (i + 1)).map Fd.kx) = shown ((l.take i).map Fd.kx) ++ (if isShown f.k then [f.x] else []) := by
          rw [List.take_add_one, hf, List.map_append, shown_app]
          congr 1
          show shown [f.kx] = _
          rw [shown_cons]
          show (if isShown f.k then [f.x] else []) ++ [] = _
          rw [List.append_nil]
        have hll : ((shown ((l.take i).map Fd.kx)).map mkS).length < 8796093022208 := by
          have h1 := List.length_filter_le (fun f : Int × Bs => isShown f.1) ((l.take i).map Fd.kx)
          rw [List.length_map, List.length_take] at h1
          unfold shown
          rw [List.length_map, List.length_map]
          omega
        refine Ev.step (fun k => ?_) (ih (i + 1) (by omega) (by omega))
        simp only [spec_Shown.l0]
        rw [if_pos (by rw [List.length_map]; omega), if_pos (by omega), if_pos (by rw [List.length_map]; omega), rd_found hm, w64 (by omega), htk]
        show (if f.k = 10 then _ else if f.k = 35 then _ else if f.k = -1004 then _ else if f.k = -1 then _ else if _ then _ else none) = _
        unfold isShown
        by_cases h1 : f.k = 10
        · rw [if_pos h1]; simp [h1]
        rw [if_neg h1]
        by_cases h2 : f.k = 35
        · rw [if_pos h2]; simp [h2]
        rw [if_neg h2]
        by_cases h3 : f.k = -1004
        · rw [if_pos h3]; simp [h3]
        rw [if_neg h3]
        by_cases h4 : f.k = -1
        · rw [if_pos h4]; simp [h4]
        rw [if_neg h4, if_pos hll]
        simp [h1, h2, h3, h4, sFd]
      · obtain rfl : i = l.length := by omega
        exact hend
  have h0 := H _ 0 (Nat.le_refl _) (Nat.zero_le _)
  exact Ev.congr (fun k => rfl) h0

section
variable {ws : List Bs}
/-- What replaced words are. -/
def repW (name : Bs) (body : List Bs) (w : Bs) : List Bs := if w = name then body else [w]
theorem repW_len (name : Bs) (body : List Bs) (hb : body.length ≤ 20) (ws : List Bs) : (ws.flatMap (repW name body)).length ≤ 20 * ws.length + ws.length := by
  induction ws with
  | nil => simp
  | cons w r ih =>
    rw [List.flatMap_cons, List.length_append, List.length_cons]
    have : (repW name body w).length ≤ 21 := by
      unfold repW
      split
      · omega
      · simp
    omega
theorem replaced_f (name : Bs) (body : List Bs) (hl : ws.length ≤ 1000) (hb : body.length ≤ 20) : Ev (fun k => laws_replaced.f k (ws.map mkS) (mkS name) (body.map mkS)) ((ws.flatMap (repW name body)).map mkS) := by
  have H : ∀ d i : Nat, ws.length - i ≤ d → i ≤ ws.length → Ev (fun k => laws_replaced.l0 k (mkS name) (body.map mkS) (((ws.take i).flatMap (repW name body)).map mkS) (ws.map mkS) ((ws.map mkS).length : Int) (i : Int)) ((ws.flatMap (repW name body)).map mkS) := by
    have hend : Ev (fun k => laws_replaced.l0 k (mkS name) (body.map mkS) (((ws.take ws.length).flatMap (repW name body)).map mkS) (ws.map mkS) ((ws.map mkS).length : Int) (ws.length : Int)) ((ws.flatMap (repW name body)).map mkS) := by
      refine Ev.step (f := fun _ => some _) (fun k => ?_) (Ev.now _)
      simp only [laws_replaced.l0]
      rw [if_neg (by rw [List.length_map]; omega), List.take_length]
    intro d
    induction d with
    | zero =>
      intro i hd hi
      obtain rfl : i = ws.length := by omega
      exact hend
    | succ d ih =>
      intro i hd hi
      rcases Nat.lt_or_ge i ws.length with hlt | hge
      · obtain ⟨w, hw'⟩ : ∃ w, ws[i]? = some w := ⟨ws[i], List.getElem?_eq_getElem hlt⟩
        have htk : (ws.take (i + 1)).flatMap (repW name body) = (ws.take i).flatMap (repW name body) ++ repW name body w := by rw [List.take_add_one, hw']; simp
        have hlen := repW_len name body hb (ws.take i)
        rw [List.length_take] at hlen
        refine Ev.step (fun k => ?_) (ih (i + 1) (by omega) (by omega))
        simp only [laws_replaced.l0]
        rw [if_pos (by rw [List.length_map]; omega), if_pos (by omega), if_pos (by rw [List.length_map]; omega), rd_at (at_map hw'), w64 (by omega), htk, mkS_toList, mkS_toList, List.map_append]
        by_cases e : w = name
        · rw [if_pos e, if_pos (by rw [List.length_map, List.length_map]; omega)]
          simp [repW, e]
        · rw [if_neg e, if_pos (by rw [List.length_map]; omega)]
          simp [repW, e]
      · obtain rfl : i = ws.length := by omega
        exact hend
  have h0 := H _ 0 (Nat.le_refl _) (Nat.zero_le _)
  exact Ev.congr (fun k => rfl) h0
end
theorem run_append_kd {w : World} {base : Nat} {v : Value} {n m c : Nat} {A : Option Addr} {xs : List Value} {l : List ByteArray} (ty : TypeId) (hv : w.ownsRow base 9 1 v n xs) (hx : Kd.C Kd.string w A m l) (hm : m = l.length) (hc : m ≤ c) (h : n + m < 1000000) (hb : base ≤ w.heap.size) :
    ∃ v' w', (Builtin.append_ #[22, 22] ty #[v, .slice A m c]).run Tryz.prog w = .ok v' w' ∧ w'.ownsRow base 9 1 v' (n + m) (xs ++ l.map Value.string) ∧ w.grownBy w' v.ownBlock := by
  obtain ⟨i0, hi, hz0, hz1, hz2⟩ : ∃ i0, Tryz.prog.info? 9 = some i0 ∧ i0.zero = some (.string ⟨#[]⟩) ∧ i0.size = 1 ∧ i0.bytes = 16 := info_parts infoStr
  rcases Nat.eq_zero_or_pos m with h0 | hpos
  · have hl : l = [] := List.eq_nil_of_length_eq_zero (by omega)
    subst hl
    subst h0
    obtain ⟨vb, vl, vc, rfl, hle⟩ : ∃ vb vl vc, v = .slice vb vl vc ∧ vl ≤ vc := by
      obtain ⟨_, ⟨e, _⟩ | ⟨g, cap, cur, e, _, _, h, _⟩⟩ := hv
      · exact ⟨_, _, _, e, Nat.le_refl _⟩
      · exact ⟨_, _, _, e, h⟩
    refine ⟨.slice vb vl vc, w, run_append_nothing w _ _ ty _ i0 Tryz.underlying22 hi vb vl vc hle (.slice A 0 c) ?_, by simpa using hv, ?_⟩
    · exact ⟨.inl ⟨_, Tryz.underlying22⟩, fun _ => by simp [Builtin.lenOf], by cases A <;> simp [Builtin.firstCells, hz1, loadCells, loadCellsFrom], by cases A <;> simp [Builtin.firstCells, hz1, loadCells, loadCellsFrom], by simp, by simp⟩
    · exact ⟨rfl, rfl, rfl, Nat.le_refl _, fun _ _ _ => rfl⟩
  · obtain ⟨ad, rfl, hcell⟩ := (Kd.reads_of_C (d := ByteArray.empty) hx).2.2 hpos
    obtain ⟨v', w', hr, h2, h3, h4, h5⟩ := run_append_own_at (P := Tryz.prog) w base 22 ty 9 i0 (.string ⟨#[]⟩) 1 16 Tryz.underlying22 hi hz0 hz1 hz2 rfl (by decide) v n xs hv ad m c (l.map Value.string) (by rw [List.length_map, hm]; omega) (fun j u hj => by
        rw [List.getElem?_map] at hj
        obtain ⟨x, hx1, rfl⟩ := Option.map_eq_some_iff.1 hj
        have hlt := (List.getElem?_eq_some_iff.1 hx1).1
        have := hcell j (by omega)
        rw [List.getD_eq_getElem?_getD, hx1] at this
        exact this) (fun u hu => by obtain ⟨s, _, rfl⟩ := List.mem_map.1 hu; rfl) (by unfold maxLen; omega) (by omega) hb
    exact ⟨v', w', hr, h2, h3⟩

theorem wpList_append_kd {w : World} {ops : Array Oper} {rest : List Oper} {o : Oper} {a : Act} {Q : Exit → Act → World → Prop} (hgd : o.guard = none) (s x : Operand)
    (ho : o.op = .call { callee := .builtin .append, args := #[s, x], argTypes := #[22, 22] }) (base : Nat) (v : Value) (A : Option Addr) (m c : Nat) (hs : a.eval s = v) (hx : a.eval x = .slice A m c) (n : Nat) (xs : List Value) (l : List ByteArray)
    (hv : w.ownsRow base 9 1 v n xs) (hxr : Kd.C Kd.string w A m l) (hm : m = l.length) (hc : m ≤ c) (hl : n + m < 1000000) (hb : base ≤ w.heap.size)
    (h : ∀ v' w', w'.ownsRow base 9 1 v' (n + m) (xs ++ l.map Value.string) → w.grownBy w' v.ownBlock → wpList Tryz.prog ops Q rest (a.put o.dst v') w') : wpList Tryz.prog ops Q (o :: rest) a w := by
  refine wpList_plain hgd fun K hK => ?_
  obtain ⟨v', w', hr, h2, h3⟩ := run_append_kd o.type hv hxr hm hc hl hb
  unfold Oper.wp execOp
  simp only [ho, resolve, invoke, builtin, Sem.run_bind, Sem.run_pure, Result.andThen_ok, List.map_toArray, List.map_cons, List.map_nil, hs, hx, hr]
  exact hK _ _ (h v' w' h2 h3)

/-- A row of strings of the call's own, as helpers want it. -/
theorem kd_strs {w : World} {b : Nat} {a : Option Addr} {n c : Nat} {l : List ByteArray} (h : w.ownsRow b 9 1 (.slice a n c) l.length (l.map Value.string)) : n = l.length ∧ l.length ≤ c ∧ Kd.C Kd.string w a l.length l := by
  have h' := h
  obtain ⟨h1, ⟨e, e0⟩ | ⟨g, cap, cur, e, _, hb, h2, h3, h4, h5⟩⟩ := h
  · cases e
    have : l = [] := List.eq_nil_of_length_eq_zero e0
    subst this
    exact ⟨rfl, by simp, Kd.C_nil _ _⟩
  · cases e
    refine ⟨rfl, h2, Kd.C_of_reads (enc := Value.string) (d := ByteArray.empty) (h1 := fun _ => rfl) ⟨rfl, by unfold maxLen at h3; omega, fun hp => ⟨⟨g, 0, none⟩, rfl, fun j hj => ?_⟩⟩⟩
    have := h'.cells (g := g) rfl j (.string l[j]) (by rw [List.getElem?_map, List.getElem?_eq_getElem hj]; rfl)
    rw [this, List.getD_eq_getElem?_getD, List.getElem?_eq_getElem hj]
    rfl

/-- A row that a helper made is the call's own. -/
theorem own_of_R {w : World} {base : Nat} {ok : Nat → Prop} {v : Value} {xs : List ByteArray} (h : Kd.R Kd.string 9 w base ok v xs) : w.ownsRow base 9 1 v xs.length (xs.map Value.string) := by
  obtain ⟨_, inner, hown, hl, hr⟩ := h
  have hl' : inner.length = xs.length := by have h1 : inner.length = xs.length * 1 := hl; omega
  have e : inner = xs.map Value.string := by
    refine List.ext_getElem? fun j => ?_
    rw [List.getElem?_map]
    cases hx : xs[j]? with
    | none =>
      have := List.getElem?_eq_none_iff.1 hx
      exact List.getElem?_eq_none_iff.2 (by omega)
    | some p =>
      have h1 : (inner.drop (j * 1)).take 1 = [.string p] := hr j p hx
      have h2 : ((inner.drop (j * 1)).take 1)[0]? = some (.string p) := by rw [h1]; rfl
      rw [List.getElem?_take, if_pos (by omega), List.getElem?_drop] at h2
      simpa using h2
  rw [← e]
  exact hown
def SQ (w : World) (e : Ending) (w' : World) : Prop := e = .returned (.bool true) ∧ Below w.heap.size w w'
/-- What stays while files are read. -/
def yFil (text : Bs) (l : List (Bs × ByteArray)) : Wy := ⟨true, tab ((mainBs, mkS text) :: l) (fun _ => none), [dotName]⟩
/-- What stays while a file alone is read. -/
def yExp (text : Bs) : Wy := yFil text []

theorem StT.kinds {y : Wy} {l : List Fd} {s s' : Sg} (h : StT y l s s') : ∀ f ∈ l, -1000000 ≤ f.k ∧ f.k < 1000000 := by
  induction h with
  | nil => intro f hf; cases hf
  | cons a b c d e f _ ih =>
    intro q hq
    rcases List.mem_cons.1 hq with rfl | hq
    · exact ⟨c, d⟩
    · exact ih q hq

set_option maxRecDepth 100000 in
theorem let_fin : ∀ n : Fin 256, isLet (UInt8.ofNat n.val) = true → isDig (UInt8.ofNat n.val) = false := by decide
theorem WordL.name_kind {w : Bs} (h : WordL w) (hn : PName w) : kindW w = -2 := by
  obtain ⟨c0, x0, e0, h1, _⟩ := hn
  have hw := h.wd
  have hmk : ∀ c ∈ marks, isLet c = false := by decide
  generalize hk : kindW w = kd at hw
  have hd : isDig c0 = false := by
    have := let_fin ⟨c0.toNat, UInt8.toNat_lt c0⟩
    simp only [UInt8.ofNat_toNat] at this
    exact this h1
  cases hw with
  | p1 => injection e0 with e _; subst e; revert h1; decide
  | p2 => injection e0 with e _; subst e; revert h1; decide
  | p3 => injection e0 with e _; subst e; revert h1; decide
  | p4 => injection e0 with e _; subst e; revert h1; decide
  | nl => injection e0 with e _; subst e; revert h1; decide
  | @mark c hc => injection e0 with e _; subst e; rw [hmk _ hc] at h1; cases h1
  | name _ => rfl
  | num hn =>
    rcases hn with ⟨x, rfl, _, _⟩ | rfl | ⟨c, x, rfl, h2, _, _⟩
    · injection e0 with e _; subst e; revert h1; decide
    · injection e0 with e _; subst e; revert h1; decide
    · injection e0 with e _; subst e; rw [hd] at h2; cases h2
  | quo hq =>
    obtain ⟨m, rfl, _⟩ := hq
    injection e0 with e _; subst e; revert h1; decide

theorem WordL.isShown {w : Bs} (h : WordL w) : isShown (kindW w) = true := by
  have hw := h.wd
  have hk := h.kind
  have h4 : kindW w ≠ -1004 := by
    generalize kindW w = kd at hw
    cases hw <;> omega
  unfold Go.Proofs.YtpoimmpdncickaaGreatDoor.isShown
  simp [hk.1, hk.2.2.1, hk.2.2.2.1, h4]
theorem shown_words {ws : List Bs} (h : ∀ w ∈ ws, WordL w) : shown (ws.map tokW) = ws := by
  induction ws with
  | nil => rfl
  | cons w r ih =>
    rw [List.map_cons, shown_cons, ih (fun x hx => h x (by simp [hx]))]
    have : Go.Proofs.YtpoimmpdncickaaGreatDoor.isShown (tokW w).1 = true := (h w (by simp)).isShown
    rw [this]
    rfl

/-- A told token's cells, as helpers want them. -/
theorem cellsE_get : ∀ (ts : List Fd) (i : Nat) (t : Fd), ts[i]? = some t → (cellsE ts)[4 * i]? = some (.int .i64 t.k) ∧ (cellsE ts)[4 * i + 1]? = some (.string (mkS t.x)) ∧ (cellsE ts)[4 * i + 2]? = some (.string t.nm) ∧ (cellsE ts)[4 * i + 3]? = some (.int .i64 (t.line : Nat))
  | [], i, t, h => by simp at h
  | s :: r, 0, t, h => by
    simp at h; subst h
    exact ⟨rfl, rfl, rfl, rfl⟩
  | s :: r, i + 1, t, h => by
    have := cellsE_get r i t (by simpa using h)
    rw [show 4 * (i + 1) = 4 * i + 4 by omega, show 4 * i + 4 + 1 = 4 * i + 1 + 4 by omega, show 4 * i + 4 + 2 = 4 * i + 2 + 4 by omega, show 4 * i + 4 + 3 = 4 * i + 3 + 4 by omega]
    exact this
theorem kd_found {w : World} {a : Option Addr} {n c : Nat} {l : List Fd} (h : w.ownsRow 0 54 4 (.slice a n c) l.length (cellsE l)) : n = (l.map sFd).length ∧ (l.map sFd).length ≤ c ∧ Kd.C k54 w a (l.map sFd).length (l.map sFd) := by
  have h' := h
  obtain ⟨h1, ⟨e, e0⟩ | ⟨g, cap, cur, e, _, hb, h2, h3, h4, h5⟩⟩ := h
  · cases e
    have : l = [] := List.eq_nil_of_length_eq_zero e0
    subst this
    exact ⟨rfl, by simp, rfl, by simp, fun h => absurd h (by simp)⟩
  · cases e
    refine ⟨by simp, by simpa using h2, rfl, by unfold maxLen at h3; simp; omega, fun _ => ⟨⟨g, 0, none⟩, rfl, fun j p hp => ?_⟩⟩
    rw [List.getElem?_map] at hp
    obtain ⟨t, ht, rfl⟩ := Option.map_eq_some_iff.1 hp
    have hc := cellsE_get l j t ht
    have a0 := h'.cells (g := g) rfl (4 * j) _ hc.1
    have a1 := h'.cells (g := g) rfl (4 * j + 1) _ hc.2.1
    have a2 := h'.cells (g := g) rfl (4 * j + 2) _ hc.2.2.1
    have a3 := h'.cells (g := g) rfl (4 * j + 3) _ hc.2.2.2
    refine ⟨_, rfl, k54_mk w (sFd t), fun i u hu => ?_⟩
    match i, hu with
    | 0, hu => cases hu; rw [show j * k54.sz + 0 = 4 * j by show j * 4 + 0 = _; omega]; exact a0
    | 1, hu => cases hu; rw [show j * k54.sz + 1 = 4 * j + 1 by show j * 4 + 1 = _; omega]; exact a1
    | 2, hu => cases hu; rw [show j * k54.sz + 2 = 4 * j + 2 by show j * 4 + 2 = _; omega]; exact a2
    | 3, hu => cases hu; rw [show j * k54.sz + 3 = 4 * j + 3 by show j * 4 + 3 = _; omega]; exact a3
    | i + 4, hu => simp at hu

section
variable {w : World} {ev : Value}
/-- Expand of files without an error. -/
theorem expand_told {g mn0 mn' dl dc cap : Nat} {da : Option Addr} {mac0 mac' : Bs → Option Mc} {nm' : ByteArray} {text : Bs} {l : List (Bs × ByteArray)} {ts : List Tok} {fl : List Fd} {s' : Sg} (hr : Files w g cap ((mainBs, mkS text) :: l)) (hnm : ∀ p ∈ l, p.1.length ≤ 1000000) (hl9 : l.length < 900) (hF : tab ((mainBs, mkS text) :: l) (fun _ => none) mainBs = some (mkS text)) (htl : TL text 1 1 ts) (ha : ascii text) (hlen : text.length < 900000)
    (hpre : ∀ w1, Below w.heap.size w w1 → Calls Tryz.prog 44 #[.slice da dl dc] w1 (PreG mn0 mac0 w1))
    (hst : StT (yFil text l) fl ⟨[tzAb mainName ts], mn0, mac0, [], true, []⟩ s') (hend : At s' nm' [] [] mac' [] mn') (hfl : fl.length < 100000) (hfk : ∀ f ∈ fl, -1000000 ≤ f.k ∧ f.k < 1000000) (hg : Glob w ev) (hB : 21 ≤ w.heap.size) :
    Calls Tryz.prog 18 #[.slice (some ⟨g, 0, none⟩) (l.length + 1 : Nat) cap, .slice none 0 0, .slice da dl dc] w (ExQ fl w) :=
  expand_ok (l := l) (inc := []) hr hnm hl9 hF htl ha hlen (fun w0 w1 fb nf hb0 hm hb1 => by
    refine (newInput_gen (B := w0.heap.size) (bl := true) (inc := []) (F := tab ((mainBs, mkS text) :: l) (fun _ => none)) (hm.of_heap (hb1.block _ hm.lt)) ⟨rfl, .inl ⟨rfl, rfl⟩⟩ hb1.size (by decide) (fun w2 h2 => hpre w2 ((hb0.trans (hb1.mono hb0.size)).trans (h2.mono (Nat.le_trans hb0.size hb1.size))))).mono ?_
    rintro e w' ⟨ib, mb, rfl, h1, h2, h3⟩
    exact ⟨ib, mb, rfl, h1, h2, h3⟩) hst hend hfl hfk hg hB

set_option maxRecDepth 100000 in
set_option maxHeartbeats 2000000 in
theorem shows_gen {g mn0 mn' n c dl dc cap : Nat} {A da : Option Addr} {mac0 mac' : Bs → Option Mc} {nm' : ByteArray} {text : Bs} {l : List (Bs × ByteArray)} {ts : List Tok} {fl : List Fd} {s' : Sg} (hr : Files w g cap ((mainBs, mkS text) :: l)) (hnm : ∀ p ∈ l, p.1.length ≤ 1000000) (hl9 : l.length < 900) (hF : tab ((mainBs, mkS text) :: l) (fun _ => none) mainBs = some (mkS text)) (htl : TL text 1 1 ts) (ha : ascii text) (hlen : text.length < 900000)
    (hpre : ∀ w1, Below w.heap.size w w1 → Calls Tryz.prog 44 #[.slice da dl dc] w1 (PreG mn0 mac0 w1))
    (hst : StT (yFil text l) fl ⟨[tzAb mainName ts], mn0, mac0, [], true, []⟩ s') (hend : At s' nm' [] [] mac' [] mn') (hfl : fl.length < 100000) (hfk : ∀ f ∈ fl, -1000000 ≤ f.k ∧ f.k < 1000000)
    (hC : Kd.C Kd.string w A n ((shown (fl.map Fd.kx)).map mkS)) (hn : n = ((shown (fl.map Fd.kx)).map mkS).length) (hnc : n ≤ c) (hg : Glob w ev) (hB : 21 ≤ w.heap.size) :
    Calls Tryz.prog 15 #[.slice (some ⟨g, 0, none⟩) (l.length + 1 : Nat) cap, .slice da dl dc, .slice A n c] w (SQ w) := by
  have hex : Calls Tryz.prog 18 #[.slice (some ⟨g, 0, none⟩) (l.length + 1 : Nat) cap, .slice none 0 0, .slice da dl dc] w (ExQ fl w) :=
    expand_told hr hnm hl9 hF htl ha hlen hpre hst hend hfl hfk hg hB
  obtain ⟨L, hL⟩ : ∃ L, L = l.length + 1 := ⟨_, rfl⟩
  rw [← hL] at hex ⊢
  obtain ⟨ks, hks⟩ := (shown_f fl (by omega)).rounds
  have hsl : ((shown (fl.map Fd.kx))).length ≤ 1000000 := by
    have h1 := List.length_filter_le (fun f : Int × Bs => isShown f.1) (fl.map Fd.kx)
    rw [List.length_map] at h1
    unfold shown
    rw [List.length_map]
    omega
  obtain ⟨kt, hkt⟩ := (texts_f (ws := shown (fl.map Fd.kx)) hsl).rounds
  have Hex := Lib.hid hex
  have HC := Lib.hid hC
  have HN := Lib.hid hn
  have Hks := Lib.hid hks
  have Hkt := Lib.hid hkt
  clear hr hnm hl9 hF htl ha hpre hst hend hfk hC hn hg hex hks hkt hsl hL
  go_enter Tryz.func15, Tryz.ntmps15
  go_wp2_with fail
  refine Hex.out.mono ?_
  rintro e w1 ⟨a, fn, fc, rfl, hfn, hrow, hb⟩
  subst hfn
  obtain ⟨y1, y2, y3⟩ := kd_found hrow
  have hlm : (fl.map sFd).length = fl.length := by simp
  rw [hlm] at y2 y3
  have GS : Hid (∀ k, Calls Tryz.prog 20 #[.slice a fl.length fc] (w1.drewN k) fun e w' => ∃ A2 c2, e = .returned (.slice A2 ((shown (fl.map Fd.kx)).map mkS).length c2) ∧ ((shown (fl.map Fd.kx)).map mkS).length ≤ c2 ∧ Kd.C Kd.string w' A2 ((shown (fl.map Fd.kx)).map mkS).length ((shown (fl.map Fd.kx)).map mkS) ∧ Below w.heap.size w w') := Lib.hid (fun k => by
    have h := spec_Shown.calls ks a fc (fl.map sFd) _ (w1.drewN k) (by rw [hlm]; exact Kd.C_drewN y3 k) (by rw [hlm]; exact y2) Hks.out
    rw [hlm] at h
    refine h.mono ?_
    rintro e w' ⟨v0, rfl, hR, hb2⟩
    obtain ⟨A2, c2, rfl, h1, h2⟩ := Kd.R_reads hR
    exact ⟨A2, c2, rfl, h1, h2, (below_drewN hb k).trans (hb2.mono hb.size)⟩)
  have HB := Lib.hid hb
  obtain ⟨q, hq⟩ : ∃ q, q = ((shown (fl.map Fd.kx)).map mkS).length := ⟨_, rfl⟩
  have HC1 := Lib.hid (Kd.C_below HC.out hb)
  rw [← hq] at GS HN
  obtain ⟨fnl, hfnl⟩ : ∃ q, q = fl.length := ⟨_, rfl⟩
  rw [← hfnl] at GS ⊢
  have hNq := HN.out
  subst hNq
  have Hq := Lib.hid hq
  clear y1 y2 y3 hrow hb hlm hfl hfnl HN hq
  go_wp2_with fail
  refine (GS.out 0).mono ?_
  rintro e w2 ⟨A2, c2, rfl, hc2, hC2, hb2⟩
  have GT : Hid (Calls Tryz.prog 19 #[.slice A2 n c2, .slice A n c] w2 fun e w' => e = .returned (.bool true) ∧ Drawn0 w2 w') := Lib.hid (by
    have h := spec_SameTexts.calls kt A2 c2 ((shown (fl.map Fd.kx)).map mkS) A c ((shown (fl.map Fd.kx)).map mkS) true w2 (by rw [← Hq.out]; exact hC2) (by rw [← Hq.out]; exact hc2) (by rw [← Hq.out]; exact Kd.C_below HC.out hb2) (by rw [← Hq.out]; exact hnc) Hkt.out
    rw [← Hq.out] at h
    exact h)
  have HB2 := Lib.hid hb2
  clear hC2 hb2 Hq
  go_wp2_with fail
  refine GT.out.mono ?_
  rintro e w3 ⟨rfl, ⟨j3, rfl⟩⟩
  have Hfin : Hid (SQ w (.returned (.bool true)) (w2.drewN j3)) := Lib.hid ⟨rfl, below_drewN HB2.out j3⟩
  go_wp2
  go_ret
  exact Hfin.out

theorem shows_true {g mn' n c : Nat} {A : Option Addr} {mac' : Bs → Option Mc} {nm' : ByteArray} {text : Bs} {ts : List Tok} {fl : List Fd} {s' : Sg} (hr : Files w g 1 [(mainBs, mkS text)]) (htl : TL text 1 1 ts) (ha : ascii text) (hlen : text.length < 900000)
    (hst : StT (yExp text) fl ⟨[tzAb mainName ts], 0, fun _ => none, [], true, []⟩ s') (hend : At s' nm' [] [] mac' [] mn') (hfl : fl.length < 100000) (hfk : ∀ f ∈ fl, -1000000 ≤ f.k ∧ f.k < 1000000)
    (hC : Kd.C Kd.string w A n ((shown (fl.map Fd.kx)).map mkS)) (hn : n = ((shown (fl.map Fd.kx)).map mkS).length) (hnc : n ≤ c) (hg : Glob w ev) (hB : 21 ≤ w.heap.size) :
    Calls Tryz.prog 15 #[.slice (some ⟨g, 0, none⟩) 1 1, .slice none 0 0, .slice A n c] w (SQ w) :=
  shows_gen (l := []) hr (by simp) (by simp) (by simp [tab]) htl ha hlen (fun w1 _ => predefine_none) hst hend hfl hfk hC hn hnc hg hB
end
/-- The macro alone. -/
noncomputable def macOne (name : Bs) (body : List Bs) : Bs → Option Mc := fun z => if z = name then some ⟨none, body.map tokW⟩ else none
theorem rep_one {name : Bs} {body : List Bs} (hb : ∀ w ∈ body, WordL w) (hb0 : body ≠ []) (hb20 : body.length ≤ 20) (hno : name ∉ body) : Rep (macOne name body) (repW name body) := by
  refine ⟨fun w h => ?_, fun w m h => ?_⟩
  · have : w ≠ name := fun e => by simp [macOne, e] at h
    simp [repW, this]
  · by_cases e : w = name
    · simp only [macOne, e, if_true, Option.some.injEq] at h
      subst h
      refine ⟨rfl, by simp [repW, e], by simp [repW, e, hb0], by simp [repW, e]; omega, fun b hb' => ?_⟩
      have hb2 : b ∈ body := by simpa [repW, e] using hb'
      exact ⟨hb b hb2, fun _ => by have : b ≠ name := fun e => hno (e ▸ hb2); simp [macOne, this]⟩
    · simp [macOne, e] at h
theorem mac_one {name w : Bs} {body : List Bs} (h : ((macOne name body) w).isSome = true) : w = name := by
  by_cases e : w = name
  · exact e
  · simp [macOne, e] at h

/-- Words with a blank between them. -/
def lstB : List Bs → Bs
  | [] => []
  | [x] => x
  | x :: q :: r => x ++ 32 :: lstB (q :: r)
theorem pc_lst : ∀ (ws : List Bs), ws ≠ [] → (∀ w ∈ ws, WordL w) → ∀ p, blanks p → Pc (p ++ lstB ws) (ws.map tokW)
  | [], h, _, _, _ => absurd rfl h
  | [x], _, hw, p, hp => by
    have h := hw x (by simp)
    have h1 := word_next0 h.wd h.nnl h.nm h.len hp (r := []) (by intro s hs; cases hs)
    rw [List.append_nil] at h1
    exact .cons h1 h.kind.1 .nil
  | x :: q :: r, _, hw, p, hp => by
    have h := hw x (by simp)
    have ih := pc_lst (q :: r) (by simp) (fun w hq => hw w (by simp at hq ⊢; right; exact hq)) [32] blanks_one
    exact .cons (word_next h.wd h.nnl h.nm h.len hp (.inl rfl) (lstB (q :: r))) h.kind.1 ih
theorem pc_alone {x : Bs} (h : PName x) (hl : x.length ≤ 60) : Pc x [(-2, x)] := by
  obtain ⟨c, y, rfl, h1, h2⟩ := h
  have h3 : TNext ([] ++ ((c :: y) ++ [])) (-2) (c :: y) ([] ++ (c :: y)) [] := .one (by intro b hb; cases hb) (.ident h1 h2 (by intro c hc; cases hc)) (by decide) (Nat.le_trans hl (by decide)) (by intro d n e; cases e)
  rw [List.append_nil, List.nil_append] at h3
  exact .cons h3 (by decide) .nil
theorem lstB_len : ∀ (ps : List Bs), (∀ p ∈ ps, p.length ≤ 60) → (lstB ps).length ≤ 61 * ps.length
  | [], _ => by simp [lstB]
  | [x], h => by have := h x (by simp); simp [lstB]; omega
  | x :: q :: r, h => by
    have ih := lstB_len (q :: r) (fun p hp => h p (by simp at hp ⊢; right; exact hp))
    have := h x (by simp)
    simp [lstB] at ih ⊢
    omega
theorem ascii_lst : ∀ (ws : List Bs), (∀ w ∈ ws, WordL w) → ascii (lstB ws)
  | [], _ => by intro b h; cases h
  | [x], h => (h x (by simp)).ascii
  | x :: q :: r, h => by
    have ih := ascii_lst (q :: r) (fun p hp => h p (by simp at hp ⊢; right; exact hp))
    intro b hb
    rcases List.mem_append.1 hb with hb | hb
    · exact (h x (by simp)).ascii b hb
    · rcases List.mem_cons.1 hb with rfl | hb
      · decide
      · exact ih b hb

set_option maxRecDepth 100000 in
theorem name_no61 {x : Bs} (h : PName x) : (61 : UInt8) ∉ x := by
  obtain ⟨c, y, rfl, h1, h2⟩ := h
  intro hm
  rcases List.mem_cons.1 hm with e | hm
  · rw [← e] at h1; revert h1; decide
  · have := h2 61 hm; revert this; decide

/-- What is told of tokens that are words, where Make leaves them as they are. -/
theorem tok_words {ws : List Bs} (hw : ∀ w ∈ ws, WordL w) {T : List Tok} (h : T.map Tok.kx = ws.map tokW) : ∀ t ∈ T, okTok t ∧ t.k ≠ -1 ∧ t.k ≠ 0 := fun t ht => by
  have hm : Tok.kx t ∈ ws.map tokW := h ▸ List.mem_map_of_mem ht
  obtain ⟨w, hwm, e⟩ := List.mem_map.1 hm
  have hW := hw w hwm
  have hkd := hW.kind
  have e1 : t.k = kindW w := by have := congrArg Prod.fst e; exact this.symm
  have e2 : t.x = w := by have := congrArg Prod.snd e; exact this.symm
  exact ⟨⟨e2 ▸ hW.ascii, e2 ▸ hkd.2.2.2.2.2.2.2.1, by rw [e2]; have := hW.len; omega⟩, by rw [e1]; exact hkd.1, by rw [e1]; exact hkd.2.1⟩

/-- Words that are no macros. -/
theorem st_ws {y : Wy} {nm : ByteArray} {rest : List Ab} {R : List (Int × Bs)} {mac : Bs → Option Mc} {ifs : List Bool} {mn : Nat} (hr : rest.length ≤ 90) (hi : ifs.length < 1000) (ho : onB ifs = true) :
    ∀ (ws : List Bs) (s : Sg), (∀ w ∈ ws, WordL w ∧ mac w = none) → At s nm rest (ws.map tokW ++ R) mac ifs mn →
      ∃ l s1, StT y l s s1 ∧ l.map Fd.kx = ws.map tokW ∧ At s1 nm rest R mac ifs mn ∧ ∀ f ∈ l, f.nm = nm := by
  intro ws
  induction ws with
  | nil => exact fun s _ h => ⟨[], s, .nil, rfl, h, by simp⟩
  | cons w r ih =>
    intro s hw h
    obtain ⟨hwl, hwk⟩ := hw w (by simp)
    have hkd := hwl.kind
    have hlen := hwl.len
    obtain ⟨l1, s1, a1, a2, a3, a4, a5⟩ := st_tok (y := y) (k := kindW w) (x := w) (R := r.map tokW ++ R) h hr hkd.2.2.2.1 hkd.1 hkd.2.1 hkd.2.2.2.2.2.1 hkd.2.2.2.2.2.2.1 (by omega) (fun _ => hwk) hi ho
    obtain ⟨l2, s2, b1, b2, b3, b4⟩ := ih s1 (fun x hx => hw x (by simp [hx])) a3
    refine ⟨l1 ++ l2, s2, a1.app b1, ?_, b3, fun f hf => ?_⟩
    · rw [List.map_append, a2, b2]
      simp [tokW]
    · rcases List.mem_append.1 hf with hf | hf
      · exact a5 f hf
      · exact b4 f hf
set_option maxRecDepth 100000 in
/-- The word '1'. -/
theorem one_word : WordL [49] := by
  have hev : Ev (fun k => spec_KindOf.f k (mkS [49])) (-3) := Ev.of (fun k => spec_KindOf.mono _ k) (k := 60) (by kernel_rfl)
  have hk := kindW_ev hev
  exact ⟨by rw [hk]; exact .num (.inr (.inr ⟨49, [], rfl, by decide, by decide, by decide⟩)), by rw [hk]; exact hev, by decide, fun e => by rw [hk] at e; exact absurd e (by decide), by decide⟩

theorem first_told (y : Wy) {words body : List Bs} {name : Bs} (hn : PName name) (hw : ∀ w ∈ words, WordL w) (hb : ∀ w ∈ body, WordL w) (hb0 : body ≠ []) (hb20 : body.length ≤ 20) (hw20 : words.length ≤ 20) (hno : name ∉ body) :
    ∃ T l s' mac mn, TL (textB words ++ 10 :: []) 1 1 T ∧ StT y l ⟨[tzAb mainName T], 1, macOne name body, [], true, []⟩ s' ∧ At s' mainName [] [] mac [] mn ∧ shown (l.map Fd.kx) = words.flatMap (repW name body) ∧ l.length ≤ 1000 ∧ ∀ f ∈ l, -1000000 ≤ f.k ∧ f.k < 1000000 := by
  have hpc := pc_line hw (tail := []) .nil [] (by intro b h; cases h)
  obtain ⟨T, h1, h2⟩ := hpc.tl 1 1
  have hat : At ⟨[tzAb mainName T], 1, macOne name body, [], true, []⟩ mainName [] (words.map tokW ++ [(10, [10])]) (macOne name body) [] 1 := ⟨[], tzAb mainName T, rfl, by simp, by simp, rfl, rfl, h2, rfl, rfl, rfl⟩
  obtain ⟨l1, s1, a1, a2, a3, _⟩ := st_words (y := y) (rep_one hb hb0 hb20 hno) (by simp) (by simp) rfl words _ (fun w hx => ⟨hw w hx, fun h => (hw w hx).name_kind (mac_one h ▸ hn)⟩) hat
  obtain ⟨l2, s2, b1, b2, b3, _, _⟩ := st_nl (y := y) a3 (by simp) (by simp) rfl
  refine ⟨T, l1 ++ l2, s2, _, _, by simpa using h1, a1.app b1, b3, ?_, ?_, (a1.app b1).kinds⟩
  · rw [List.map_append, a2, b2, shown_app, shown_words (fun w hx => ?_)]
    · simp [shown, isShown]
    · obtain ⟨x, hx', hx⟩ := List.mem_flatMap.1 hx
      unfold repW at hx
      split at hx
      · exact hb w hx
      · simp at hx; rw [hx]; exact hw x hx'
  · have k1 := congrArg List.length a2
    have k2 := congrArg List.length b2
    have k6 := repW_len name body hb20 words
    simp at k1 k2
    simp only [List.length_append]
    have k7 : (words.flatMap (repW name body)).length = (List.map (fun a => (repW name body a).length) words).sum := by simp [List.length_flatMap]
    omega

end Go.Proofs.YtpoimmpdncickaaGreatDoor
