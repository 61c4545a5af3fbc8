/- readAll, and MacroOf of a file without errors. -/
import Derived.Test.YtkoeeolmbhobkaaGreatDoorJ9
import Derived.Defers
import Derived.Recover
import Derived.Deep.AppendLies
import Derived.Test.YtkoeeolmbhobkaaGreatDoorJ10
/- readAll: a file is read to its end. -/
namespace Go.Proofs.YtkoeeolmbhobkaaGreatDoor
open Go Go.RowKit Lex
set_option linter.unusedVariables false
set_option linter.unusedSimpArgs false

theorem readAll_catch (p : Addr) (w : World) :
    CallsD Tryz.prog 52 #[.pointer (some p)] .returning w fun e u' w' => e = .returned (.tuple #[]) ∧ u' = .returning ∧ w' = w := by
  refine callsD_of_wpS Tryz.func52 rfl fun c₀ cs hu => ?_
  apply wpS_seq
  apply wpS_region
  simp [wpOpsS, go_sem, recoverD, hu, Tryz.ntmps52, Exit.thenS]
  refine wpS_cond (t := false) (by simp [Act.eval, Array.replicate]) ?_
  simp only [Bool.false_eq_true, if_false]
  refine wpS_of_wp (wp_skip ?_)
  cases c₀
  simp_all [bodyPostS, results, Tryz.results52]

section
variable {w w' : World} {B ib : Nat} {C : Cfg} {s s' : Sg} {ev : Value}

/-- What is known of the macros alone. -/
def HeldM (w : World) (ib : Nat) (C : Cfg) (s : Sg) : Prop := ∃ L, w.cell? ⟨ib, 5, none⟩ = some (.map (some C.mb)) ∧ Macs w L C.mb s.mn s.mac

def RAQ (B ib : Nat) (C : Cfg) (s : Sg) (w : World) (e : Ending) (w' : World) : Prop := e = .returned (.bool true) ∧ HeldM w' ib C s ∧ Soft B C.bl w w'

def RALoop (B ib : Nat) (C : Cfg) (s' : Sg) (most : Nat) (w : World) (n : Nat) (v7 : Value) (wr : World) : Prop :=
  ∃ s i, v7 = .int .i64 (i : Nat) ∧ i + n < most ∧ Held wr B ib C s ∧ Run C.wy n s s' ∧ Soft B C.bl w wr

set_option maxRecDepth 100000 in
set_option maxHeartbeats 4000000 in
theorem readAll_ok {n most : Nat} (h : Held w B ib C s) (hr : Run C.wy n s s') (hn : n < most) (hm : most < 1000000000) (hbl : C.bl = false) (hg : Glob w ev) (hB : 21 ≤ B) :
    Calls Tryz.prog 30 #[.pointer (some ⟨ib, 0, none⟩), .int .i64 most] w (RAQ B ib C s' w) := by
  have hmf : ∀ (fn : Fn) (first cap : Array Value) (w : World), (Instr.makeFunc fn first cap).run Tryz.prog w = .ok (.func fn first cap) w := fun _ _ _ _ => rfl
  have hb1 : Below w.heap.size w (w.alloc (.cells #[.bool false] 4)) := (Below.refl _ _).alloc (Nat.le_refl _) _
  have hH1 : Held (w.alloc (.cells #[.bool false] 4)) B ib C s := by
    obtain ⟨L, hL, hI⟩ := h
    exact ⟨L, Nat.le_trans hL hb1.size, hI.below hb1⟩
  have hS1 : Soft B C.bl w (w.alloc (.cells #[.bool false] 4)) := Soft.ofBelow hb1
  have hg1 := hS1.glob hg hB
  have hB1 := Blk.lit w #[.bool false] 4
  have H1 := Lib.hid hH1
  have S1 := Lib.hid hS1
  have G1 := Lib.hid hg1
  have HB1 := Lib.hid hB1
  have Hr := Lib.hid hr
  have Hbl := Lib.hid hbl
  clear h hr hb1 hH1 hS1 hg1 hB1 hg hbl
  go_enter_defers Tryz.func30, Tryz.ntmps30
  go_wp2
  obtain ⟨nb, hnb⟩ : ∃ nb, nb = w.heap.size := ⟨_, rfl⟩
  rw [← hnb] at HB1 ⊢
  have Hnb := Lib.hid hnb
  clear hnb
  generalize hw1 : w.alloc (.cells #[.bool false] 4) = w1
  rw [hw1] at H1 S1 G1 HB1
  clear hw1
  go_loopg [7] n (fun n v7 wr => RALoop B ib C s' most w1 n v7 wr)
  case atStart => exact ⟨s, 0, rfl, by omega, H1.out, Hr.out, Soft.refl _ _ _⟩
  case round =>
    obtain ⟨s1, i, rfl, hin, hH, hR, hS⟩ := hrel
    have hg2 := hS.glob G1.out hB
    have hlt : (i : Int) < (most : Int) := by omega
    cases hR with
    | @step n _ _ k s2 _ hx hk hk1 hk2 hR =>
      have Hnx := Lib.hid (next_in hH hx hg2 hB)
      have HR := Lib.hid hR
      have HS := Lib.hid hS
      have e1 : IntKind.i64.wrap k = k := IntWalk.i64_in _ (by omega)
      have e2 : wrap64 k = k := by unfold wrap64; omega
      have hkb : (k == -1) = false := by simp [hk]
      have hi : i + 1 + n < most := by omega
      clear hH hx hk hR hS hg2 H1 Hr
      go_wp2_with fail
      refine Hnx.out.mono ?_
      rintro e w2 ⟨rfl, h2, s2'⟩
      have H2 := Lib.hid h2
      have S2 := Lib.hid (HS.out.trans s2')
      clear h2 s2'
      have e3 : IntKind.i64.wrap ((i : Int) + 1) = (i : Int) + 1 := IntWalk.i64_in _ (by omega)
      go_wp2
      go_roundg n
      case measure => simp
      case rel => exact ⟨s2, i + 1, by go_num, hi, H2.out, HR.out, S2.out⟩
    | @done _ dead a a1 a2 a3 a4 a5 a6 =>
      have Hnx := Lib.hid (next_eof hH a1 a2 a3 a4 a5 a6 hg2 hB)
      have HS := Lib.hid hS
      clear hH a1 a2 a3 a4 a5 a6 hS hg2 H1 Hr
      go_wp2_with fail
      refine Hnx.out.mono ?_
      rintro e w2 ⟨rfl, ⟨ab', L, hL, hI⟩, s2'⟩
      have S2 := HS.out.trans s2'
      have hb2 : Blk w2 nb 4 1 (fun i => [Value.bool false].getD i undef) := S2.blk HB1.out (by rw [Hbl.out]; unfold MT2 MT RT; decide)
      have k0 := hb2.cell (i := 0) (by decide)
      have f0 := hb2.frozen 0
      have hfin : RAQ B ib C s' w (.returned (.bool true)) (w2.setCell ⟨nb, 0, none⟩ (.bool true)) := by
        obtain ⟨S, rs, hI⟩ := hI
        obtain ⟨f, m1, m2, m3⟩ := hI.env.mcs
        have ho := (Only.refl (fun k => k = nb) w2).setCell (p := ⟨nb, 0, none⟩) (fun _ => rfl) (.bool true)
        have hty : Typed w2 nb (· = 4) := hb2.typed rfl
        have hnt : ∀ k, k = nb → ∀ T : TypeId, T ≠ 4 → ¬ Typed w2 k (· = T) := fun k e T hT => e ▸ not_typed hty (fun h => hT h)
        refine ⟨rfl, ⟨L, ?_, ⟨f, m1.of_heap (ho.block _ m1.lt (fun e => m1.not_typed (e ▸ hty))), m2, fun x m hx => ?_⟩⟩, ?_⟩
        · have hb := hI.stk.blk.only ho (fun e => hnt _ e 90 (by decide) (hI.stk.blk.typed rfl))
          exact hb.cell_eq (by decide) hI.env.mcv
        · obtain ⟨b, hb, hm⟩ := m3 x m hx
          exact ⟨b, hb, hm.only ho (fun k e _ => ⟨hnt k e _ (by decide), hnt k e _ (by decide), hnt k e _ (by decide)⟩)⟩
        · exact (S1.out.trans S2).new ho (fun k e => by have := Hnb.out; omega)
      have Hfin := Lib.hid hfin
      clear hI s2' S2 hb2 hfin
      go_wp2
      refine leaves_cons (f := 52) (args := #[.pointer (some ⟨nb, 0, none⟩)]) (by simp) (by simp [go_sem]) ?_
      refine (readAll_catch ⟨nb, 0, none⟩ _).mono ?_
      rintro e u' w'' ⟨rfl, rfl, rfl⟩
      have k1 : w2.cell? ⟨nb, 0, none⟩ = some (.bool false) := k0
      simp [Leaves, settle, results, Tryz.results30, go_sem, k1]
      exact Hfin.out
end
section
variable {w : World} {ib : Nat} {C : Cfg} {s : Sg} {x : Bs} {m : Mc}

def ZZQ (m : Mc) (w : World) (e : Ending) (w' : World) : Prop :=
  ∃ aa al ac ta tl tc k, e = .returned (.tuple #[.slice aa al ac, .slice ta tl tc, .bool true]) ∧ ArgsV w' (.slice aa al ac) m.args ∧ Toki w' (.slice ta tl tc) m.toks ∧ w' = w.drewN k

theorem ArgsV.drewN {v : Value} {args : Option (List Bs)} (h : ArgsV w v args) (k : Nat) : ArgsV (w.drewN k) v args := by
  cases args with
  | none => exact h
  | some l => exact ⟨h.1, ownsRow_only h.2 (fun _ _ => rfl)⟩

set_option maxRecDepth 100000 in
set_option maxHeartbeats 1000000 in
theorem zzMacro_some (h : HeldM w ib C s) (hx : s.mac x = some m) (hxl : x.length ≤ 1000000) :
    Calls Tryz.prog 31 #[.pointer (some ⟨ib, 0, none⟩), .string (mkS x)] w (ZZQ m w) := by
  obtain ⟨L, c5, f, m1, m2, m3⟩ := h
  obtain ⟨b, hb, S, hB, _, h0, ht, h1⟩ := m3 x m hx
  have hlook := m1.look Tryz.underlying83 zero_ptr_macro x hxl
  rw [hb] at hlook
  simp only [Option.map_some, Option.getD_some] at hlook
  obtain ⟨aa, al, ac, hS1⟩ : ∃ aa al ac, S 1 = .slice aa al ac := by
    cases hm : m.args with
    | none => rw [hm] at h1; exact ⟨_, _, _, h1⟩
    | some l => rw [hm] at h1; obtain ⟨⟨a, n, c, e⟩, _⟩ := h1; exact ⟨_, _, _, e⟩
  obtain ⟨ta, tl, tc, hS2⟩ : ∃ ta tl tc, S 2 = .slice ta tl tc := by
    obtain ⟨_, ⟨e, e0⟩ | ⟨g, cap, cur, e, _⟩⟩ := ht
    · exact ⟨_, _, _, e⟩
    · exact ⟨_, _, _, e⟩
  have ha : ArgsV w (.slice aa al ac) m.args := by
    rw [← hS1]
    cases hm : m.args with
    | none => rw [hm] at h1; exact h1
    | some l => rw [hm] at h1; exact h1
  rw [hS2] at ht
  have k1 := hB.cell_eq (i := 1) (by decide) hS1
  have k2 := hB.cell_eq (i := 2) (by decide) hS2
  have hfin : ∀ k, ZZQ m w (.returned (.tuple #[.slice aa al ac, .slice ta tl tc, .bool true])) (w.drewN k) := fun k => ⟨_, _, _, _, _, _, k, rfl, ha.drewN k, ht.drewN k, rfl⟩
  have Hfin := Lib.hid hfin
  clear hfin ha ht h1 hS1 hS2 hB h0 hb hx m1 m2 m3
  go_enter Tryz.func31, Tryz.ntmps31
  go_wp2
  go_quiet (fail)
  go_wp2
  go_ret3
  exact Hfin.out _

set_option maxRecDepth 100000 in
set_option maxHeartbeats 1000000 in
theorem zzMacro_none (h : HeldM w ib C s) (hx : s.mac x = none) (hxl : x.length ≤ 1000000) :
    Calls Tryz.prog 31 #[.pointer (some ⟨ib, 0, none⟩), .string (mkS x)] w (fun e w' => e = .returned (.tuple #[.slice none 0 0, .slice none 0 0, .bool false]) ∧ w' = w) := by
  obtain ⟨L, c5, f, m1, m2, m3⟩ := h
  have hlook := m1.look Tryz.underlying83 zero_ptr_macro x hxl
  rw [m2 x hx] at hlook
  simp only [Option.map_none, Option.getD_none] at hlook
  clear hx m1 m2 m3
  go_enter Tryz.func31, Tryz.ntmps31
  go_wp2
  go_ret3
  exact ⟨rfl, rfl⟩
end

theorem zzText_any {w : World} {k : Int} {x : ByteArray} :
    Calls Tryz.prog 32 #[.agg #[.int .i32 k, .string x]] w (fun e w' => e = .returned (.string x) ∧ w' = w.alloc (.cells #[.int .i32 k, .string x] 68)) := by
  go_enter Tryz.func32, Tryz.ntmps32
  go_wp2
  go_ret
  exact ⟨rfl, rfl⟩
/-- Tokens, as the thin package has them, as cells. -/
def cellsI (ts : List (Int × Bs)) : List Value := ts.flatMap fun t => [.int .i64 t.1, .string (mkS t.2)]
theorem cellsI_snoc (ts : List (Int × Bs)) (t : Int × Bs) : cellsI (ts ++ [t]) = cellsI ts ++ [.int .i64 t.1, .string (mkS t.2)] := by simp [cellsI]

/-- How long the texts are. -/
def sumT (l : List (Bs × ByteArray)) : Nat := (l.map fun p => p.2.size).sum

def MOQ (ob : Bool) (args : List Bs) (toks : List (Int × Bs)) (w : World) (e : Ending) (w' : World) : Prop :=
  ∃ aa al ac ta tl tc, e = .returned (.tuple #[.slice aa al ac, .slice ta tl tc, .bool ob]) ∧ Strs w' (.slice aa al ac) (args.map mkS) ∧ w'.ownsRow 0 71 2 (.slice ta tl tc) toks.length (cellsI toks) ∧ Below w.heap.size w w'

def MO1 (l : List (Bs × ByteArray)) (w : World) (n : Nat) (v24 v9 : Value) (wr : World) : Prop :=
  ∃ i, v24 = .int .i64 (i : Nat) ∧ v9 = .int .i64 ((1000 + 1000 * sumT (l.take i) : Nat) : Int) ∧ i + n = l.length ∧ Below w.heap.size w wr

theorem sumT_le (l : List (Bs × ByteArray)) (i : Nat) : sumT (l.take i) ≤ sumT l := by
  unfold sumT
  conv => rhs; rw [← List.take_append_drop i l]
  rw [List.map_append, List.sum_append]
  omega
theorem sumT_succ (l : List (Bs × ByteArray)) (i : Nat) (p : Bs × ByteArray) (h : l[i]? = some p) : sumT (l.take (i + 1)) = sumT (l.take i) + p.2.size := by
  unfold sumT
  rw [List.take_add_one, h, List.map_append, List.sum_append]
  simp

def MO2 (toks : List (Int × Bs)) (w : World) (n : Nat) (v77 v16 : Value) (wr : World) : Prop :=
  ∃ i g cap, v77 = .int .i64 (i : Nat) ∧ v16 = .slice (some ⟨g, 0, none⟩) i cap ∧ wr.ownsRow w.heap.size 71 2 (.slice (some ⟨g, 0, none⟩) i cap) i (cellsI (toks.take i)) ∧ i + n = toks.length ∧ Below w.heap.size w wr

theorem infoIT : (Tryz.prog.info? 71).map (fun i => (i.zero, i.size, i.bytes)) = some (some (.agg #[.int .i64 0, .string ⟨#[]⟩]), 2, 24) := by kernel_rfl

/-- What the macro x is at the end: its arguments, its tokens, and whether there is one. -/
def Mx (s : Sg) (x : Bs) (oa : Option (List Bs)) (TK : List (Int × Bs)) (ob : Bool) : Prop :=
  s.mac x = some ⟨oa, TK⟩ ∧ ob = true ∨ s.mac x = none ∧ oa = none ∧ TK = [] ∧ ob = false

def ZZP (ob : Bool) (oa : Option (List Bs)) (TK : List (Int × Bs)) (w : World) (e : Ending) (w' : World) : Prop :=
  ∃ aa al ac ta tl tc k, e = .returned (.tuple #[.slice aa al ac, .slice ta tl tc, .bool ob]) ∧ ArgsV w' (.slice aa al ac) oa ∧ Toki w' (.slice ta tl tc) TK ∧ w' = w.drewN k

theorem zzMacro_any {w : World} {ib : Nat} {C : Cfg} {s : Sg} {x : Bs} {oa : Option (List Bs)} {TK : List (Int × Bs)} {ob : Bool} (h : HeldM w ib C s) (hx : Mx s x oa TK ob) (hxl : x.length ≤ 1000000) :
    Calls Tryz.prog 31 #[.pointer (some ⟨ib, 0, none⟩), .string (mkS x)] w (ZZP ob oa TK w) := by
  rcases hx with ⟨hx, rfl⟩ | ⟨hx, rfl, rfl, rfl⟩
  · exact zzMacro_some h hx hxl
  · refine (zzMacro_none h hx hxl).mono ?_
    rintro e w' ⟨rfl, rfl⟩
    exact ⟨none, 0, 0, none, 0, 0, 0, rfl, rfl, ⟨rfl, .inl ⟨rfl, rfl⟩⟩, rfl⟩

section
variable {w : World}
set_option maxRecDepth 100000 in
set_option maxHeartbeats 4000000 in
theorem macroOf_any {g cap n : Nat} {l : List (Bs × ByteArray)} {text : Bs} {ts : List Tok} {s' : Sg} {x : Bs} {oa : Option (List Bs)} {TK : List (Int × Bs)} {ob : Bool} {ev : Value} (hr : Files w g cap ((mainBs, mkS text) :: l)) (hnm : ∀ p ∈ l, p.1.length ≤ 1000000) (hl : l.length < 900) (hsum : sumT ((mainBs, mkS text) :: l) < 900000)
    (htl : TL text 1 1 ts) (ha : ascii text) (hrun : Run ⟨false, tab ((mainBs, mkS text) :: l) (fun _ => none), [dotName]⟩ n ⟨[tzAb mainName ts], 0, fun _ => none, [], true, []⟩ s') (hn : n < 1000) (hx : Mx s' x oa TK ob) (hxl : x.length ≤ 1000000) (hal : (oa.getD []).length < 1000) (hml : TK.length < 1000000) (hmk : ∀ t ∈ TK, -1000000 ≤ t.1 ∧ t.1 < 1000000) (hg : Glob w ev) (hB : 21 ≤ w.heap.size) :
    Calls Tryz.prog 9 #[.slice (some ⟨g, 0, none⟩) (l.length + 1 : Nat) cap, .slice none 0 0, .string (mkS x)] w (MOQ ob (oa.getD []) TK w) := by
  have hr0 : Files w g cap ((mainBs, mkS text) :: l) := hr
  have hgl : g < w.heap.size := (ownBlock_row hr g rfl).2.lt
  have hlen : l.length + 1 ≤ cap := by
    obtain ⟨_, ⟨e, _⟩ | ⟨g', cap', cur, e, _, _, h1, h2⟩⟩ := hr
    · cases e
    · cases e; simpa using h1
  obtain ⟨L, hL⟩ : ∃ L, L = l.length + 1 := ⟨_, rfl⟩
  have k0 : w.cell? ⟨g, 0, none⟩ = some (.string mainName) := hr.cells (g := g) rfl 0 _ rfl
  have k1 : w.cell? ⟨g, 1, none⟩ = some (.string (mkS text)) := hr.cells (g := g) rfl 1 _ rfl
  rw [← hL] at hlen ⊢
  have K0 := Lib.hid k0
  have K1 := Lib.hid k1
  have HL := Lib.hid hL
  have Hr := Lib.hid hr
  have Hnm := Lib.hid hnm
  have Htl := Lib.hid htl
  have Ha := Lib.hid ha
  have Hrun := Lib.hid hrun
  have Hx := Lib.hid hx
  have Hmk := Lib.hid hmk
  have Hg := Lib.hid hg
  have Hsum := Lib.hid hsum
  have hL1 : 1 ≤ L ∧ L < 901 := by omega
  have hL2 : (((L : Nat) : Int) == 0) = false := by simp; omega
  clear hr hr0 hL hnm htl ha hrun hx hmk hg hsum
  go_enter Tryz.func9, Tryz.ntmps9
  go_wp2
  go_loopg [24, 9] L (fun n v24 v9 wr => MO1 ((mainBs, mkS text) :: l) w n v24 v9 wr)
  case atStart => exact ⟨0, rfl, rfl, by have := HL.out; simp; omega, Below.refl _ _⟩
  case round =>
    obtain ⟨i, rfl, rfl, hin, hb⟩ := hrel
    have hin2 : i + gk = L := by have := HL.out; simpa [← this] using hin
    have hs0 := sumT_le ((mainBs, mkS text) :: l) i
    have hs1 := Hsum.out
    rcases Nat.lt_or_ge i L with hlt | hge
    · obtain ⟨p, hp⟩ : ∃ p, ((mainBs, mkS text) :: l)[i]? = some p := ⟨((mainBs, mkS text) :: l)[i]'(by have := HL.out; simp; omega), List.getElem?_eq_getElem _⟩
      have hcg := cellsF_get _ i p hp
      have k0 := Hr.out.cells (g := g) rfl (2 * i) _ hcg.1
      have k1 := Hr.out.cells (g := g) rfl (2 * i + 1) _ hcg.2
      rw [Addr.add_lit, Nat.zero_add, Nat.mul_comm, ← hb.cell (p := ⟨g, i * 2, none⟩) hgl] at k0
      rw [Addr.add_lit, Nat.zero_add, Nat.mul_comm, ← hb.cell (p := ⟨g, i * 2 + 1, none⟩) hgl] at k1
      have hsu := sumT_succ _ i p hp
      have hs2 := sumT_le ((mainBs, mkS text) :: l) (i + 1)
      obtain ⟨M, hM⟩ : ∃ M, M = 1000 + 1000 * sumT (List.take i ((mainBs, mkS text) :: l)) := ⟨_, rfl⟩
      rw [← hM]
      obtain ⟨q, hq⟩ : ∃ q, q = p.2.size := ⟨_, rfl⟩
      have hM2 : M + 1000 * q = 1000 + 1000 * sumT (List.take (i + 1) ((mainBs, mkS text) :: l)) := by omega
      have hMb : M + 1000 * q < 1000000000 := by omega
      have hq2 : (p.2.size : Int) = (q : Int) := by omega
      have hlt2 : (i : Int) < (L : Int) := by omega
      have hb2 : Below w.heap.size w (wr.alloc (.cells #[.string (mkS p.1), .string p.2] 51)) := hb.alloc hb.size _
      have Hb := Lib.hid hb2
      have HM := Lib.hid hM2
      have Hin := Lib.hid hin
      have hgk : gk - 1 < gk := by omega
      have hin' : i + 1 + (gk - 1) = ((mainBs, mkS text) :: l).length := by omega
      clear hb hb2 hM2 hin hin2 hs0 hs1 hs2 hsu hM hp hcg hq
      go_wp2
      go_roundg (gk - 1)
      case measure => exact hgk
      case rel => exact ⟨i + 1, by go_num, by rw [← HM.out]; go_num, hin', Hb.out⟩
    · have e : i = L := by omega
      have hlt2 : ¬ (i : Int) < (L : Int) := by omega
      have hc0 : wr.cell? ⟨g, 0, none⟩ = some (.string mainName) := (hb.cell (p := ⟨g, 0, none⟩) hgl).trans k0
      have hc1 : wr.cell? ⟨g, 1, none⟩ = some (.string (mkS text)) := (hb.cell (p := ⟨g, 1, none⟩) hgl).trans k1
      obtain ⟨M, hM⟩ : ∃ M, M = 1000 + 1000 * sumT (List.take i ((mainBs, mkS text) :: l)) := ⟨_, rfl⟩
      rw [← hM]
      have hM1 : 1000 ≤ M := by omega
      have hM2 : M < 1000000000 := by omega
      have hFw : Files wr g cap ((mainBs, mkS text) :: l) := ownsRow_only Hr.out (fun k hk => by cases hk; exact hb.block _ hgl)
      have HF := Lib.hid hFw
      have Hb := Lib.hid hb
      have hgw : g < wr.heap.size := Nat.lt_of_lt_of_le hgl hb.size
      have hlt0 : (0 : Int) < (L : Int) := by omega
      clear hb hFw hin hin2 hs0 hs1 hM e k0 k1
      have htab : ∀ k, Calls Tryz.prog 27 #[.slice (some ⟨g, 0, none⟩) L cap] (wr.drewN k) (TabQ ((mainBs, mkS text) :: l) (wr.drewN k)) := fun k => by
        have h := tableOf_any (w := wr.drewN k) (l := (mainBs, mkS text) :: l) (g := g) (cap := cap) (ownsRow_only HF.out (fun _ _ => rfl)) (fun p hp => by
          rcases List.mem_cons.1 hp with e | hp
          · rw [e]; exact (by decide : mainBs.length ≤ 1000000)
          · exact Hnm.out p hp) (by simp; omega)
        rwa [show ((mainBs, mkS text) :: l).length = L from HL.out.symm] at h
      have Htab := Lib.hid htab
      have hlt00 : 0 < L := by omega
      clear htab
      go_wp2_with fail
      go_region_held3 (fun w' => w'.cell? ⟨g, 0, none⟩ = some (.string mainName)) (first | exact hc0 | assumption)
        (first
          | (go_at_call 27; refine (Htab.out _).mono ?_; rintro e w1 ⟨fb, rfl, hfm, hfb, hbel⟩; have hd0 : w1.cell? ⟨g, 0, none⟩ = some (.string mainName) := (hbel.cell (p := ⟨g, 0, none⟩) hgw).trans hc0; have HBel : Hid (Below wr.heap.size wr w1) := Lib.hid ⟨hbel.os, hbel.tape, hbel.output, hbel.size, hbel.block⟩; have HFM := Lib.hid hfm; clear hfm hfb hbel)
          | (go_at_call 26; refine (newInput_any (B := w.heap.size) (bl := false) (inc := []) (F := tab ((mainBs, mkS text) :: l) (fun _ => none)) HFM.out ⟨rfl, .inl ⟨rfl, rfl⟩⟩ (Nat.le_trans Hb.out.size HBel.out.size) (by decide)).mono ?_; rintro e w2 ⟨ib, mb, rfl, hheld, hbel2, hle⟩; have hgw1 : g < w1.heap.size := Nat.lt_of_lt_of_le hgw HBel.out.size; have hd1 : w2.cell? ⟨g, 0, none⟩ = some (.string mainName) := (hbel2.cell (p := ⟨g, 0, none⟩) hgw1).trans hd0; have hd2 : w2.cell? ⟨g, 1, none⟩ = some (.string (mkS text)) := (hbel2.cell (p := ⟨g, 1, none⟩) hgw1).trans ((HBel.out.cell (p := ⟨g, 1, none⟩) hgw).trans hc1); have HBel2 := Lib.hid hbel2; have HHeld := Lib.hid hheld; have Hle := Lib.hid hle; clear hbel2 hheld hle))
      clear Htab HFM HF hc0 hc1 hd0
      obtain ⟨q, hq⟩ : ∃ q, q = text.length := ⟨_, rfl⟩
      have hqs : q < 900000 := by
        have h1 := Hsum.out
        have h2 := mkS_size text
        simp only [sumT, List.map_cons, List.sum_cons] at h1
        omega
      have hqm : (mkS text).size = q := by rw [mkS_size, hq]
      have hBel3 : Below w.heap.size w w2 := (Hb.out.trans ⟨HBel.out.os, HBel.out.tape, HBel.out.output, HBel.out.size, fun k hk => HBel.out.block k (Nat.lt_of_lt_of_le hk Hb.out.size)⟩).trans ⟨HBel2.out.os, HBel2.out.tape, HBel2.out.output, HBel2.out.size, fun k hk => HBel2.out.block k (Nat.lt_of_lt_of_le hk (Nat.le_trans Hb.out.size HBel.out.size))⟩
      have hgw2 : g < w2.heap.size := Nat.lt_of_lt_of_le hgw1 HBel2.out.size
      have hk : ∀ k o, ((w2.drewN k).alloc o).cell? ⟨g, 0, none⟩ = some (.string mainName) ∧ ((w2.drewN k).alloc o).cell? ⟨g, 1, none⟩ = some (.string (mkS text)) := fun k o => by
        have hb : Below w2.heap.size w2 ((w2.drewN k).alloc o) := (below_drewN (Below.refl _ _) k).alloc (Nat.le_refl _) _
        exact ⟨(hb.cell (p := ⟨g, 0, none⟩) hgw2).trans hd1, (hb.cell (p := ⟨g, 1, none⟩) hgw2).trans hd2⟩
      have htok : ∀ k, Calls Tryz.prog 29 #[.string mainName, .iface 59 (.pointer (some ⟨w2.heap.size, 0, none⟩))] ((w2.drewN k).alloc (.cells #[.string (mkS text), .int .i64 q] 61)) (NewTQ w.heap.size w2.heap.size (.iface 59 (.pointer (some ⟨w2.heap.size, 0, none⟩))) mainName text ((w2.drewN k).alloc (.cells #[.string (mkS text), .int .i64 q] 61))) := fun k =>
        newTok_any (B := w.heap.size) (by have := hBel3.size; simp; omega) ⟨hBel3.size, .inl ⟨rfl, _, q, Blk.lit (w2.drewN k) _ _, rfl, rfl, by omega, by omega⟩⟩ (by simp) Ha.out (by omega)
      have HK := Lib.hid hk
      have Htok := Lib.hid htok
      have HBel3 := Lib.hid hBel3
      have Hq := Lib.hid hq
      clear hk htok hBel3 hq
      go_wp2_with fail
      go_region_held3 (fun w' => w'.cell? ⟨g, 0, none⟩ = some (.string mainName) ∧ w'.cell? ⟨g, 1, none⟩ = some (.string (mkS text))) (first | exact ⟨hd1, hd2⟩ | exact HK.out _ _ | assumption)
        (first
          | (go_at_call 29; refine (Htok.out _).mono ?_; rintro e w3 ⟨tz, sb, bb, rfl, hz, hpb, h1, h2, h3, hbel4⟩; have hb5 : Below w2.heap.size w2 w3 := ((below_drewN (Below.refl _ _) _).alloc (Nat.le_refl _) _).trans (hbel4.mono (by simp)); have hw3 : w3.cell? ⟨g, 0, none⟩ = some (.string mainName) ∧ w3.cell? ⟨g, 1, none⟩ = some (.string (mkS text)) := ⟨(hb5.cell (p := ⟨g, 0, none⟩) hgw2).trans hd1, (hb5.cell (p := ⟨g, 1, none⟩) hgw2).trans hd2⟩; have hle1 : w2.heap.size ≤ tz := Nat.le_trans (by simp) h1; have hle2 : w2.heap.size ≤ sb := Nat.le_trans (by simp) h2; have HB5 := Lib.hid hb5; have HZ := Lib.hid hz; have HPB := Lib.hid hpb; have HL1 := Lib.hid hle1; have HL2 := Lib.hid hle2; clear hb5 hz hpb hle1 hle2 h1 h2 h3 hbel4)
          | (go_at_call 28; refine (inPush_tz HHeld.out HB5.out HZ.out HPB.out HL1.out HL2.out (Nat.le_refl _) Htl.out (by have := Hq.out; omega) (by decide)).mono ?_; rintro e w4 hq4; have hb6 : Below w.heap.size w w4 := (HBel3.out.trans (HB5.out.mono HBel3.out.size)).trans (hq4.2.2.below (Nat.le_trans HBel3.out.size HB5.out.size)); have hw4 : w4.cell? ⟨g, 0, none⟩ = some (.string mainName) ∧ w4.cell? ⟨g, 1, none⟩ = some (.string (mkS text)) := ⟨(((HBel3.out.trans (HB5.out.mono HBel3.out.size)).trans (hq4.2.2.below (Nat.le_trans HBel3.out.size HB5.out.size))).cell (p := ⟨g, 0, none⟩) hgl).trans K0.out, (((HBel3.out.trans (HB5.out.mono HBel3.out.size)).trans (hq4.2.2.below (Nat.le_trans HBel3.out.size HB5.out.size))).cell (p := ⟨g, 1, none⟩) hgl).trans K1.out⟩; have HB6 := Lib.hid hb6; have Hheld4 := Lib.hid hq4.2.1; obtain ⟨rfl, _⟩ := hq4; clear hb6))
      clear hw3 hw4 HZ HPB HL1 HL2 Htok HK HHeld HB5 HBel HBel2 Hle hd1 hd2
      have hra := readAll_ok (n := n) (most := M) (s' := s') Hheld4.out Hrun.out (by omega) hM2 rfl (Hg.out.only (Only.ofBelow HB6.out) (fun k hk e => by omega)) hB
      have Hra := Lib.hid hra
      clear hra
      go_wp2_with fail
      refine Hra.out.mono ?_
      rintro e w5 ⟨rfl, hm5, hs5⟩
      have hzz := zzMacro_any hm5 Hx.out hxl
      have hb5 : Below w.heap.size w w5 := HB6.out.trans (hs5.below HB6.out.size)
      have Hzz := Lib.hid hzz
      have HB7 := Lib.hid hb5
      clear Hra hm5 hs5 hzz hb5
      go_wp2_with fail
      refine Hzz.out.mono ?_
      rintro e w6 ⟨aa, al, ac, ta, tl, tc, k6, rfl, hA, hT, rfl⟩
      have HA := Lib.hid hA
      have HT := Lib.hid hT
      clear hA hT Hzz
      go_wp2_with fail
      obtain ⟨tn, htn⟩ : ∃ tn, tn = TK.length := ⟨_, rfl⟩
      have htl : tl = tn := by
        obtain ⟨_, ⟨e, e0⟩ | ⟨_, _, _, e, _⟩⟩ := HT.out
        · cases e; omega
        · cases e; exact htn.symm
      subst htl
      have HTN := Lib.hid htn
      have hb6 := below_drewN HB7.out k6
      have HB8 := Lib.hid hb6
      clear hb6 HB7 htn
      obtain ⟨nb, hnb⟩ : ∃ nb, nb = w5.heap.size := ⟨_, rfl⟩
      rw [← hnb]
      have hnb' : (w5.drewN k6).heap.size = nb := hnb.symm
      clear hnb
      generalize w5.drewN k6 = w6 at HA HT HB8 hnb' ⊢
      have hst : MO2 TK w6 tl (.int .i64 0) (.slice (some ⟨nb, 0, none⟩) 0 0) (w6.alloc (.cells #[] 71)) :=
        ⟨0, _, _, rfl, rfl, hnb' ▸ ⟨rfl, .inr ⟨w6.heap.size, 0, _, rfl, Nat.le_refl _, heap_alloc_new w6 _, Nat.le_refl _, by unfold maxLen; omega, rfl, rfl⟩⟩, by have := HTN.out; omega, (Below.refl _ _).alloc (Nat.le_refl _) _⟩
      have Hst := Lib.hid hst
      have HNB := Lib.hid hnb'
      clear hst hnb'
      change Code.wp _ _ _ _ (World.alloc _ _)
      generalize hw7 : w6.alloc (.cells #[] 71) = w7
      rw [hw7] at Hst
      clear hw7
      go_loopg [77, 16] tl (fun n v77 v16 wr => MO2 TK w6 n v77 v16 wr)
      case atStart => exact Hst.out
      case round =>
        obtain ⟨i, gg, cc, rfl, rfl, hrow, hin, hbr⟩ := hrel
        have htn := HTN.out
        rcases Nat.lt_or_ge i tl with hlt | hge
        · obtain ⟨t, ht⟩ : ∃ t, TK[i]? = some t := ⟨TK[i]'(by omega), List.getElem?_eq_getElem _⟩
          obtain ⟨gt, ct, hv, hc1, hc2, hk0, hk1⟩ := HT.out.cell ht
          obtain ⟨rfl, hlv, rfl⟩ : ta = some ⟨gt, 0, none⟩ ∧ tl = TK.length ∧ tc = ct := by cases hv; exact ⟨rfl, rfl, rfl⟩
          have hgt : gt < w6.heap.size := (ownBlock_row HT.out gt rfl).2.lt
          rw [← hbr.cell (p := ⟨gt, i * 2, none⟩) hgt] at hk0
          rw [← hbr.cell (p := ⟨gt, i * 2 + 1, none⟩) hgt] at hk1
          have hkb := Hmk.out t (List.mem_of_getElem? ht)
          have e1 : IntKind.i64.wrap t.1 = t.1 := IntWalk.i64_in _ (by omega)
          have hlt2 : (i : Int) < (tl : Int) := by omega
          have hlen2 : tl ≤ tc := by omega
          obtain ⟨wb, hwb⟩ : ∃ wb, wb = wr.alloc (.cells #[.int .i32 t.1, .string (mkS t.2)] 68) := ⟨_, rfl⟩
          obtain ⟨pb, hpb⟩ : ∃ pb, pb = wr.heap.size := ⟨_, rfl⟩
          have hbk := hwb ▸ hpb ▸ Blk.lit wr #[.int .i32 t.1, .string (mkS t.2)] 68
          have c0 : wb.cell? ⟨pb, 0, none⟩ = some (.int .i32 t.1) := hbk.cell (i := 0) (by simp)
          have c1 : wb.cell? ⟨pb, 1, none⟩ = some (.string (mkS t.2)) := hbk.cell (i := 1) (by simp)
          have hpw : wb.heap.size = pb + 1 := by rw [hwb, hpb]; simp
          have hrow2 : wb.ownsRow w6.heap.size 71 2 (.slice (some ⟨gg, 0, none⟩) i cc) i (cellsI (TK.take i)) := hwb ▸ hrow.alloc _
          have HROW := Lib.hid hrow2
          have HBR0 := hbr
          have hkeep : ∀ w'', Below wb.heap.size wb w'' → w''.cell? ⟨pb, 0, none⟩ = some (.int .i32 t.1) ∧ w''.cell? ⟨pb, 1, none⟩ = some (.string (mkS t.2)) := fun w'' h =>
            ⟨(h.cell (p := ⟨pb, 0, none⟩) (by show pb < _; omega)).trans c0, (h.cell (p := ⟨pb, 1, none⟩) (by show pb < _; omega)).trans c1⟩
          have hkeep2 := hkeep (((wb.alloc (.cells #[.int .i32 t.1, .string (mkS t.2)] 68)).alloc (.cells #[.int .i64 t.1, .string (mkS t.2)] 71)).drew) ((((Below.refl _ _).alloc (Nat.le_refl _) _).alloc (by simp) _).drew)
          have HKEEP2 := Lib.hid hkeep2
          have hgg := ownBlock_row hrow gg rfl
          have hgb : w6.heap.size ≤ gg := hgg.1
          have hgp : (some pb : Option Nat) ≠ (Value.slice (some ⟨gg, 0, none⟩) i cc).ownBlock := by
            intro e
            have := hgg.2.lt
            simp [Value.ownBlock] at e
            omega
          have HGP := Lib.hid hgp
          clear hgp hgg hkeep2
          have HKEEP := Lib.hid hkeep
          clear hkeep
          obtain ⟨i0, hi0, hz0, hz1, hz2⟩ := info_parts infoIT
          have hnews : ∀ j u, [Value.int .i64 t.1, .string (mkS t.2)][j]? = some u → (((wb.alloc (.cells #[.int .i32 t.1, .string (mkS t.2)] 68)).alloc (.cells #[.int .i64 t.1, .string (mkS t.2)] 71)).drew).cell? (Addr.add ⟨wb.heap.size + 1, 0, none⟩ j) = some u := by
            have h1 := World.news_of_block (w := (wb.alloc (.cells #[.int .i32 t.1, .string (mkS t.2)] 68)).alloc (.cells #[.int .i64 t.1, .string (mkS t.2)] 71)) (cs := #[.int .i64 t.1, .string (mkS t.2)]) (t := 71) (fr := (0, 0)) (heap_alloc_new _ _)
            simpa using h1
          have HNEWS := Lib.hid hnews
          have hbw : w6.heap.size ≤ wb.heap.size := by rw [hwb]; have := HBR0.size; simp; omega
          clear hnews
          have HPW := Lib.hid hpw
          have HT2 := Lib.hid ht
          have HIN := Lib.hid hin
          have HBR := Lib.hid hbr
          have hi1 : i < 1000000 := by omega
          clear hrow hrow2 hbk hpw hv hc1 hc2 ht hin hbr htn hkb hgt hlv
          go_upto_region 18 with (fail)
          rw [← hwb, ← hpb]
          have HWB := Lib.hid hwb
          have HPB := Lib.hid hpb
          clear hwb hpb
          go_region_held3 (fun w' => w'.cell? ⟨pb, 0, none⟩ = some (.int .i32 t.1) ∧ w'.cell? ⟨pb, 1, none⟩ = some (.string (mkS t.2)))
            (first | exact ⟨c0, c1⟩ | exact HKEEP.out _ ((below_drewN (Below.refl _ _) _).alloc (Nat.le_refl _) _) | exact HKEEP.out _ (((below_drewN (Below.refl _ _) _).alloc (Nat.le_refl _) _).alloc (by simp) _) | assumption)
            (first
              | (go_at_call 32; refine zzText_any.mono ?_; rintro e w8 ⟨rfl, rfl⟩)
              | (refine step_append_lies _ (by rfl) _ _ _ (by rfl) w6.heap.size 71 i0 _ 2 24 Tryz.underlying28 hi0 hz0 hz1 hz2 rfl (by omega) (.slice (some ⟨gg, 0, none⟩) i cc) i (cellsI (TK.take i)) (by rfl) (((HROW.out.alloc _).alloc _).drew)
                  ⟨wb.heap.size + 1, 0, none⟩ 1 1 [.int .i64 t.1, .string (mkS t.2)] (by rfl) (by rfl) HNEWS.out (by simp [Value.oneCell']) (by omega) (by unfold maxLen; omega) (by omega) (by simp; omega) (wb.heap.size + 2) (by simp) ?_; intro g9 c9 w9 hown9 hgrow9 hat9 hlt9; have hw9 : w9.cell? ⟨pb, 0, none⟩ = some (.int .i32 t.1) ∧ w9.cell? ⟨pb, 1, none⟩ = some (.string (mkS t.2)) := ⟨(hgrow9.cell_far ⟨pb, 0, none⟩ (by have := HPW.out; simp; omega) HGP.out).trans (HKEEP2.out).1, (hgrow9.cell_far ⟨pb, 1, none⟩ (by have := HPW.out; simp; omega) HGP.out).trans (HKEEP2.out).2⟩; have HOWN9 := Lib.hid hown9; have HGROW9 := Lib.hid hgrow9; clear hown9 hgrow9 hat9 hlt9))
          have hb9 : Below w6.heap.size w6 w9 := by
            have h1 : Below w6.heap.size w6 (((wb.alloc (.cells #[.int .i32 t.1, .string (mkS t.2)] 68)).alloc (.cells #[.int .i64 t.1, .string (mkS t.2)] 71)).drew) := by
              rw [HWB.out]
              exact (((HBR.out.alloc HBR.out.size _).alloc (by have := HBR.out.size; simp; omega) _).alloc (by have := HBR.out.size; simp; omega) _).drew
            exact h1.trans ⟨HGROW9.out.os, HGROW9.out.tape, HGROW9.out.output, HGROW9.out.size, fun k hk => HGROW9.out.block k (by simp; omega) (fun e => by simp [Value.ownBlock] at e; omega)⟩
          have hown10 : w9.ownsRow w6.heap.size 71 2 (.slice (some ⟨g9, 0, none⟩) (i + 1) c9) (i + 1) (cellsI (TK.take (i + 1))) := by
            have e : TK.take (i + 1) = TK.take i ++ [t] := by rw [List.take_add_one, HT2.out]; rfl
            rw [e, cellsI_snoc]
            exact HOWN9.out
          have hgk : gk - 1 < gk := by have := HIN.out; have := HTN.out; omega
          have hin' : i + 1 + (gk - 1) = TK.length := by have := HIN.out; have := HTN.out; omega
          have HB9 := Lib.hid hb9
          have HOWN10 := Lib.hid hown10
          clear hb9 hown10
          go_wp2
          go_roundg (gk - 1)
          case measure => exact hgk
          case rel => exact ⟨i + 1, g9, c9, by go_num, rfl, HOWN10.out, hin', HB9.out⟩
        · have e : i = TK.length := by omega
          have hlt2 : ¬ (i : Int) < (tl : Int) := by omega
          rw [e, List.take_length] at hrow
          have hi2 : i = TK.length := e
          have HI3 := Lib.hid hi2
          rw [← hi2] at hrow
          obtain ⟨wz, hwz⟩ : ∃ wz, wz = wr.alloc (.cells #[] 9) := ⟨_, rfl⟩
          obtain ⟨zb, hzb⟩ : ∃ zb, zb = wr.heap.size := ⟨_, rfl⟩
          have hrz : wz.ownsRow zb 9 1 (.slice (some ⟨zb, 0, none⟩) 0 0) 0 [] := by
            rw [hwz, hzb]
            exact ⟨rfl, .inr ⟨wr.heap.size, 0, _, rfl, Nat.le_refl _, heap_alloc_new wr _, Nat.le_refl _, by unfold maxLen; omega, rfl, rfl⟩⟩
          have hbz : Below w6.heap.size w6 wz := hwz ▸ hbr.alloc hbr.size _
          have hzl : w6.heap.size ≤ zb := hzb ▸ hbr.size
          have hzs : zb ≤ wz.heap.size := by rw [hwz, hzb]; simp
          have hrowz : wz.ownsRow w6.heap.size 71 2 (.slice (some ⟨gg, 0, none⟩) i cc) i (cellsI TK) := hwz ▸ hrow.alloc _
          have hggz : gg < zb := hzb ▸ (ownBlock_row hrow gg rfl).2.lt
          have hAw : w6.ownsRow 0 9 1 (.slice aa al ac) (oa.getD []).length (((oa.getD []).map mkS).map Value.string) := by
            have h := HA.out
            cases hm : oa with
            | none => rw [hm] at h; have h' : Value.slice aa al ac = .slice none 0 0 := h; rw [h']; exact ⟨rfl, .inl ⟨rfl, rfl⟩⟩
            | some l' => rw [hm] at h; simpa [Strs] using h.2
          have hAz : wz.ownsRow 0 9 1 (.slice aa al ac) (oa.getD []).length (((oa.getD []).map mkS).map Value.string) := ownsRow_only hAw (fun k hk => hbz.block k (ownBlock_row hAw k hk).2.lt)
          have HRZ := Lib.hid hrz
          have HAZ := Lib.hid hAz
          have HBZ := Lib.hid hbz
          have HROWZ := Lib.hid hrowz
          clear hrow hbr hAw hAz hrz hbz hrowz hin htn e hi2 hge
          subst hwz
          subst hzb
          go_wp2_with (at_builtin; refine wpList_append_strs rfl _ _ rfl wr.heap.size _ _ rfl rfl 0 (oa.getD []).length [] _ HRZ.out HAZ.out ?c1 ?c2 ?c3 ?_)
          case c2 => omega
          intro v' w9 hown' hgrow
          obtain ⟨gz, cz, rfl⟩ : ∃ a cap, v' = .slice a (oa.getD []).length cap := by
            obtain ⟨_, ⟨e, h0⟩ | ⟨g, cap, cur, e, _⟩⟩ := hown'
            · exact ⟨none, 0, by rw [e]; congr 1; omega⟩
            · exact ⟨some ⟨g, 0, none⟩, cap, e⟩
          have hfin : MOQ ob (oa.getD []) TK w (.returned (.tuple #[.slice gz (oa.getD []).length cz, .slice (some ⟨gg, 0, none⟩) i cc, .bool ob])) w9 := by
            have hg9 : ∀ k, k < wr.heap.size → w9.heap[k]? = (wr.alloc (.cells #[] 9)).heap[k]? := fun k hk => hgrow.block k (by simp; omega) (fun e => by simp [Value.ownBlock] at e; omega)
            have hb9 : Below w6.heap.size w6 w9 := HBZ.out.trans ⟨hgrow.os, hgrow.tape, hgrow.output, hgrow.size, fun k hk => hg9 k (by omega)⟩
            refine ⟨_, _, _, _, _, _, rfl, ?_, ?_, HB8.out.trans ⟨hb9.os, hb9.tape, hb9.output, hb9.size, fun k hk => hb9.block k (by have := HB8.out.size; omega)⟩⟩
            · have h := row_zero hown'
              simpa [Strs] using h
            · have h := row_zero HROWZ.out
              have hi3 := HI3.out
              rw [hi3] at h ⊢
              exact ownsRow_only h (fun k hk => by cases hk; exact hg9 _ hggz)
          have Hfin := Lib.hid hfin
          clear hfin hown' hgrow
          go_wp2
          go_ret3
          exact Hfin.out
end
end Go.Proofs.YtkoeeolmbhobkaaGreatDoor

/- MacroOf at one file. -/
namespace Go.Proofs.YtkoeeolmbhobkaaGreatDoor
open Go Go.RowKit Lex Go.Proofs.YtkoeeolmbhobkaaGreatDoorW.PrintWords Go.Proofs.YtkoeeolmbhobkaaGreatDoor.PHelp
set_option linter.unusedVariables false
set_option linter.unusedSimpArgs false

/-- The thin package's tokens. -/
def s56 (t : Int × Bs) : S71 := ⟨t.1, mkS t.2⟩
theorem cellsI_get : ∀ (ts : List (Int × Bs)) (i : Nat) (t : Int × Bs), ts[i]? = some t → (cellsI ts)[2 * i]? = some (.int .i64 t.1) ∧ (cellsI ts)[2 * i + 1]? = some (.string (mkS t.2))
  | [], i, t, h => by simp at h
  | s :: r, 0, t, h => by
    simp at h; subst h
    exact ⟨rfl, rfl⟩
  | s :: r, i + 1, t, h => by
    have := cellsI_get r i t (by simpa using h)
    rw [show 2 * (i + 1) = 2 * i + 2 by omega, show 2 * i + 2 + 1 = 2 * i + 1 + 2 by omega]
    exact this

theorem kd_tokens {w : World} {ta : Option Addr} {tl tc : Nat} {toks : List (Int × Bs)} (h : w.ownsRow 0 71 2 (.slice ta tl tc) toks.length (cellsI toks)) : tl = (toks.map s56).length ∧ (toks.map s56).length ≤ tc ∧ Kd.C k71 w ta (toks.map s56).length (toks.map s56) := by
  have h' := h
  obtain ⟨h1, ⟨e, e0⟩ | ⟨g, cap, cur, e, _, hb, h2, h3, h4, h5⟩⟩ := h
  · cases e
    have : toks = [] := List.eq_nil_of_length_eq_zero e0
    subst this
    exact ⟨rfl, by simp, rfl, by simp, fun h => absurd h (by simp)⟩
  · cases e
    refine ⟨by simp, by simpa using h2, rfl, by unfold maxLen at h3; simp; omega, fun _ => ⟨⟨g, 0, none⟩, rfl, fun j p hp => ?_⟩⟩
    rw [List.getElem?_map] at hp
    obtain ⟨t, ht, rfl⟩ := Option.map_eq_some_iff.1 hp
    have hc := cellsI_get toks j t ht
    have a := h'.cells (g := g) rfl (2 * j) _ hc.1
    have b := h'.cells (g := g) rfl (2 * j + 1) _ hc.2
    refine ⟨[.int .i64 t.1, .string (mkS t.2)], rfl, ⟨[.int .i64 t.1], [.string (mkS t.2)], rfl, rfl, rfl⟩, fun i u hu => ?_⟩
    match i, hu with
    | 0, hu => cases hu; rw [show j * k71.sz + 0 = 2 * j by show j * 2 + 0 = _; omega]; exact a
    | 1, hu => cases hu; rw [show j * k71.sz + 1 = 2 * j + 1 by show j * 2 + 1 = _; omega]; exact b
    | i + 2, hu => simp at hu

def yMain (text : Bs) : Wy := ⟨false, tab [(mainBs, mkS text)] (fun _ => none), [dotName]⟩

/-- MacroOf at one file. -/
theorem mof {w : World} {text : Bs} {ts : List Tok} {n : Nat} {s' : Sg} {x : Bs} {oa : Option (List Bs)} {TK : List (Int × Bs)} {ob : Bool} {ev : Value} (hlen : text.length < 900000)
    (htl : TL text 1 1 ts) (ha : ascii text) (hrun : Run (yMain text) n ⟨[tzAb mainName ts], 0, fun _ => none, [], true, []⟩ s') (hn : n < 1000) (hx : Mx s' x oa TK ob) (hxl : x.length ≤ 1000000) (hal : (oa.getD []).length < 1000) (hml : TK.length < 1000000) (hmk : ∀ t ∈ TK, -1000000 ≤ t.1 ∧ t.1 < 1000000) (hg : Glob w ev) (hB : 21 ≤ w.heap.size) :
    Calls Tryz.prog 9 #[.slice (some ⟨w.heap.size, 0, none⟩) 1 1, .slice none 0 0, .string (mkS x)] (w.alloc (.cells #[.string mainName, .string (mkS text)] 51)) (MOQ ob (oa.getD []) TK (w.alloc (.cells #[.string mainName, .string (mkS text)] 51))) := by
  have hb : Below w.heap.size w (w.alloc (.cells #[.string mainName, .string (mkS text)] 51)) := (Below.refl _ _).alloc (Nat.le_refl _) _
  refine macroOf_any (l := []) (files_one w _) (by simp) (by simp) ?_ htl ha hrun hn hx hxl hal hml hmk (hg.only (Only.ofBelow hb) (fun k hk e => by omega)) (Nat.le_trans hB hb.size)
  simp only [sumT, List.map_cons, List.map_nil, List.sum_cons, List.sum_nil, mkS_size]
  omega

end Go.Proofs.YtkoeeolmbhobkaaGreatDoor
