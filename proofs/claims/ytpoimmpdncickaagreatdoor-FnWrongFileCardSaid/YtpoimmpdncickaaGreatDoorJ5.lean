/- The scanner's Scan, all kinds of tokens. -/
import Derived.Test.YtpoimmpdncickaaGreatDoorJ4
import Derived.WalkMore
/- Scan, the first piece: white space is passed over, the token's place is noted. -/
namespace Go.Proofs.YtpoimmpdncickaaGreatDoor
open Go Go.RowKit Lex
set_option linter.unusedVariables false
set_option linter.unusedSimpArgs false

theorem Rel.drop {N N' : Nums} {r : Bs} {col : Nat} {x : Option Bs} (h : Rel N false r col x) (e : N' = { N with tp := -1 }) : Rel N' false r col none := by
  subst e
  refine { ple := h.ple, fle := h.fle, sent := h.sent, lll := h.lll, asc := h.asc, clen := h.clen, col1 := h.col1, lc := h.lc, unread := h.unread, atChar := h.atChar, cols := ?_, tok := rfl }
  have := h.cols
  cases r <;> exact this

theorem Rel.lcle {N : Nums} {r : Bs} {col : Nat} {x : Option Bs} (h : Rel N false r col x) : N.lc ≤ N.p := by
  have hlc := h.lc
  cases r with
  | nil => simp at hlc; omega
  | cons c t => simp at hlc; have := (h.atChar rfl c t rfl).1; omega

theorem Rel.start {N N' : Nums} {r : Bs} {col : Nat} (h : Rel N false r col none) (e : N' = { N with y := [], tp := (N.p : Int) - (N.lc : Int) }) : Rel N' false r col (some []) := by
  subst e
  have hl := h.lcle
  refine { ple := h.ple, fle := h.fle, sent := h.sent, lll := h.lll, asc := h.asc, clen := h.clen, col1 := h.col1, lc := h.lc, unread := h.unread, atChar := h.atChar, cols := ?_, tok := ?_ }
  · have := h.cols
    cases r <;> exact this
  · refine ⟨rfl, N.p - N.lc, ?_, Nat.le_refl _, hl, ?_⟩
    · show (N.p : Int) - (N.lc : Int) = ((N.p - N.lc : Nat) : Int)
      omega
    · show [] ++ seg N.buf (N.p - N.lc) (N.p - N.lc - (N.p - N.lc)) = []
      rw [Nat.sub_self, seg_zero]; rfl

/-- Reset, on the scanner's block. -/
def SmReset (B sb rb : Nat) (rv : Value) (tk : Option Nat) (N : Nums) (w : World) (e : Ending) (w' : World) : Prop :=
  e = .returned (.tuple #[]) ∧ SM w' B sb rb rv tk { N with y := [] } ∧ Only (fun k => k = sb) w w'
theorem sm_reset {B sb rb : Nat} {rv : Value} {tk : Option Nat} {N : Nums} {w : World} (h : SM w B sb rb rv tk N) :
    Calls Tryz.prog 118 #[.pointer (some ⟨sb, 1033, none⟩)] w (SmReset B sb rb rv tk N w) := by
  have hne := h.ne_rb
  obtain ⟨S, hS⟩ := h
  refine (reset_any sb B tk S w hS.blk N.y hS.tb).mono ?_
  rintro e w' ⟨rfl, S', hb, hs, ht, ho⟩
  exact ⟨rfl, ⟨S', { blk := hb, low := hS.low, rdr := hS.rdr.only ho (fun e => hne e.symm), tb := ht, s0 := (hs 0 (by omega)).trans hS.s0, sbuf := fun i hi => (hs _ (by omega)).trans (hS.sbuf i hi), s1026 := (hs 1026 (by omega)).trans hS.s1026, s1027 := (hs 1027 (by omega)).trans hS.s1027, s1028 := (hs 1028 (by omega)).trans hS.s1028, s1029 := (hs 1029 (by omega)).trans hS.s1029, s1030 := (hs 1030 (by omega)).trans hS.s1030, s1031 := (hs 1031 (by omega)).trans hS.s1031, s1032 := (hs 1032 (by omega)).trans hS.s1032, s1036 := (hs 1036 (by omega)).trans hS.s1036, s1037 := (hs 1037 (by omega)).trans hS.s1037, s1038 := (hs 1038 (by omega)).trans hS.s1038, s1040 := (hs 1040 (by omega)).trans hS.s1040, s1045 := (hs 1045 (by omega)).trans hS.s1045, s1046 := (hs 1046 (by omega)).trans hS.s1046, s1047 := (hs 1047 (by omega)).trans hS.s1047, s1039 := (hs 1039 (by omega)).trans hS.s1039, s1041 := (hs 1041 (by omega)).trans hS.s1041, s1042 := (hs 1042 (by omega)).trans hS.s1042, s1043 := (hs 1043 (by omega)).trans hS.s1043, s1044 := (hs 1044 (by omega)).trans hS.s1044 }⟩, ho⟩

def WsLoop (B sb rb : Nat) (rv : Value) (tk : Option Nat) (ch : Int) (x r' : Bs) (col : Nat) (w : World) (k : Nat) (v3 : Value) (wr : World) : Prop :=
  ∃ x1 x2 tk1, x = x1 ++ x2 ∧ k = x2.length ∧ v3 = .int .i32 (headCh (x2 ++ r')) ∧ St wr B sb rb rv tk1 ch false (x2 ++ r') (adv col x1) none ∧ Mv sb rb w tk wr tk1

/-- The walk's word for 'is white space'. -/
def wsI (n : Int) : Bool := (bits BinOp.and .u64 4294976000 (IntKind.u64.wrap (2 ^ min (IntKind.u64.wrap n).toNat 64)) != 0)
theorem wsI_fin : ∀ n : Fin 128, wsI n.val = isWs (UInt8.ofNat n.val) := by decide
theorem wsI_of {c : UInt8} (h : c < 128) : wsI c.toNat = isWs c := by
  have hn : c.toNat < 128 := by simpa [UInt8.lt_iff_toNat_lt] using h
  have := wsI_fin ⟨c.toNat, hn⟩
  simpa using this
theorem wsI_ends {r : Bs} (ha : ascii r) (he : ends isWs r) : wsI (headCh r) = false := by
  cases r with
  | nil => decide
  | cons c t => exact (wsI_of (ha c (by simp))).trans (he c rfl)

theorem idr_first {c : UInt8} {t : Bs} (h : isLet c = true) (hc : c < 128) : idrI (headCh (c :: t)) 0 = true := by
  show idr c.toNat 0 = true
  have := letN_isLet c hc
  rw [h] at this
  unfold idr
  rw [show (c.toNat == 95) = (c == 95) by
    by_cases h : c = 95
    · subst h; decide
    · rw [beq_eq_false_iff_ne.2 h]
      exact beq_eq_false_iff_ne.2 (fun e => h (UInt8.toNat_inj.1 e))]
  rw [this]; rfl
theorem idr_not {c : UInt8} {t : Bs} (h : isLet c = false) (hc : c < 128) : idrI (headCh (c :: t)) 0 = false := by
  show idr c.toNat 0 = false
  have := letN_isLet c hc
  rw [h] at this
  unfold idr
  rw [show (c.toNat == 95) = (c == 95) by
    by_cases h : c = 95
    · subst h; decide
    · rw [beq_eq_false_iff_ne.2 h]
      exact beq_eq_false_iff_ne.2 (fun e => h (UInt8.toNat_inj.1 e))]
  rw [this]; rfl

set_option maxRecDepth 100000 in
theorem dig_let_fin : ∀ n : Fin 256, isDig (UInt8.ofNat n.val) = true → isLet (UInt8.ofNat n.val) = false := by decide
theorem dig_let {c : UInt8} (h : isDig c = true) : isLet c = false := by
  have := dig_let_fin ⟨c.toNat, UInt8.toNat_lt c⟩
  simp only [UInt8.ofNat_toNat] at this
  exact this h
theorem dig_dec {c : UInt8} (h : isDig c = true) : (decide (48 ≤ (c.toNat : Int)) && decide ((c.toNat : Int) ≤ 57)) = true := by
  unfold isDig at h
  simp only [Bool.and_eq_true, decide_eq_true_eq, UInt8.le_iff_toNat_le] at h ⊢
  have h1 : 48 ≤ c.toNat := h.1
  have h2 : c.toNat ≤ 57 := h.2
  omega
theorem dig_not {c : UInt8} (h : isDig c = false) : (decide (48 ≤ (c.toNat : Int)) && decide ((c.toNat : Int) ≤ 57)) = false := by
  have h1 : ¬ (48 ≤ c.toNat ∧ c.toNat ≤ 57) := fun e => by
    have : isDig c = true := by
      unfold isDig
      simp only [Bool.and_eq_true, decide_eq_true_eq, UInt8.le_iff_toNat_le]
      exact e
    rw [this] at h; cases h
  rw [Bool.eq_false_iff]
  intro e
  simp only [Bool.and_eq_true, decide_eq_true_eq] at e
  omega

theorem plain_facts {c : UInt8} (h : isPlain c = true) : isLet c = false ∧ isDig c = false ∧ c.toNat ≠ 34 ∧ c.toNat ≠ 39 ∧ c.toNat ≠ 46 ∧ c.toNat ≠ 47 ∧ c.toNat ≠ 96 := by
  unfold isPlain at h
  simp only [Bool.and_eq_true, Bool.not_eq_true', bne_iff_ne, ne_eq] at h
  obtain ⟨⟨⟨⟨⟨⟨⟨⟨_, h1⟩, h2⟩, h3⟩, h4⟩, h5⟩, h6⟩, h7⟩, _⟩ := h
  exact ⟨h1, h2, fun e => h3 (UInt8.toNat_inj.1 e), fun e => h4 (UInt8.toNat_inj.1 e), fun e => h5 (UInt8.toNat_inj.1 e), fun e => h6 (UInt8.toNat_inj.1 e), fun e => h7 (UInt8.toNat_inj.1 e)⟩

/-- Scan, ahead of the token. -/
def PreS (B sb rb : Nat) (rv : Value) (tk : Option Nat) (ch : Int) (r : Bs) (col : Nat) (w : World) (wr : World) : Prop :=
  ∃ tk1, St wr B sb rb rv tk1 ch false r col (some []) ∧ Mv sb rb w tk wr tk1

/-- What Scan leaves. -/
def ScanQ (B sb rb : Nat) (rv : Value) (tk : Option Nat) (k : Int) (r : Bs) (col : Nat) (x : Bs) (w : World) (e : Ending) (w' : World) : Prop :=
  e = .returned (.int .i32 k) ∧ ∃ tk', StE w' B sb rb rv tk' r col x ∧ Mv sb rb w tk w' tk'

/-- At Scan's end: the token's end is noted, and the character that is looked at. -/
theorem scan_end {w w0 : World} {B sb rb : Nat} {rv : Value} {tk tk0 : Option Nat} {ch : Int} {r : Bs} {col : Nat} {x : Bs} (h : St w B sb rb rv tk ch false r col (some x)) (hm : Mv sb rb w0 tk0 w tk) (k : Int) :
    ∃ p lc : Nat, lc ≤ p ∧ p < 2000 ∧ w.cell? ⟨sb, 1026, none⟩ = some (.int .i64 p) ∧ w.cell? ⟨sb, 1032, none⟩ = some (.int .i64 lc) ∧ (∃ o : Int, w.cell? ⟨sb, 1037, none⟩ = some (.int .i64 o)) ∧ (∃ o : Int, w.cell? ⟨sb, 1038, none⟩ = some (.int .i32 o)) ∧ w.frozen? ⟨sb, 1037, none⟩ = false ∧ w.frozen? ⟨sb, 1038, none⟩ = false ∧
      (∀ m, ScanQ B sb rb rv tk0 k r col x w0 (.returned (.int .i32 k)) (((w.setCell ⟨sb, 1037, none⟩ (.int .i64 ((p : Int) - (lc : Int)))).setCell ⟨sb, 1038, none⟩ (.int .i32 (headCh r))).drewN m)) := by
  obtain ⟨N, hs, hr, hch⟩ := h
  have hb := hr.ple
  have hf := hr.fle
  refine ⟨N.p, N.lc, hr.lcle, by omega, hs.c1026, hs.c1032, ⟨_, hs.c1037⟩, ⟨_, hs.c1038⟩, hs.frozen 1037, hs.frozen 1038, fun m => ⟨rfl, tk, ⟨_, ((hs.set1037 _).set1038 _).drewN m, ?_, rfl, rfl⟩, ((hm.setCell 1037 _).setCell 1038 _).drewN m⟩⟩
  exact hr.same rfl rfl rfl rfl rfl rfl rfl rfl rfl

set_option maxRecDepth 100000 in
set_option maxHeartbeats 4000000 in
theorem scan_any {w : World} {B sb rb : Nat} {rv : Value} {tk : Option Nat} {ws r1 : Bs} {col : Nat} {x0 : Option Bs} {ev : Value} {k : Int} {x r' : Bs} (hk : ScanH k x r') (hx60 : x.length ≤ 64) (hr1 : r1 = x ++ r')
    (hpeek : Calls Tryz.prog 104 #[.pointer (some ⟨sb, 0, none⟩)] w (PeekQ B sb rb rv tk (ws ++ r1) col x0 w)) (hgl : ∀ w' tk', Mv sb rb w tk w' tk' → Glob w' ev) (hB : 21 ≤ B)
    (hws : ∀ b ∈ ws, isWs b = true) :
    Calls Tryz.prog 100 #[.pointer (some ⟨sb, 0, none⟩)] w (ScanQ B sb rb rv tk k r' (adv col (ws ++ x)) x w) := by
  have he : ends isWs r1 := hr1 ▸ hk.ends
  have Hgl := Lib.hid hgl
  have Hws := Lib.hid hws
  have He := Lib.hid he
  have Hpeek := Lib.hid hpeek
  have Hk := Lib.hid hk
  have Hr1 := Lib.hid hr1
  have Hx60 := Lib.hid hx60
  clear hk hr1 hx60
  obtain ⟨col2, hcol2⟩ : ∃ c, c = adv (adv col ws) x := ⟨_, rfl⟩
  rw [adv_append, ← hcol2]
  have Hcol2 := Lib.hid hcol2
  clear hcol2
  clear hgl hws he hpeek
  go_enter Tryz.func100, Tryz.ntmps100
  go_wp2_with fail
  go_step3
  go_wp2_with fail
  refine Hpeek.out.mono ?_
  rintro e w1 ⟨rfl, tk1, h1, hm1⟩
  obtain ⟨ch1, hch1⟩ : ∃ c, c = headCh (ws ++ r1) := ⟨_, rfl⟩
  have h2 : St ((w1.setCell ⟨sb, 1036, none⟩ (.int .i64 (-1))).setCell ⟨sb, 1046, none⟩ (.int .i64 0)) B sb rb rv tk1 ch1 false (ws ++ r1) col none := by
    obtain ⟨N, hs, hr, hc⟩ := h1
    exact ⟨_, (hs.set1036 (-1)).set1046 0, (hr.drop rfl).same rfl rfl rfl rfl rfl rfl rfl rfl rfl, by rw [hch1]; exact hc⟩
  have hm2 := (hm1.setCell 1036 (.int .i64 (-1))).setCell 1046 (.int .i64 0)
  have k36 : w1.cell? ⟨sb, 1036, none⟩ ≠ none := by obtain ⟨N, hs, _⟩ := h1; rw [hs.c1036]; simp
  have f36 : w1.frozen? ⟨sb, 1036, none⟩ = false := by obtain ⟨N, hs, _⟩ := h1; exact hs.frozen 1036
  have f46 : w1.frozen? ⟨sb, 1046, none⟩ = false := by obtain ⟨N, hs, _⟩ := h1; exact hs.frozen 1046
  obtain ⟨o36, k36⟩ : ∃ o, w1.cell? ⟨sb, 1036, none⟩ = some (.int .i64 o) := by obtain ⟨N, hs, _⟩ := h1; exact ⟨_, hs.c1036⟩
  obtain ⟨o46, k46⟩ : ∃ o, w1.cell? ⟨sb, 1046, none⟩ = some (.int .i64 o) := by obtain ⟨N, hs, _⟩ := h1; exact ⟨_, hs.c1046⟩
  have H2 := Lib.hid h2
  have Hm2 := Lib.hid hm2
  clear h1 hm1 h2 hm2
  have Hch1 := Lib.hid hch1
  rw [← hch1]
  clear hch1
  go_wp2
  have h2 := H2.out
  have hm2 := Hm2.out
  generalize ((w1.setCell ⟨sb, 1036, none⟩ (.int .i64 (-1))).setCell ⟨sb, 1046, none⟩ (.int .i64 0)) = w2 at h2 hm2 ⊢
  clear H2 Hm2 k36 f36 f46 k46
  have H2 := Lib.hid h2
  have Hm2 := Lib.hid hm2
  clear h2 hm2
  go_step3
  go_wp2
  go_loopg [3] ws.length (fun k v3 wr => WsLoop B sb rb rv tk1 ch1 ws r1 col w2 k v3 wr)
  case atStart => exact ⟨[], ws, tk1, rfl, rfl, by rw [Hch1.out], by simpa [adv] using H2.out, Mv.refl _ _ _ _⟩
  case round =>
    obtain ⟨x1, x2, tk2, hxx, rfl, rfl, h3, hm3⟩ := hrel
    have h42 : wr.cell? ⟨sb, 1042, none⟩ = some (.int .u64 4294976000) := by obtain ⟨N, ⟨S, hs⟩, _⟩ := h3; exact hs.blk.cell_eq (by decide) hs.s1042
    cases x2 with
    | nil =>
      have hw : (bits BinOp.and .u64 4294976000 (IntKind.u64.wrap (2 ^ min (IntKind.u64.wrap (headCh r1)).toNat 64)) != 0) = false := wsI_ends h3.asc He.out
      have hcol : adv col x1 = adv col ws := by rw [hxx, List.append_nil]
      obtain ⟨N, hs, hr, hch⟩ := h3
      rw [List.nil_append, hcol] at hr
      have Hs := Lib.hid hs
      have Hr := Lib.hid hr
      have Hch := Lib.hid hch
      have Hm := Lib.hid (Hm2.out.trans hm3)
      rw [List.nil_append]
      obtain ⟨n, hn⟩ : ∃ n, n = headCh r1 := ⟨_, rfl⟩
      rw [← hn] at hw ⊢
      have Hn := Lib.hid hn
      clear hs hr hch hm3 hxx hcol hn
      go_wp2_with fail
      refine (sm_reset Hs.out).mono ?_
      rintro e w3 ⟨rfl, hs2, ho2⟩
      have h26 := hs2.c1026
      have h32 := hs2.c1032
      have h36 := hs2.c1036
      have f36 := hs2.frozen 1036
      have Hs2 := Lib.hid hs2
      have Ho2 := Lib.hid ho2
      clear hs2 ho2 h42 hw
      have hpb : N.p < 2000 := by have h1 := Hr.out.ple; have h2 := Hr.out.fle; omega
      have hlb : N.lc ≤ N.p := Hr.out.lcle
      have e1 : IntKind.i64.wrap ((N.p : Int) - (N.lc : Int)) = (N.p : Int) - (N.lc : Int) := IntWalk.i64_in _ (by omega)
      have e1' : wrap64 ((N.p : Int) - (N.lc : Int)) = (N.p : Int) - (N.lc : Int) := by unfold wrap64; omega
      go_wp2
      go_still_tail 12, (by kernel_rfl)
      change wpList _ _ _ _ _ (World.drew _)
      go_wp2
      obtain ⟨tp, htp⟩ : ∃ tp : Int, tp = (N.p : Int) - (N.lc : Int) := ⟨_, rfl⟩
      have hr4 := Hr.out.start rfl
      rw [← htp]
      have hs4 : SM ((w3.setCell ⟨sb, 1036, none⟩ (.int .i64 tp)).drew) B sb rb rv tk2 _ := (Hs2.out.set1036 tp).drewN 1
      have hm4 : Mv sb rb w tk ((w3.setCell ⟨sb, 1036, none⟩ (.int .i64 tp)).drew) tk2 := ((Hm.out.trans ⟨.inl rfl, Ho2.out.mono (fun _ _ h => .inl h)⟩).setCell 1036 (.int .i64 tp)).drewN 1
      generalize ((w3.setCell ⟨sb, 1036, none⟩ (.int .i64 tp)).drew) = w4 at hs4 hm4 ⊢
      rw [htp] at hs4
      have hs4' : SM w4 B sb rb rv tk2 { N with y := [], tp := (N.p : Int) - (N.lc : Int) } := hs4
      obtain ⟨N4, hN4⟩ : ∃ N4, N4 = ({ N with y := [], tp := (N.p : Int) - (N.lc : Int) } : Nums) := ⟨_, rfl⟩
      have hr4' : Rel N4 false r1 (adv col ws) (some []) := by rw [hN4]; exact hr4
      have hch4 : N4.ch = ch1 := by rw [hN4]; exact Hch.out
      rw [← hN4] at hs4'
      clear hs4 hr4 hN4 htp Hs2 Ho2 Hs Hr h26 h32 h36 f36 e1 e1' hpb hlb
      have h28 := hs4'.c1028
      have h36 := hs4'.c1036
      have h45 := hs4'.c1045
      have f45 := hs4'.frozen 1045
      obtain ⟨cc, hcc⟩ : ∃ cc, cc = N4.cc := ⟨_, rfl⟩
      have h30 := hs4'.c1030
      rw [← hcc] at h30
      clear hcc
      have Hs4 := Lib.hid hs4'
      have Hm4 := Lib.hid hm4
      have Hr4 := Lib.hid hr4'
      have Hch4 := Lib.hid hch4
      clear hs4' hm4 hr4' hch4
      go_still_tail 13, (by kernel_rfl)
      change wpList _ _ _ _ _ (World.drew _)
      go_upto_if 58 with (fail)
      go_cut [] (fun wc => PreS B sb rb rv tk ch1 r1 (adv col ws) w wc)
      case first => as_aux_lemma =>
        --{
        have hs5 : SM ((w4.setCell ⟨sb, 1045, none⟩ (.int .i64 (wrap64 (N4.off + N4.tp)))).drew) B sb rb rv tk2 _ := (Hs4.out.set1045 (wrap64 (N4.off + N4.tp))).drewN 1
        have hm5 : Mv sb rb w tk ((w4.setCell ⟨sb, 1045, none⟩ (.int .i64 (wrap64 (N4.off + N4.tp)))).drew) tk2 := (Hm4.out.setCell 1045 _).drewN 1
        generalize ((w4.setCell ⟨sb, 1045, none⟩ (.int .i64 (wrap64 (N4.off + N4.tp)))).drew) = w5 at hs5 hm5 ⊢
        have h29 : w5.cell? ⟨sb, 1029, none⟩ = some (.int .i64 N4.line) := hs5.c1029
        have h30 := hs5.c1030
        have h31 : w5.cell? ⟨sb, 1031, none⟩ = some (.int .i64 (N4.ll : Nat)) := hs5.c1031
        have h46 := hs5.c1046
        have h47 := hs5.c1047
        have f46 := hs5.frozen 1046
        have f47 := hs5.frozen 1047
        have hfin : ∀ a b : Int, PreS B sb rb rv tk ch1 r1 (adv col ws) w ((w5.setCell ⟨sb, 1046, none⟩ (.int .i64 a)).setCell ⟨sb, 1047, none⟩ (.int .i64 b)) := fun a b =>
          ⟨tk2, ⟨_, (hs5.set1046 a).set1047 b, Hr4.out.same rfl rfl rfl rfl rfl rfl rfl rfl rfl, Hch4.out⟩, (hm5.setCell 1046 _).setCell 1047 _⟩
        have Hfin := Lib.hid hfin
        clear hfin hs5 hm5 Hs4 Hm4 Hr4 Hch4 h28 h36 h45 f45
        by_cases h0 : 0 < cc
        · go_wp2
          go_meet
          exact Hfin.out _ _
        · go_wp2
          go_meet
          exact Hfin.out _ _
        --}
      case rest =>
        obtain ⟨tk3, h5, hm5⟩ := hcut
        have hg5 := Hgl.out wc tk3 hm5
        have k41 : wc.cell? ⟨sb, 1041, none⟩ = some (.int .u64 380) := by obtain ⟨N, ⟨S, hs⟩, _⟩ := h5; exact hs.blk.cell_eq (by decide) hs.s1041
        have k43 := h5.c43
        have hi := scanIdent_any sb (headCh r1) 0 (headCh_of h5.asc) wc hg5 k43
        have hk := Hk.out
        have hr1 := Hr1.out
        have H5 := Lib.hid h5
        have Hm5 := Lib.hid hm5
        have Hg5 := Lib.hid hg5
        have Hi := Lib.hid hi
        have hasc := Lib.hid h5.asc
        clear h5 hm5 hg5 hi Hgl Hws Hk Hr1 Hpeek Hch1 H2 Hm2 Hm Hch k36 h28 h36 h45 f45 h30 Hs4 Hm4 Hr4 Hch4 k43 He
        subst hr1
        cases hk with
        | @ident c x r' a1 a2 a3 => as_aux_lemma =>
          --{
          have hid : idrI (headCh (c :: x ++ r')) 0 = true := idr_first a1 (hasc.out c (by simp))
          rw [hid] at Hi
          rw [← Hn.out] at Hi
          have hx : ([] : Bs).length + x.length ≤ 63 := by have := Hx60.out; simp at this ⊢; omega
          have Hc := Lib.hid (scanIdentifier_any (y := []) H5.out Hg5.out hB a2 a3 hx)
          clear hid hx a1 a2 a3
          go_wp2_with fail
          refine Hi.out.mono ?_
          rintro e w6 ⟨rfl, rfl⟩
          go_wp2_with fail
          refine Hc.out.mono ?_
          rintro e w6 ⟨rfl, tk6, h6, hm6⟩
          obtain ⟨p, lc, hle, hp, k26, k32, ⟨o37, k37⟩, ⟨o38, k38⟩, f37, f38, hend⟩ := scan_end h6 (Hm5.out.trans hm6) (-2)
          rw [← Hcol2.out] at hend
          have Hend := Lib.hid hend
          clear h6 hm6 hend
          obtain ⟨n', hn'⟩ : ∃ n', n' = headCh r' := ⟨_, rfl⟩
          rw [← hn'] at Hend ⊢
          clear hn'
          have e1 : IntKind.i64.wrap ((p : Int) - (lc : Int)) = (p : Int) - (lc : Int) := IntWalk.i64_in _ (by omega)
          have e1' : wrap64 ((p : Int) - (lc : Int)) = (p : Int) - (lc : Int) := by unfold wrap64; omega
          go_wp2
          go_still_tail 12, (by kernel_rfl)
          change wpList _ _ _ _ _ (World.drew _)
          go_wp2
          rw [Exit.noGoto_ret]
          go_ret
          exact Hend.out 1
          --}
        | @dec c x r' a1 a2 a3 a4 => as_aux_lemma =>
          --{
          have hid : idrI (headCh (c :: x ++ r')) 0 = false := idr_not (dig_let a1) (hasc.out c (by simp))
          rw [hid] at Hi
          rw [← Hn.out] at Hi
          have hdec : (decide (48 ≤ n) && decide (n ≤ 57)) = true := by rw [Hn.out]; show (decide (48 ≤ ((c : UInt8).toNat : Int)) && decide (((c : UInt8).toNat : Int) ≤ 57)) = true; exact dig_dec a1
          have hD := fun w => isDecimal_any n w
          rw [hdec] at hD
          have HD := Lib.hid hD
          have hx : ([] : Bs).length + x.length ≤ 63 := by have := Hx60.out; simp at this ⊢; omega
          have hc := scanNumber_dec (y := []) H5.out Hg5.out hB a1 a2 a3 a4 hx
          rw [show (c.toNat : Int) = n from Hn.out.symm] at hc
          have Hc := Lib.hid hc
          clear hid hdec hD hx hc a1 a2 a3 a4
          go_wp2_with fail
          refine Hi.out.mono ?_
          rintro e w6 ⟨rfl, rfl⟩
          go_wp2_with fail
          refine (HD.out _).mono ?_
          rintro e w6 ⟨rfl, rfl⟩
          go_wp2_with fail
          refine Hc.out.mono ?_
          rintro e w6 ⟨rfl, tk6, h6, hm6⟩
          obtain ⟨p, lc, hle, hp, k26, k32, ⟨o37, k37⟩, ⟨o38, k38⟩, f37, f38, hend⟩ := scan_end h6 (Hm5.out.trans hm6) (-3)
          rw [← Hcol2.out] at hend
          have Hend := Lib.hid hend
          clear h6 hm6 hend
          obtain ⟨n', hn'⟩ : ∃ n', n' = headCh r' := ⟨_, rfl⟩
          rw [← hn'] at Hend ⊢
          clear hn'
          have e1 : IntKind.i64.wrap ((p : Int) - (lc : Int)) = (p : Int) - (lc : Int) := IntWalk.i64_in _ (by omega)
          have e1' : wrap64 ((p : Int) - (lc : Int)) = (p : Int) - (lc : Int) := by unfold wrap64; omega
          go_wp2
          go_still_tail 12, (by kernel_rfl)
          change wpList _ _ _ _ _ (World.drew _)
          go_wp2
          rw [Exit.noGoto_ret]
          go_ret
          exact Hend.out 1
          --}
        | @zero r' a1 => as_aux_lemma =>
          --{
          have hid : idrI (headCh ([48] ++ r')) 0 = false := idr_not (c := 48) (by decide) (by decide)
          rw [hid] at Hi
          rw [← Hn.out] at Hi
          have hdec : (decide (48 ≤ n) && decide (n ≤ 57)) = true := by rw [Hn.out]; show (decide (48 ≤ ((48 : UInt8).toNat : Int)) && decide (((48 : UInt8).toNat : Int) ≤ 57)) = true; decide
          have hD := fun w => isDecimal_any n w
          rw [hdec] at hD
          have HD := Lib.hid hD
          have hc := scanNumber_zero (y := []) (r' := r') H5.out Hg5.out hB a1 (by simp)
          rw [show (48 : Int) = n from Hn.out.symm] at hc
          have Hc := Lib.hid hc
          clear hid hdec hD hc a1
          go_wp2_with fail
          refine Hi.out.mono ?_
          rintro e w6 ⟨rfl, rfl⟩
          go_wp2_with fail
          refine (HD.out _).mono ?_
          rintro e w6 ⟨rfl, rfl⟩
          go_wp2_with fail
          refine Hc.out.mono ?_
          rintro e w6 ⟨rfl, tk6, h6, hm6⟩
          obtain ⟨p, lc, hle, hp, k26, k32, ⟨o37, k37⟩, ⟨o38, k38⟩, f37, f38, hend⟩ := scan_end h6 (Hm5.out.trans hm6) (-3)
          rw [← Hcol2.out] at hend
          have Hend := Lib.hid hend
          clear h6 hm6 hend
          obtain ⟨n', hn'⟩ : ∃ n', n' = headCh r' := ⟨_, rfl⟩
          rw [← hn'] at Hend ⊢
          clear hn'
          have e1 : IntKind.i64.wrap ((p : Int) - (lc : Int)) = (p : Int) - (lc : Int) := IntWalk.i64_in _ (by omega)
          have e1' : wrap64 ((p : Int) - (lc : Int)) = (p : Int) - (lc : Int) := by unfold wrap64; omega
          go_wp2
          go_still_tail 12, (by kernel_rfl)
          change wpList _ _ _ _ _ (World.drew _)
          go_wp2
          rw [Exit.noGoto_ret]
          go_ret
          exact Hend.out 1
          --}
        | @hex x r' a1 a2 a3 => as_aux_lemma =>
          --{
          have hid : idrI (headCh (48 :: 120 :: x ++ r')) 0 = false := idr_not (c := 48) (by decide) (by decide)
          rw [hid] at Hi
          rw [← Hn.out] at Hi
          have hdec : (decide (48 ≤ n) && decide (n ≤ 57)) = true := by rw [Hn.out]; show (decide (48 ≤ ((48 : UInt8).toNat : Int)) && decide (((48 : UInt8).toNat : Int) ≤ 57)) = true; decide
          have hD := fun w => isDecimal_any n w
          rw [hdec] at hD
          have HD := Lib.hid hD
          have hx : ([] : Bs).length + x.length ≤ 62 := by have := Hx60.out; simp at this ⊢; omega
          have hc := scanNumber_hex (y := []) H5.out Hg5.out hB a1 a2 a3 hx
          rw [show (48 : Int) = n from Hn.out.symm] at hc
          have Hc := Lib.hid hc
          clear hid hdec hD hx hc a1 a2 a3
          go_wp2_with fail
          refine Hi.out.mono ?_
          rintro e w6 ⟨rfl, rfl⟩
          go_wp2_with fail
          refine (HD.out _).mono ?_
          rintro e w6 ⟨rfl, rfl⟩
          go_wp2_with fail
          refine Hc.out.mono ?_
          rintro e w6 ⟨rfl, tk6, h6, hm6⟩
          obtain ⟨p, lc, hle, hp, k26, k32, ⟨o37, k37⟩, ⟨o38, k38⟩, f37, f38, hend⟩ := scan_end h6 (Hm5.out.trans hm6) (-3)
          rw [← Hcol2.out] at hend
          have Hend := Lib.hid hend
          clear h6 hm6 hend
          obtain ⟨n', hn'⟩ : ∃ n', n' = headCh r' := ⟨_, rfl⟩
          rw [← hn'] at Hend ⊢
          clear hn'
          have e1 : IntKind.i64.wrap ((p : Int) - (lc : Int)) = (p : Int) - (lc : Int) := IntWalk.i64_in _ (by omega)
          have e1' : wrap64 ((p : Int) - (lc : Int)) = (p : Int) - (lc : Int) := by unfold wrap64; omega
          go_wp2
          go_still_tail 12, (by kernel_rfl)
          change wpList _ _ _ _ _ (World.drew _)
          go_wp2
          rw [Exit.noGoto_ret]
          go_ret
          exact Hend.out 1
          --}
        | eof => as_aux_lemma =>
          --{
          have hid : idrI (headCh ([] ++ [])) 0 = false := rfl
          rw [hid] at Hi
          have h6 : St wc B sb rb rv tk3 ch1 false [] (adv (adv col ws) []) (some []) := H5.out
          have hm6 := Hm5.out
          have hD := fun w => isDecimal_any (-1) w
          have hdec : (decide ((48 : Int) ≤ -1) && decide ((-1 : Int) ≤ 57)) = false := by decide
          rw [hdec] at hD
          have HD := Lib.hid hD
          have hn1 : n = -1 := Hn.out
          subst hn1
          clear hid hD hdec
          go_wp2_with fail
          refine Hi.out.mono ?_
          rintro e w6 ⟨rfl, rfl⟩
          go_wp2_with fail
          refine (HD.out _).mono ?_
          rintro e w6 ⟨rfl, rfl⟩
          obtain ⟨p, lc, hle, hp, k26, k32, ⟨o37, k37⟩, ⟨o38, k38⟩, f37, f38, hend⟩ := scan_end h6 (hm6) (-1)
          rw [← Hcol2.out] at hend
          have Hend := Lib.hid hend
          clear h6 hm6 hend
          have e1 : IntKind.i64.wrap ((p : Int) - (lc : Int)) = (p : Int) - (lc : Int) := IntWalk.i64_in _ (by omega)
          have e1' : wrap64 ((p : Int) - (lc : Int)) = (p : Int) - (lc : Int) := by unfold wrap64; omega
          go_wp2
          go_still_tail 12, (by kernel_rfl)
          change wpList _ _ _ _ _ (World.drew _)
          go_wp2
          rw [Exit.noGoto_ret]
          go_ret
          exact Hend.out 1
          --}
        | @str x r' a1 => as_aux_lemma =>
          --{
          have hid : idrI (headCh (34 :: (x ++ [34]) ++ r')) 0 = false := idr_not (c := 34) (by decide) (by decide)
          rw [hid] at Hi
          rw [← Hn.out] at Hi
          have hx : ([] : Bs).length + x.length ≤ 63 := by have := Hx60.out; simp at this ⊢; omega
          have e0 : 34 :: (x ++ [34]) ++ r' = 34 :: (x ++ 34 :: r') := by simp
          have H5' := H5.out
          rw [e0] at H5'
          have Hc := Lib.hid (scanString_any (y := []) H5' Hg5.out hB a1 hx)
          have hD := fun w => isDecimal_any 34 w
          have hdec : (decide ((48 : Int) ≤ 34) && decide ((34 : Int) ≤ 57)) = false := by decide
          rw [hdec] at hD
          have HD := Lib.hid hD
          have hn : n = 34 := Hn.out
          subst hn
          clear hid hD hdec hx e0 H5' a1
          go_wp2_with fail
          refine Hi.out.mono ?_
          rintro e w6 ⟨rfl, rfl⟩
          go_wp2_with fail
          refine (HD.out _).mono ?_
          rintro e w6 ⟨rfl, rfl⟩
          go_wp2_with fail
          refine Hc.out.mono ?_
          rintro e w6 ⟨rfl, tk6, h6, hm6⟩
          have Hm6 := Lib.hid hm6
          have Hn6 := Lib.hid (next_tok (r := r') h6 (H5.out.glob hB Hg5.out hm6) hB (by have := Hx60.out; simp at this ⊢; omega))
          clear h6 hm6
          go_wp2_with fail
          refine Hn6.out.mono ?_
          rintro e w7 ⟨rfl, tk7, h7, hm7⟩
          have h8 : St w7 B sb rb rv tk7 ch1 false r' (adv (adv col ws) (34 :: (x ++ [34]))) (some (34 :: (x ++ [34]))) := by have := h7; rw [← adv_append] at this; exact this
          obtain ⟨p, lc, hle, hp, k26, k32, ⟨o37, k37⟩, ⟨o38, k38⟩, f37, f38, hend⟩ := scan_end h8 ((Hm5.out.trans Hm6.out).trans hm7) (-6)
          rw [← Hcol2.out] at hend
          have Hend := Lib.hid hend
          clear h7 hm7 h8 hend
          obtain ⟨n', hn'⟩ : ∃ n', n' = headCh r' := ⟨_, rfl⟩
          rw [← hn'] at Hend ⊢
          clear hn'
          have e1 : IntKind.i64.wrap ((p : Int) - (lc : Int)) = (p : Int) - (lc : Int) := IntWalk.i64_in _ (by omega)
          have e1' : wrap64 ((p : Int) - (lc : Int)) = (p : Int) - (lc : Int) := by unfold wrap64; omega
          go_wp2
          go_still_tail 12, (by kernel_rfl)
          change wpList _ _ _ _ _ (World.drew _)
          go_wp2
          rw [Exit.noGoto_ret]
          go_ret
          exact Hend.out 1
          --}
        | @comment x r' a1 => as_aux_lemma =>
          have hid : idrI (headCh (47 :: 42 :: (x ++ [42, 47]) ++ r')) 0 = false := idr_not (c := 47) (by decide) (by decide)
          rw [hid] at Hi
          rw [← Hn.out] at Hi
          have hx : ([47] : Bs).length + x.length ≤ 61 := by have := Hx60.out; simp at this ⊢; omega
          have e0 : 47 :: 42 :: (x ++ [42, 47]) ++ r' = 47 :: 42 :: (x ++ 42 :: 47 :: r') := by simp
          have H5' := H5.out
          rw [e0] at H5'
          have Hc := Lib.hid (next_tok (r := 42 :: (x ++ 42 :: 47 :: r')) (x := []) H5' Hg5.out hB (by simp))
          have Hx := Lib.hid hx
          have HA := Lib.hid a1
          have hD := fun w => isDecimal_any 47 w
          have hdec : (decide ((48 : Int) ≤ 47) && decide ((47 : Int) ≤ 57)) = false := by decide
          rw [hdec] at hD
          have HD := Lib.hid hD
          have hn : n = 47 := Hn.out
          subst hn
          have H5'' := Lib.hid H5'
          clear hid hD hdec hx e0 H5' a1
          go_wp2_with fail
          refine Hi.out.mono ?_
          rintro e w6 ⟨rfl, rfl⟩
          go_wp2_with fail
          refine (HD.out _).mono ?_
          rintro e w6 ⟨rfl, rfl⟩
          go_wp2_with fail
          refine Hc.out.mono ?_
          rintro e w6 ⟨rfl, tk6, h6, hm6⟩
          have Hm6 := Lib.hid hm6
          have Hn6 := Lib.hid (scanComment_any (y := [47]) h6 (H5''.out.glob hB Hg5.out hm6) hB HA.out Hx.out)
          have e42 : headCh (42 :: (x ++ 42 :: 47 :: r')) = 42 := rfl
          rw [e42]
          have k41' : w6.cell? ⟨sb, 1041, none⟩ = some (.int .u64 380) := by obtain ⟨N, ⟨S, hs⟩, _⟩ := h6; exact hs.blk.cell_eq (by decide) hs.s1041
          clear h6 hm6 e42
          go_wp2_with fail
          refine Hn6.out.mono ?_
          rintro e w7 ⟨rfl, tk7, h7, hm7⟩
          have h8 : St w7 B sb rb rv tk7 ch1 false r' (adv (adv col ws) (47 :: 42 :: (x ++ [42, 47]))) (some (47 :: 42 :: (x ++ [42, 47]))) := by have := h7; rw [← adv_append] at this; exact this
          obtain ⟨p, lc, hle, hp, k26, k32, ⟨o37, k37⟩, ⟨o38, k38⟩, f37, f38, hend⟩ := scan_end h8 ((Hm5.out.trans Hm6.out).trans hm7) (-8)
          rw [← Hcol2.out] at hend
          have Hend := Lib.hid hend
          clear h7 hm7 h8 hend
          obtain ⟨n', hn'⟩ : ∃ n', n' = headCh r' := ⟨_, rfl⟩
          rw [← hn'] at Hend ⊢
          clear hn'
          have e1 : IntKind.i64.wrap ((p : Int) - (lc : Int)) = (p : Int) - (lc : Int) := IntWalk.i64_in _ (by omega)
          have e1' : wrap64 ((p : Int) - (lc : Int)) = (p : Int) - (lc : Int) := by unfold wrap64; omega
          go_wp2
          go_still_tail 12, (by kernel_rfl)
          change wpList _ _ _ _ _ (World.drew _)
          go_wp2
          rw [Exit.noGoto_ret]
          go_ret
          exact Hend.out 1
        | @char c r' a1 => as_aux_lemma =>
          obtain ⟨b1, b2, b3, b4, b5, b6, b7⟩ := plain_facts a1
          have hid : idrI (headCh ([c] ++ r')) 0 = false := idr_not b1 (hasc.out c (by simp))
          rw [hid] at Hi
          rw [← Hn.out] at Hi
          have hD := fun w => isDecimal_any (c.toNat : Nat) w
          rw [dig_not b2] at hD
          have hn : n = c.toNat := Hn.out
          have Hc := Lib.hid (next_tok (r := r') (x := []) H5.out Hg5.out hB (by simp))
          have hb' : c.toNat < 128 := UInt8.lt_iff_toNat_lt.1 (hasc.out c (by simp))
          obtain ⟨m, hm⟩ : ∃ m, m = c.toNat := ⟨_, rfl⟩
          rw [← hm] at hD hn b3 b4 b5 b6 b7 hb'
          have HM := Lib.hid hm
          have HD := Lib.hid hD
          subst hn
          clear hid hD b1 b2 a1 hm
          have c1 : ¬ ((m : Int) = -1) := by omega
          have c2 : ¬ ((m : Int) = 34) := by omega
          have c3 : ¬ ((m : Int) = 39) := by omega
          have c4 : ¬ ((m : Int) = 46) := by omega
          have c5 : ¬ ((m : Int) = 47) := by omega
          have c6 : ¬ ((m : Int) = 96) := by omega
          go_wp2_with fail
          refine Hi.out.mono ?_
          rintro e w6 ⟨rfl, rfl⟩
          go_wp2_with fail
          refine (HD.out _).mono ?_
          rintro e w6 ⟨rfl, rfl⟩
          go_wp2_with fail
          refine Hc.out.mono ?_
          rintro e w6 ⟨rfl, tk6, h6, hm6⟩
          obtain ⟨p, lc, hle, hp, k26, k32, ⟨o37, k37⟩, ⟨o38, k38⟩, f37, f38, hend⟩ := scan_end h6 (Hm5.out.trans hm6) ((c.toNat : Int))
          rw [← Hcol2.out] at hend
          have Hend := Lib.hid hend
          clear h6 hm6 hend
          obtain ⟨n', hn'⟩ : ∃ n', n' = headCh r' := ⟨_, rfl⟩
          rw [← hn'] at Hend ⊢
          clear hn'
          have e1 : IntKind.i64.wrap ((p : Int) - (lc : Int)) = (p : Int) - (lc : Int) := IntWalk.i64_in _ (by omega)
          have e1' : wrap64 ((p : Int) - (lc : Int)) = (p : Int) - (lc : Int) := by unfold wrap64; omega
          go_wp2
          go_still_tail 12, (by kernel_rfl)
          change wpList _ _ _ _ _ (World.drew _)
          go_wp2
          rw [Exit.noGoto_ret]
          go_ret
          exact (by rw [HM.out]; exact Hend.out 1)
    | cons d t =>
      have hdw : isWs d = true := Hws.out d (by rw [hxx]; simp)
      have hd128 : d < 128 := h3.asc d (by simp)
      have hw : (bits BinOp.and .u64 4294976000 (IntKind.u64.wrap (2 ^ min (IntKind.u64.wrap (d.toNat : Int)).toNat 64)) != 0) = true := (wsI_of hd128).trans hdw
      have hg3 := Hgl.out wr tk2 (Hm2.out.trans hm3)
      have Hc := Lib.hid (next_non h3 hg3 hB)
      have H3 := Lib.hid h3
      have Hm3 := Lib.hid hm3
      have Hxx := Lib.hid hxx
      have e0 : headCh (d :: t ++ r1) = (d.toNat : Int) := rfl
      rw [e0]
      clear h3 hm3 hxx hg3 hdw hd128 e0
      obtain ⟨m, hm⟩ : ∃ m, m = d.toNat := ⟨_, rfl⟩
      rw [← hm] at hw ⊢
      clear hm
      go_wp2_with fail
      refine Hc.out.mono ?_
      rintro e w3 ⟨rfl, tk3, h4, hm4⟩
      have H4 := Lib.hid h4
      have Hm4 := Lib.hid (Hm3.out.trans hm4)
      clear h4 hm4
      go_wp2
      go_roundg t.length
      case measure => simp
      case rel =>
        refine ⟨x1 ++ [d], t, tk3, by rw [Hxx.out]; simp, rfl, rfl, ?_, Hm4.out⟩
        have := H4.out
        rw [← adv_append] at this
        exact this
/-- THE SCANNER IN FRONT OF r: nothing has been read yet (fr), or its character is looked at. -/
def Sc (w : World) (B sb rb : Nat) (rv : Value) (tk : Option Nat) (r : Bs) (col : Nat) (x : Option Bs) : Prop :=
  (col = 1 ∧ x = none ∧ St w B sb rb rv tk (-2) true r 1 none) ∨ St w B sb rb rv tk (headCh r) false r col x

section
variable {w w' : World} {B sb rb : Nat} {rv : Value} {tk : Option Nat} {r : Bs} {col : Nat} {x : Option Bs} {ev : Value}
theorem Sc.glob {tk' : Option Nat} (h : Sc w B sb rb rv tk r col x) (hB : 21 ≤ B) (hg : Glob w ev) (hm : Mv sb rb w tk w' tk') : Glob w' ev := by
  rcases h with ⟨_, _, h⟩ | h <;> exact h.glob hB hg hm
theorem Sc.only {D : Nat → Prop} (h : Sc w B sb rb rv tk r col x) (ho : Only D w w') (hd : ∀ k, (k = sb ∨ k = rb ∨ tk = some k) → ¬ D k) : Sc w' B sb rb rv tk r col x := by
  rcases h with ⟨h1, h2, h⟩ | h
  · exact .inl ⟨h1, h2, h.only ho hd⟩
  · exact .inr (h.only ho hd)
theorem Sc.peek (h : Sc w B sb rb rv tk r col x) (hg : Glob w ev) (hB : 21 ≤ B) :
    Calls Tryz.prog 104 #[.pointer (some ⟨sb, 0, none⟩)] w (PeekQ B sb rb rv tk r col x w) := by
  rcases h with ⟨rfl, rfl, h⟩ | h
  · exact peek_first h hg hB
  · refine (peek_again h).mono ?_
    rintro e w' ⟨rfl, rfl⟩
    exact ⟨rfl, tk, h, Mv.refl _ _ _ _⟩
end

theorem scan_at {w : World} {B sb rb : Nat} {rv : Value} {tk : Option Nat} {ws x r' : Bs} {col : Nat} {x0 : Option Bs} {ev : Value} {k : Int} (h : Sc w B sb rb rv tk (ws ++ (x ++ r')) col x0) (hg : Glob w ev) (hB : 21 ≤ B)
    (hws : ∀ b ∈ ws, isWs b = true) (hk : ScanH k x r') (hx : x.length ≤ 64) :
    Calls Tryz.prog 100 #[.pointer (some ⟨sb, 0, none⟩)] w (ScanQ B sb rb rv tk k r' (adv col (ws ++ x)) x w) :=
  scan_any hk hx rfl (h.peek hg hB) (fun w' tk' hm => h.glob hB hg hm) hB hws

/-- What the scanner's Next leaves. -/
def ScNextQ (B sb rb : Nat) (rv : Value) (tk : Option Nat) (c : UInt8) (r : Bs) (col : Nat) (w : World) (e : Ending) (w' : World) : Prop :=
  e = .returned (.int .i32 c.toNat) ∧ ∃ tk', St w' B sb rb rv tk' (headCh r) false r col none ∧ Mv sb rb w tk w' tk'

set_option maxRecDepth 100000 in
set_option maxHeartbeats 1000000 in
theorem scNext_any {w : World} {B sb rb : Nat} {rv : Value} {tk : Option Nat} {c : UInt8} {r : Bs} {col : Nat} {x : Option Bs} {ev : Value} (h : St w B sb rb rv tk (headCh (c :: r)) false (c :: r) col x) (hg : Glob w ev) (hB : 21 ≤ B) :
    Calls Tryz.prog 105 #[.pointer (some ⟨sb, 0, none⟩)] w (ScNextQ B sb rb rv tk c r (adv col [c]) w) := by
  have h2 : St ((w.setCell ⟨sb, 1036, none⟩ (.int .i64 (-1))).setCell ⟨sb, 1046, none⟩ (.int .i64 0)) B sb rb rv tk (headCh (c :: r)) false (c :: r) col none := by
    obtain ⟨N, hs, hr, hc⟩ := h
    exact ⟨_, (hs.set1036 (-1)).set1046 0, (hr.drop rfl).same rfl rfl rfl rfl rfl rfl rfl rfl rfl, hc⟩
  have hm2 := ((Mv.refl sb rb w tk).setCell 1036 (.int .i64 (-1))).setCell 1046 (.int .i64 0)
  have hg2 := h.glob hB hg hm2
  have f36 : w.frozen? ⟨sb, 1036, none⟩ = false := by obtain ⟨N, hs, _⟩ := h; exact hs.frozen 1036
  have f46 : w.frozen? ⟨sb, 1046, none⟩ = false := by obtain ⟨N, hs, _⟩ := h; exact hs.frozen 1046
  obtain ⟨o36, k36⟩ : ∃ o, w.cell? ⟨sb, 1036, none⟩ = some (.int .i64 o) := by obtain ⟨N, hs, _⟩ := h; exact ⟨_, hs.c1036⟩
  obtain ⟨o46, k46⟩ : ∃ o, w.cell? ⟨sb, 1046, none⟩ = some (.int .i64 o) := by obtain ⟨N, hs, _⟩ := h; exact ⟨_, hs.c1046⟩
  have hp := peek_again h2
  have hn := next_non h2 hg2 hB
  have hc : headCh (c :: r) = (c.toNat : Int) := rfl
  rw [hc] at hp hn h2
  obtain ⟨m, hm⟩ : ∃ m : Nat, m = c.toNat := ⟨_, rfl⟩
  have hm' : ¬ ((m : Int) = -1) := by omega
  rw [← hm] at hp hn h2
  have Hp := Lib.hid hp
  have Hn := Lib.hid hn
  have Hm2 := Lib.hid hm2
  have HM := Lib.hid hm
  clear h h2 hp hn hc hm hm2 hg hg2
  go_enter Tryz.func105, Tryz.ntmps105
  go_wp2_with fail
  refine Hp.out.mono ?_
  rintro e w3 ⟨rfl, rfl⟩
  go_wp2_with fail
  refine Hn.out.mono ?_
  rintro e w4 ⟨rfl, tk4, h4, hm4⟩
  have h5 := h4.setCh (headCh r)
  have hm5 := (Hm2.out.trans hm4).setCell 1038 (.int .i32 (headCh r))
  have f38 : w4.frozen? ⟨sb, 1038, none⟩ = false := by obtain ⟨N, hs, _⟩ := h4; exact hs.frozen 1038
  obtain ⟨o38, k38⟩ : ∃ o, w4.cell? ⟨sb, 1038, none⟩ = some (.int .i32 o) := by obtain ⟨N, hs, _⟩ := h4; exact ⟨_, hs.c1038⟩
  have H5 := Lib.hid h5
  have Hm5 := Lib.hid hm5
  clear h4 hm4 h5 hm5 k36 k46 f36 f46
  obtain ⟨n', hn'⟩ : ∃ n', n' = headCh r := ⟨_, rfl⟩
  rw [← hn'] at H5 Hm5 ⊢
  have Hn' := Lib.hid hn'
  clear hn'
  go_wp2
  go_ret
  refine ⟨by rw [HM.out]; rfl, tk4, ?_, Hm5.out⟩
  rw [← Hn'.out]
  exact H5.out

end Go.Proofs.YtpoimmpdncickaaGreatDoor
