/- What the scanner's parts tell: names, texts in quotation marks, comments, numbers, and the text of a token. -/
import Derived.Test.YtpoimmpdncickaaGreatDoorJ1
import Derived.Test.YtpoimmpdncickaaGreatDoorJ3
import Derived.Test.YtpoimmpdncickaaGreatDoorProg
import Derived.Deep.LoopGhost
import Derived.Deep.AppendSrc
import Derived.StillTailTactics
/- Which characters of ASCII stand in a name: unicode.IsLetter, unicode.IsDigit, the tokenizer's and the scanner's isIdentRune; isDecimal, lower, isHex. -/
namespace Go.Proofs.YtpoimmpdncickaaGreatDoor
open Go Go.RowKit Lex
set_option linter.unusedVariables false
set_option linter.unusedSimpArgs false

def letN (c : Nat) : Bool := props.getD c 0 == 160 || props.getD c 0 == 192
theorem props_few : ∀ c, c < 128 → props.getD c 0 = 1 ∨ props.getD c 0 = 144 ∨ props.getD c 0 = 130 ∨ props.getD c 0 = 136 ∨ props.getD c 0 = 132 ∨ props.getD c 0 = 160 ∨ props.getD c 0 = 192 := by decide
theorem letN_fin : ∀ n : Fin 128, (letN n.val || UInt8.ofNat n.val == 95) = isLet (UInt8.ofNat n.val) := by decide
theorem letN_isLet (c : UInt8) (hc : c < 128) : (letN c.toNat || c == 95) = isLet c := by
  have h : c.toNat < 128 := by simpa [UInt8.lt_iff_toNat_lt] using hc
  have := letN_fin ⟨c.toNat, h⟩
  simpa using this
theorem letN_le : ∀ c, c < 128 → letN c = true → ¬ (48 ≤ c ∧ c ≤ 57) := by decide

def IsB (b : Bool) (w : World) (e : Ending) (w' : World) : Prop := e = .returned (.bool b) ∧ w' = w

set_option maxRecDepth 100000 in
set_option maxHeartbeats 1000000 in
theorem isLetter_any (c : Nat) (hc : c < 128) (w : World) {ev : Value} (hg : Glob w ev) :
    Calls Tryz.prog 63 #[.int .i32 c] w (IsB (letN c) w) := by
  have hp := hg.props c (by omega)
  have hl : letN c = (props.getD c 0 == 160 || props.getD c 0 == 192) := rfl
  clear hg
  have e1 : IntKind.u32.wrap (c : Int) = c := by simp [IntKind.wrap, IntKind.bits, IntKind.signed]; omega
  have e2 : IntKind.u8.wrap (c : Int) = c := by simp [IntKind.wrap, IntKind.bits, IntKind.signed]; omega
  rw [hl]
  rcases props_few c hc with h | h | h | h | h | h | h <;> rw [h] at hp ⊢ <;> clear h hl
  all_goals
    go_enter Tryz.func63, Tryz.ntmps63
    go_wp2
    go_ret
    exact ⟨rfl, rfl⟩

set_option maxRecDepth 100000 in
set_option maxHeartbeats 1000000 in
theorem isDigit_any (c : Nat) (hc : c < 128) (w : World) :
    Calls Tryz.prog 64 #[.int .i32 c] w (IsB (decide (48 ≤ c) && decide (c ≤ 57)) w) := by
  by_cases h1 : 48 ≤ c
  · by_cases h2 : c ≤ 57
    · have hb : (decide (48 ≤ c) && decide (c ≤ 57)) = true := by simp [h1, h2]
      rw [hb]
      clear hb
      go_enter Tryz.func64, Tryz.ntmps64
      go_wp2
      go_ret
      exact ⟨by simp [*] <;> omega, rfl⟩
    · have hb : (decide (48 ≤ c) && decide (c ≤ 57)) = false := by simp [h2]
      rw [hb]
      clear hb
      go_enter Tryz.func64, Tryz.ntmps64
      go_wp2
      go_ret
      exact ⟨by simp [*] <;> omega, rfl⟩
  · have hb : (decide (48 ≤ c) && decide (c ≤ 57)) = false := by simp [h1]
    rw [hb]
    clear hb
    go_enter Tryz.func64, Tryz.ntmps64
    go_wp2
    go_ret
    exact ⟨by simp [*] <;> omega, rfl⟩

/-- A character may stand at place i of a name. -/
def idr (c i : Nat) : Bool := letN c || c == 95 || (decide (0 < i) && (decide (48 ≤ c) && decide (c ≤ 57)))

set_option maxRecDepth 100000 in
set_option maxHeartbeats 1000000 in
theorem tokIdent_any (c i : Nat) (hc : c < 128) (w : World) {ev : Value} (hg : Glob w ev) :
    Calls Tryz.prog 48 #[.int .i32 c, .int .i64 i] w (IsB (idr c i) w) := by
  have h183 : ¬ c = 183 := by omega
  have h87 : ¬ c = 8725 := by omega
  unfold idr
  cases hl : letN c with
  | true =>
    have Hl := Lib.hid hl
    clear hl
    go_enter Tryz.func48, Tryz.ntmps48
    go_wp2_with fail
    refine (isLetter_any c hc _ hg).mono ?_
    rw [Hl.out]
    rintro e w1 ⟨rfl, rfl⟩
    go_wp2
    go_ret
    exact ⟨rfl, rfl⟩
  | false =>
    have Hl := Lib.hid hl
    clear hl
    by_cases h95 : c = 95
    · subst h95
      go_enter Tryz.func48, Tryz.ntmps48
      go_wp2_with fail
      refine (isLetter_any 95 hc _ hg).mono ?_
      rw [Hl.out]
      rintro e w1 ⟨rfl, rfl⟩
      go_wp2
      go_ret
      exact ⟨rfl, rfl⟩
    · have hb : (c == 95) = false := by simp [h95]
      rw [hb]
      by_cases hi : 0 < i
      · have hi' : decide ((0 : Int) < (i : Int)) = true := by simp; omega
        have hd : decide (0 < i) = true := by simp [hi]
        rw [hd]
        clear hd hb
        go_enter Tryz.func48, Tryz.ntmps48
        go_wp2_with fail
        refine (isLetter_any c hc _ hg).mono ?_
        rw [Hl.out]
        rintro e w1 ⟨rfl, rfl⟩
        go_wp2_with fail
        refine (isDigit_any c hc _).mono ?_
        rintro e w1 ⟨rfl, rfl⟩
        go_wp2
        go_ret
        exact ⟨by simp, rfl⟩
      · have hi' : i = 0 := by omega
        subst hi'
        clear hb
        go_enter Tryz.func48, Tryz.ntmps48
        go_wp2_with fail
        refine (isLetter_any c hc _ hg).mono ?_
        rw [Hl.out]
        rintro e w1 ⟨rfl, rfl⟩
        go_wp2
        go_ret
        exact ⟨rfl, rfl⟩

/-- What isIdentRune says of the character that is looked at. -/
def idrI (ch : Int) (i : Nat) : Bool := match ch with | .ofNat c => idr c i | .negSucc _ => false

set_option maxRecDepth 100000 in
set_option maxHeartbeats 1000000 in
theorem scanIdent_any (sb : Nat) (ch : Int) (i : Nat) (hc : ch = -1 ∨ ∃ c : Nat, ch = c ∧ c < 128) (w : World) {ev : Value} (hg : Glob w ev)
    (h43 : w.cell? ⟨sb, 1043, none⟩ = some (.func (.func 48) #[] #[])) :
    Calls Tryz.prog 119 #[.pointer (some ⟨sb, 0, none⟩), .int .i32 ch, .int .i64 i] w (IsB (idrI ch i) w) := by
  have hnf : ∀ u : World, (binOp BinOp.neq 92 (.func (.func 48) #[] #[]) .nilFunc).run Tryz.prog u = .ok (.bool true) u := fun u => by kernel_rfl
  rcases hc with rfl | ⟨c, rfl, hc⟩
  · go_enter Tryz.func119, Tryz.ntmps119
    go_wp2
    go_ret
    first | exact ⟨rfl, rfl⟩ | skip
  · have hne : ¬ ((c : Int) = -1) := by omega
    have hnb : ((c : Int) != -1) = true := by simp
    go_enter Tryz.func119, Tryz.ntmps119
    go_wp2_with fail
    refine (tokIdent_any c i hc _ hg).mono ?_
    rintro e w1 ⟨rfl, rfl⟩
    go_wp2
    go_ret
    exact ⟨rfl, rfl⟩
/-- From w to w' the scanner has moved. -/
structure Mv (sb rb : Nat) (w : World) (tk : Option Nat) (w' : World) (tk' : Option Nat) : Prop where
  tks : TkTo w tk tk'
  only : Only (fun k => k = sb ∨ k = rb ∨ tk = some k) w w'

theorem Mv.refl (sb rb : Nat) (w : World) (tk : Option Nat) : Mv sb rb w tk w tk := ⟨.inl rfl, Only.refl _ w⟩
theorem Mv.trans {sb rb : Nat} {w w1 w2 : World} {tk tk1 tk2 : Option Nat} (h : Mv sb rb w tk w1 tk1) (k : Mv sb rb w1 tk1 w2 tk2) : Mv sb rb w tk w2 tk2 :=
  ⟨h.tks.step h.only.size k.tks, h.tks.only h.only k.only fun _ h => h⟩
theorem Mv.drewN {sb rb : Nat} {w w1 : World} {tk tk1 : Option Nat} (h : Mv sb rb w tk w1 tk1) (m : Nat) : Mv sb rb w tk (w1.drewN m) tk1 := ⟨h.tks, h.only.drewN m⟩
theorem Mv.setCell {sb rb : Nat} {w w1 : World} {tk tk1 : Option Nat} (h : Mv sb rb w tk w1 tk1) (i : Nat) (v : Value) : Mv sb rb w tk (w1.setCell ⟨sb, i, none⟩ v) tk1 := ⟨h.tks, h.only.setCell (p := ⟨sb, i, none⟩) (fun _ => .inl rfl) v⟩

/-- Rel asks nothing of the other numbers. -/
theorem Rel.same {N N' : Nums} {fr : Bool} {r : Bs} {col : Nat} {x : Option Bs} (h : Rel N fr r col x) (e1 : N'.p = N.p) (e2 : N'.fin = N.fin) (e3 : N'.lc = N.lc) (e4 : N'.cc = N.cc) (e5 : N'.ll = N.ll) (e6 : N'.tp = N.tp) (e7 : N'.buf = N.buf) (e8 : N'.rest = N.rest) (e9 : N'.y = N.y) : Rel N' fr r col x := by
  obtain ⟨p, fin, off, line, cc, ll, lc, tp, te, ch, errs, p45, p46, p47, nm, buf, rest, y⟩ := N
  obtain ⟨p', fin', off', line', cc', ll', lc', tp', te', ch', errs', p45', p46', p47', nm', buf', rest', y'⟩ := N'
  simp only at e1 e2 e3 e4 e5 e6 e7 e8 e9
  subst e1 e2 e3 e4 e5 e6 e7 e8 e9
  refine { ple := h.ple, fle := h.fle, sent := h.sent, lll := h.lll, asc := h.asc, clen := h.clen, col1 := h.col1, lc := h.lc, unread := h.unread, atChar := h.atChar, cols := ?_, tok := ?_ }
  · have := h.cols
    cases fr <;> cases r <;> exact this
  · have := h.tok
    cases x <;> exact this

/-- The scanner stands in front of r (its character in column col), having collected x (none: nothing is being collected). -/
def St (w : World) (B sb rb : Nat) (rv : Value) (tk : Option Nat) (ch : Int) (fr : Bool) (r : Bs) (col : Nat) (x : Option Bs) : Prop := ∃ N, SM w B sb rb rv tk N ∧ Rel N fr r col x ∧ N.ch = ch

section
variable {w w' : World} {B sb rb : Nat} {rv : Value} {tk : Option Nat} {ch : Int} {fr : Bool} {r : Bs} {col : Nat} {x : Option Bs} {ev : Value}
theorem St.low (h : St w B sb rb rv tk ch fr r col x) : B ≤ sb := by obtain ⟨N, h, _⟩ := h; exact h.low
theorem St.lt (h : St w B sb rb rv tk ch fr r col x) : sb < w.heap.size := by obtain ⟨N, h, _⟩ := h; exact h.lt
theorem St.above (h : St w B sb rb rv tk ch fr r col x) : ∀ k, (k = sb ∨ k = rb ∨ tk = some k) → B ≤ k := by
  obtain ⟨N, h, _⟩ := h
  exact fun k hk => hk.elim (fun e => e ▸ h.low) (fun e => e.elim (fun e => e ▸ h.rlow) (fun e => h.tlow k e))
theorem St.glob {tk' : Option Nat} (h : St w B sb rb rv tk ch fr r col x) (hB : 21 ≤ B) (hg : Glob w ev) (hm : Mv sb rb w tk w' tk') : Glob w' ev :=
  hg.only hm.only (fun k hk hd => by have := h.above k hd; omega)
theorem St.drewN (h : St w B sb rb rv tk ch fr r col x) (m : Nat) : St (w.drewN m) B sb rb rv tk ch fr r col x := by
  obtain ⟨N, h, h2⟩ := h; exact ⟨N, h.drewN m, h2⟩
theorem St.asc (h : St w B sb rb rv tk ch fr r col x) : ascii r := by obtain ⟨N, _, h, _⟩ := h; exact h.asc
theorem St.c43 (h : St w B sb rb rv tk ch fr r col x) : w.cell? ⟨sb, 1043, none⟩ = some (.func (.func 48) #[] #[]) := by
  obtain ⟨N, ⟨S, h⟩, _⟩ := h; exact h.blk.cell_eq (by decide) h.s1043
/-- s.ch is set. -/
theorem St.setCh (h : St w B sb rb rv tk ch fr r col x) (ch' : Int) : St (w.setCell ⟨sb, 1038, none⟩ (.int .i32 ch')) B sb rb rv tk ch' fr r col x := by
  obtain ⟨N, h, h2, h3⟩ := h
  exact ⟨_, h.set1038 ch', h2.same rfl rfl rfl rfl rfl rfl rfl rfl rfl, rfl⟩
end

/-- What next leaves. -/
def NextQ (B sb rb : Nat) (rv : Value) (tk : Option Nat) (ch : Int) (r : Bs) (col : Nat) (x : Option Bs) (w : World) (e : Ending) (w' : World) : Prop :=
  e = .returned (.int .i32 (headCh r)) ∧ ∃ tk', St w' B sb rb rv tk' ch false r col x ∧ Mv sb rb w tk w' tk'

theorem next_any {w : World} {B sb rb : Nat} {rv : Value} {tk : Option Nat} {ch : Int} {fr : Bool} {r : Bs} {col : Nat} {x : Option Bs} {ev : Value} (h : St w B sb rb rv tk ch fr r col x) (hr : fr = true ∨ r ≠ []) (hg : Glob w ev) (hB : 21 ≤ B)
    (hx : ∀ y, nextTok fr r x = some y → y.length ≤ 64) :
    Calls Tryz.prog 117 #[.pointer (some ⟨sb, 0, none⟩)] w (NextQ B sb rb rv tk ch (tailOf fr r) (nextCol fr r col) (nextTok fr r x) w) := by
  obtain ⟨N, hs, hrel, rfl⟩ := h
  have hp := rel_pre hrel hr
  have key : Calls Tryz.prog 117 #[.pointer (some ⟨sb, 0, none⟩)] w (NextP B sb rb rv tk N.ch (tailOf fr r) (nextCol fr r col) (nextTok fr r x) w) := by
    by_cases hpf : N.p < N.fin
    · obtain ⟨c, t, hrc, _, _⟩ := rel_head hp hpf
      rw [hrc] at hp ⊢
      exact next_direct hs hp hpf
    · exact next_refill hg hB (Nat.le_trans hs.low (Nat.le_of_lt hs.lt)) hs hp (by have := hp.ple; omega) hx
  refine key.mono ?_
  rintro e w' ⟨rfl, tk', N', h1, h2, h3, h4, h5⟩
  exact ⟨rfl, tk', ⟨N', h1, h2, h3⟩, h4, h5⟩

/-- next, with a token being collected. -/
theorem next_tok {w : World} {B sb rb : Nat} {rv : Value} {tk : Option Nat} {ch : Int} {c : UInt8} {r : Bs} {col : Nat} {x : Bs} {ev : Value} (h : St w B sb rb rv tk ch false (c :: r) col (some x)) (hg : Glob w ev) (hB : 21 ≤ B) (hx : x.length ≤ 63) :
    Calls Tryz.prog 117 #[.pointer (some ⟨sb, 0, none⟩)] w (NextQ B sb rb rv tk ch r (adv col [c]) (some (x ++ [c])) w) :=
  next_any h (.inr (by simp)) hg hB (by intro y hy; simp [nextTok] at hy; subst hy; simp; omega)
/-- next, with none. -/
theorem next_non {w : World} {B sb rb : Nat} {rv : Value} {tk : Option Nat} {ch : Int} {c : UInt8} {r : Bs} {col : Nat} {ev : Value} (h : St w B sb rb rv tk ch false (c :: r) col none) (hg : Glob w ev) (hB : 21 ≤ B) :
    Calls Tryz.prog 117 #[.pointer (some ⟨sb, 0, none⟩)] w (NextQ B sb rb rv tk ch r (adv col [c]) none w) :=
  next_any h (.inr (by simp)) hg hB (by intro y hy; simp [nextTok] at hy)

theorem headCh_of {r : Bs} (h : ascii r) : headCh r = -1 ∨ ∃ c : Nat, headCh r = c ∧ c < 128 := by
  cases r with
  | nil => exact .inl rfl
  | cons c t => exact .inr ⟨c.toNat, rfl, by have := h c (by simp); simpa [UInt8.lt_iff_toNat_lt] using this⟩

def PeekQ (B sb rb : Nat) (rv : Value) (tk : Option Nat) (r : Bs) (col : Nat) (x : Option Bs) (w : World) (e : Ending) (w' : World) : Prop :=
  e = .returned (.int .i32 (headCh r)) ∧ ∃ tk', St w' B sb rb rv tk' (headCh r) false r col x ∧ Mv sb rb w tk w' tk'

set_option maxRecDepth 100000 in
set_option maxHeartbeats 1000000 in
/-- Peek, when a character has been read. -/
theorem peek_again {w : World} {B sb rb : Nat} {rv : Value} {tk : Option Nat} {r : Bs} {col : Nat} {x : Option Bs} (h : St w B sb rb rv tk (headCh r) false r col x) :
    Calls Tryz.prog 104 #[.pointer (some ⟨sb, 0, none⟩)] w (fun e w' => e = .returned (.int .i32 (headCh r)) ∧ w' = w) := by
  obtain ⟨N, hs, hrel, hch⟩ := h
  have h38 := hs.c1038
  rw [hch] at h38
  have hne : ¬ headCh r = -2 := by rcases headCh_of hrel.asc with e | ⟨c, e, _⟩ <;> rw [e] <;> omega
  clear hs hrel hch
  obtain ⟨n, hn⟩ : ∃ n, n = headCh r := ⟨_, rfl⟩
  rw [← hn] at h38 hne ⊢
  clear hn
  have hnb : (n == -2) = false := by simp [hne]
  go_enter Tryz.func104, Tryz.ntmps104
  go_wp2
  go_ret
  exact ⟨rfl, rfl⟩

set_option maxRecDepth 100000 in
set_option maxHeartbeats 1000000 in
/-- Peek at the beginning. -/
theorem peek_first {w : World} {B sb rb : Nat} {rv : Value} {tk : Option Nat} {r : Bs} {col : Nat} {ev : Value} (h : St w B sb rb rv tk (-2) true r col none) (hg : Glob w ev) (hB : 21 ≤ B) :
    Calls Tryz.prog 104 #[.pointer (some ⟨sb, 0, none⟩)] w (PeekQ B sb rb rv tk r col none w) := by
  have h38 : w.cell? ⟨sb, 1038, none⟩ = some (.int .i32 (-2)) := by obtain ⟨N, hs, hrel, hch⟩ := h; have := hs.c1038; rw [hch] at this; exact this
  have hne : ¬ headCh r = 65279 := by rcases headCh_of h.asc with e | ⟨c, e, _⟩ <;> rw [e] <;> omega
  have H := Lib.hid h
  have Hg := Lib.hid hg
  clear h hg
  obtain ⟨n, hn⟩ : ∃ n, n = headCh r := ⟨_, rfl⟩
  rw [← hn] at hne
  have Hn := Lib.hid hn
  clear hn
  have hnb : (n == 65279) = false := by simp [hne]
  go_enter Tryz.func104, Tryz.ntmps104
  go_wp2_with fail
  refine (next_any H.out (.inl rfl) Hg.out hB (by intro y hy; simp [nextTok] at hy)).mono ?_
  rintro e w1 ⟨rfl, tk', h1, hm⟩
  have h2 := h1.setCh n
  have hm2 := hm.setCell 1038 (.int .i32 n)
  have k38 : w1.cell? ⟨sb, 1038, none⟩ = some (.int .i32 (-2)) := by obtain ⟨N, hs, hrel, hch⟩ := h1; have := hs.c1038; rw [hch] at this; exact this
  have f38 : w1.frozen? ⟨sb, 1038, none⟩ = false := by obtain ⟨N, hs, hrel, hch⟩ := h1; exact hs.frozen 1038
  have H2 := Lib.hid h2
  have Hm := Lib.hid hm2
  clear h1 h2 hm hm2
  rw [show headCh (tailOf true r) = n from Hn.out.symm]
  go_wp2
  go_ret
  refine ⟨by rw [Hn.out]; rfl, tk', ?_, Hm.out⟩
  have := H2.out
  rw [← Hn.out]
  exact this
theorem idr_isLet (c : UInt8) (hc : c < 128) (i : Nat) (hi : 0 < i) : idr c.toNat i = isIdc c := by
  unfold idr isIdc
  rw [show (c.toNat == 95) = (c == 95) by
    by_cases h : c = 95
    · subst h; decide
    · have : ¬ c.toNat = 95 := fun e => h (by apply UInt8.toNat_inj.1; rw [e]; rfl)
      rw [show (c == 95) = false from by simp [h]]
      simpa using this, letN_isLet c hc]
  congr 1
  simp [hi, isDig, UInt8.le_iff_toNat_le]
theorem idrI_head {r : Bs} (h : ascii r) (i : Nat) (hi : 0 < i) : idrI (headCh r) i = match r with | [] => false | c :: _ => isIdc c := by
  cases r with
  | nil => rfl
  | cons c t => exact idr_isLet c (h c (by simp)) i hi

/-- In the loop. -/
def IdLoop (B sb rb : Nat) (rv : Value) (tk : Option Nat) (ch : Int) (x r' : Bs) (col : Nat) (y : Bs) (w : World) (k : Nat) (v3 v4 : Value) (wr : World) : Prop :=
  ∃ x1 x2 tk1, x = x1 ++ x2 ∧ k = x2.length ∧ v3 = .int .i32 (headCh (x2 ++ r')) ∧ v4 = .int .i64 ((1 + x1.length : Nat) : Int) ∧ St wr B sb rb rv tk1 ch false (x2 ++ r') (adv col x1) (some (y ++ x1)) ∧ Mv sb rb w tk wr tk1

theorem adv_append (col : Nat) (a b : Bs) : adv col (a ++ b) = adv (adv col a) b := by
  induction a generalizing col with
  | nil => rfl
  | cons c r ih => exact ih _

set_option maxRecDepth 100000 in
set_option maxHeartbeats 1000000 in
theorem scanIdentifier_any {w : World} {B sb rb : Nat} {rv : Value} {tk : Option Nat} {ch : Int} {c : UInt8} {x r' : Bs} {col : Nat} {y : Bs} {ev : Value} (h : St w B sb rb rv tk ch false (c :: (x ++ r')) col (some y)) (hg : Glob w ev) (hB : 21 ≤ B)
    (hx : ∀ b ∈ x, isIdc b = true) (he : ends isIdc r') (hy : y.length + x.length ≤ 63) :
    Calls Tryz.prog 120 #[.pointer (some ⟨sb, 0, none⟩)] w (NextQ B sb rb rv tk ch r' (adv col (c :: x)) (some (y ++ c :: x)) w) := by
  have H := Lib.hid h
  have Hg := Lib.hid hg
  have Hx := Lib.hid hx
  have He := Lib.hid he
  clear h hg hx he
  go_enter Tryz.func120, Tryz.ntmps120
  go_wp2_with fail
  refine (next_tok H.out Hg.out hB (by omega)).mono ?_
  rintro e w1 ⟨rfl, tk1, h1, hm1⟩
  have H1 := Lib.hid h1
  have Hm1 := Lib.hid hm1
  have Hg1 := Lib.hid (H.out.glob hB Hg.out hm1)
  clear h1 hm1
  go_wp2
  go_loopg [3, 4] x.length (fun k v3 v4 wr => IdLoop B sb rb rv tk1 ch x r' (adv col [c]) (y ++ [c]) w1 k v3 v4 wr)
  case atStart => exact ⟨[], x, tk1, rfl, rfl, rfl, rfl, by simpa [adv] using H1.out, Mv.refl _ _ _ _⟩
  case round =>
    obtain ⟨x1, x2, tk2, hxx, rfl, rfl, rfl, h2, hm2⟩ := hrel
    have hg2 := H1.out.glob hB Hg1.out hm2
    have hasc := h2.asc
    have h43 := h2.c43
    have hid := idrI_head hasc (1 + x1.length) (by omega)
    have hlen : x1.length + x2.length = x.length := by rw [hxx, List.length_append]
    have hcalls := scanIdent_any sb (headCh (x2 ++ r')) (1 + x1.length) (headCh_of hasc) wr hg2 h43
    cases x2 with
    | nil =>
      have hend : idrI (headCh ([] ++ r')) (1 + x1.length) = false := by
        rw [hid]
        cases r' with
        | nil => rfl
        | cons d t => exact He.out d rfl
      rw [hend] at hcalls
      have h3 : St wr B sb rb rv tk2 ch false r' (adv col (c :: x)) (some (y ++ c :: x)) := by
        have := h2
        rw [List.nil_append, ← adv_append, List.append_assoc] at this
        rw [hxx, List.append_nil]
        exact this
      have H3 := Lib.hid h3
      have Hm := Lib.hid (Hm1.out.trans hm2)
      have Hc := Lib.hid hcalls
      rw [List.nil_append] at Hc ⊢
      clear h2 hm2 hg2 hasc h43 hid hend hcalls h3 hxx hlen
      obtain ⟨n, hn⟩ : ∃ n, n = headCh r' := ⟨_, rfl⟩
      rw [← hn] at Hc ⊢
      have Hn := Lib.hid hn
      clear hn
      go_wp2_with fail
      refine Hc.out.mono ?_
      rintro e w2 ⟨rfl, rfl⟩
      go_wp2
      go_ret
      exact ⟨by rw [Hn.out]; rfl, tk2, H3.out, Hm.out⟩
    | cons d t =>
      have hdm : d ∈ x := by rw [hxx]; simp
      have hend : idrI (headCh (d :: t ++ r')) (1 + x1.length) = true := by
        rw [hid]
        exact Hx.out d hdm
      rw [hend] at hcalls
      have H2 := Lib.hid h2
      have Hm2 := Lib.hid hm2
      have Hg2 := Lib.hid hg2
      have Hc := Lib.hid hcalls
      have Hxx := Lib.hid hxx
      have hl1 : x1.length < 100 := by simp at hlen; omega
      clear h2 hm2 hg2 hasc h43 hid hend hcalls hxx
      obtain ⟨n, hn⟩ : ∃ n, n = headCh (d :: t ++ r') := ⟨_, rfl⟩
      rw [← hn] at Hc ⊢
      clear hn
      obtain ⟨l1, hl⟩ : ∃ l1, l1 = x1.length := ⟨_, rfl⟩
      rw [← hl] at Hc hl1 ⊢
      have HL := Lib.hid hl
      have Hlen := Lib.hid hlen
      clear hl hlen
      go_wp2_with fail
      refine Hc.out.mono ?_
      rintro e w2 ⟨rfl, rfl⟩
      go_wp2_with fail
      refine (next_tok H2.out Hg2.out hB (by have := Hlen.out; simp at this; simp; omega)).mono ?_
      rintro e w3 ⟨rfl, tk3, h3, hm3⟩
      have H3 := Lib.hid h3
      have Hm3 := Lib.hid (Hm2.out.trans hm3)
      clear h3 hm3
      go_wp2
      go_roundg t.length
      case measure => simp
      case rel =>
        refine ⟨x1 ++ [d], t, tk3, by rw [Hxx.out]; simp, rfl, rfl, ?_, ?_, Hm3.out⟩
        · rw [List.length_append, ← HL.out]; simp; omega
        · have := H3.out
          rw [← adv_append, List.append_assoc] at this
          exact this
def StrLoop (B sb rb : Nat) (rv : Value) (tk : Option Nat) (ch : Int) (x r' : Bs) (col : Nat) (y : Bs) (w : World) (k : Nat) (v4 v5 : Value) (wr : World) : Prop :=
  ∃ x1 x2 tk1, x = x1 ++ x2 ∧ k = x2.length ∧ v4 = .int .i64 (x1.length : Int) ∧ v5 = .int .i32 (headCh (x2 ++ 34 :: r')) ∧ St wr B sb rb rv tk1 ch false (x2 ++ 34 :: r') (adv col x1) (some (y ++ x1)) ∧ Mv sb rb w tk wr tk1

/-- What scanString leaves: it stands at the closing mark. -/
def StrQ (B sb rb : Nat) (rv : Value) (tk : Option Nat) (ch : Int) (n : Int) (r : Bs) (col : Nat) (x : Option Bs) (w : World) (e : Ending) (w' : World) : Prop :=
  e = .returned (.int .i64 n) ∧ ∃ tk', St w' B sb rb rv tk' ch false r col x ∧ Mv sb rb w tk w' tk'

theorem isStr_spec {c : UInt8} (h : isStr c = true) : 32 ≤ c.toNat ∧ c.toNat ≤ 126 ∧ c.toNat ≠ 34 ∧ c.toNat ≠ 92 := by
  unfold isStr at h
  simp only [Bool.and_eq_true, decide_eq_true_eq, bne_iff_ne, ne_eq, UInt8.le_iff_toNat_le] at h
  obtain ⟨⟨⟨h1, h2⟩, h3⟩, h4⟩ := h
  exact ⟨h1, h2, fun e => h3 (UInt8.toNat_inj.1 e), fun e => h4 (UInt8.toNat_inj.1 e)⟩

set_option maxRecDepth 100000 in
set_option maxHeartbeats 1000000 in
theorem scanString_any {w : World} {B sb rb : Nat} {rv : Value} {tk : Option Nat} {ch : Int} {x r' : Bs} {col : Nat} {y : Bs} {ev : Value} (h : St w B sb rb rv tk ch false (34 :: (x ++ 34 :: r')) col (some y)) (hg : Glob w ev) (hB : 21 ≤ B)
    (hx : ∀ b ∈ x, isStr b = true) (hy : y.length + x.length ≤ 63) :
    Calls Tryz.prog 123 #[.pointer (some ⟨sb, 0, none⟩), .int .i32 34] w (StrQ B sb rb rv tk ch x.length (34 :: r') (adv col (34 :: x)) (some (y ++ 34 :: x)) w) := by
  have H := Lib.hid h
  have Hg := Lib.hid hg
  have Hx := Lib.hid hx
  clear h hg hx
  go_enter Tryz.func123, Tryz.ntmps123
  go_wp2_with fail
  refine (next_tok H.out Hg.out hB (by omega)).mono ?_
  rintro e w1 ⟨rfl, tk1, h1, hm1⟩
  have H1 := Lib.hid h1
  have Hm1 := Lib.hid hm1
  have Hg1 := Lib.hid (H.out.glob hB Hg.out hm1)
  clear h1 hm1
  go_wp2
  go_loopg [4, 5] x.length (fun k v4 v5 wr => StrLoop B sb rb rv tk1 ch x r' (adv col [34]) (y ++ [34]) w1 k v4 v5 wr)
  case atStart => exact ⟨[], x, tk1, rfl, rfl, rfl, rfl, by simpa [adv] using H1.out, Mv.refl _ _ _ _⟩
  case round =>
    obtain ⟨x1, x2, tk2, hxx, rfl, rfl, rfl, h2, hm2⟩ := hrel
    have hg2 := H1.out.glob hB Hg1.out hm2
    have hlen : x1.length + x2.length = x.length := by rw [hxx, List.length_append]
    cases x2 with
    | nil =>
      have h3 : St wr B sb rb rv tk2 ch false (34 :: r') (adv col (34 :: x)) (some (y ++ 34 :: x)) := by
        have := h2
        rw [List.nil_append, ← adv_append, List.append_assoc] at this
        rw [hxx, List.append_nil]
        exact this
      have hlx : x1.length = x.length := by simpa using hlen
      have H3 := Lib.hid h3
      have Hm := Lib.hid (Hm1.out.trans hm2)
      have HL := Lib.hid hlx
      have e0 : headCh ([] ++ 34 :: r') = 34 := rfl
      rw [e0]
      clear h2 hm2 hg2 h3 hxx hlen hlx e0
      go_wp2
      go_ret
      exact ⟨by rw [HL.out]; rfl, tk2, H3.out, Hm.out⟩
    | cons d t =>
      have hdm := isStr_spec (Hx.out d (by rw [hxx]; simp))
      have e0 : headCh (d :: t ++ 34 :: r') = (d.toNat : Int) := rfl
      rw [e0]
      have H2 := Lib.hid h2
      have Hm2 := Lib.hid hm2
      have Hg2 := Lib.hid hg2
      have Hxx := Lib.hid hxx
      have hl1 : x1.length < 100 := by simp at hlen; omega
      clear h2 hm2 hg2 hxx e0
      obtain ⟨n, hn⟩ : ∃ n, n = d.toNat := ⟨_, rfl⟩
      rw [← hn] at hdm ⊢
      clear hn
      obtain ⟨hd1, hd2, hd3, hd4⟩ := hdm
      obtain ⟨l1, hl⟩ : ∃ l1, l1 = x1.length := ⟨_, rfl⟩
      rw [← hl] at hl1 ⊢
      have HL := Lib.hid hl
      have Hlen := Lib.hid hlen
      clear hl hlen
      have n10 : ¬ n = 10 := by omega
      have n0 : ¬ (n : Int) < 0 := by omega
      go_wp2_with fail
      refine (next_tok H2.out Hg2.out hB (by have := Hlen.out; simp at this; simp; omega)).mono ?_
      rintro e w3 ⟨rfl, tk3, h3, hm3⟩
      have H3 := Lib.hid h3
      have Hm3 := Lib.hid (Hm2.out.trans hm3)
      clear h3 hm3
      go_wp2
      go_roundg t.length
      case measure => simp
      case rel =>
        refine ⟨x1 ++ [d], t, tk3, by rw [Hxx.out]; simp, rfl, ?_, rfl, ?_, Hm3.out⟩
        · rw [List.length_append, ← HL.out]; simp
        · have := H3.out
          rw [← adv_append, List.append_assoc] at this
          exact this

theorem noEnd_tail {d : UInt8} {t : Bs} (h : noEnd (d :: t)) : noEnd t := by
  unfold noEnd at h
  split at h
  · exact h.elim
  · rename_i e; cases e; exact h
  · trivial
theorem noEnd_two {d e : UInt8} {t : Bs} (h : noEnd (d :: e :: t)) : ¬ (d = 42 ∧ e = 47) := by
  rintro ⟨rfl, rfl⟩
  exact h
theorem noEnd_app : ∀ {a b : Bs}, noEnd (a ++ b) → noEnd b
  | [], _, h => h
  | _ :: a, _, h => noEnd_app (a := a) (noEnd_tail h)

/-- In the loop: z2, which ends in a star, is what is left of the inside. -/
def ComLoop (B sb rb : Nat) (rv : Value) (tk : Option Nat) (ch : Int) (x r' : Bs) (col : Nat) (y : Bs) (w : World) (k : Nat) (v1 : Value) (wr : World) : Prop :=
  ∃ z1 z2 tk1, x ++ [42] = z1 ++ z2 ∧ z2 ≠ [] ∧ k = z2.length ∧ v1 = .int .i32 (headCh (z2 ++ 47 :: r')) ∧ St wr B sb rb rv tk1 ch false (z2 ++ 47 :: r') (adv col z1) (some (y ++ z1)) ∧ Mv sb rb w tk wr tk1

set_option maxRecDepth 100000 in
set_option maxHeartbeats 1000000 in
theorem scanComment_any {w : World} {B sb rb : Nat} {rv : Value} {tk : Option Nat} {ch : Int} {x r' : Bs} {col : Nat} {y : Bs} {ev : Value} (h : St w B sb rb rv tk ch false (42 :: (x ++ 42 :: 47 :: r')) col (some y)) (hg : Glob w ev) (hB : 21 ≤ B)
    (hx : noEnd (x ++ [42])) (hy : y.length + x.length ≤ 61) :
    Calls Tryz.prog 125 #[.pointer (some ⟨sb, 0, none⟩), .int .i32 42] w (NextQ B sb rb rv tk ch r' (adv col (42 :: (x ++ [42, 47]))) (some (y ++ 42 :: (x ++ [42, 47]))) w) := by
  have hasc := h.asc
  have H := Lib.hid h
  have Hg := Lib.hid hg
  have Hx := Lib.hid hx
  have Ha := Lib.hid hasc
  clear h hg hx hasc
  go_enter Tryz.func125, Tryz.ntmps125
  go_wp2_with fail
  refine (next_tok H.out Hg.out hB (by omega)).mono ?_
  rintro e w1 ⟨rfl, tk1, h1, hm1⟩
  have H1 := Lib.hid h1
  have Hm1 := Lib.hid hm1
  have Hg1 := Lib.hid (H.out.glob hB Hg.out hm1)
  clear h1 hm1
  go_wp2
  go_loopg [1, 5] (x.length + 1) (fun k v1 v5 wr => ComLoop B sb rb rv tk1 ch x r' (adv col [42]) (y ++ [42]) w1 k v1 wr)
  case atStart => exact ⟨[], x ++ [42], tk1, rfl, by simp, by simp, by simp, by simpa [adv] using H1.out, Mv.refl _ _ _ _⟩
  case round =>
    obtain ⟨z1, z2, tk2, hzz, hz0, rfl, rfl, h2, hm2⟩ := hrel
    have hg2 := H1.out.glob hB Hg1.out hm2
    have hlen : z1.length + z2.length = x.length + 1 := by rw [← List.length_append, ← hzz]; simp
    have hne : noEnd z2 := noEnd_app (a := z1) (by rw [← hzz]; exact Hx.out)
    cases z2 with
    | nil => exact absurd rfl hz0
    | cons d t =>
      have hd128 : d.toNat < 128 := by have := h2.asc d (by simp); simpa [UInt8.lt_iff_toNat_lt] using this
      have e0 : headCh (d :: t ++ 47 :: r') = (d.toNat : Int) := rfl
      rw [e0]
      clear e0
      have hcalls := next_tok h2 hg2 hB (by simp at hlen; simp; omega)
      have Hc := Lib.hid hcalls
      have H2 := Lib.hid h2
      have Hm2 := Lib.hid hm2
      have Hg2 := Lib.hid hg2
      have Hzz := Lib.hid hzz
      have Hlen := Lib.hid hlen
      clear hcalls h2 hm2 hg2 hzz hlen hz0
      cases t with
      | nil =>
        have hd42 : d = 42 := by
          have := Hzz.out
          have := congrArg List.getLast? this
          simpa using this.symm
        subst hd42
        have e1 : headCh (List.append [] (47 :: r')) = 47 := rfl
        have Hne := Lib.hid hne
        clear hne
        go_wp2_with fail
        refine Hc.out.mono ?_
        rintro e w3 ⟨rfl, tk3, h3, hm3⟩
        have Hg3 := Lib.hid (H2.out.glob hB Hg2.out hm3)
        have H3 := Lib.hid h3
        have Hm3 := Lib.hid (Hm2.out.trans hm3)
        clear h3 hm3
        rw [e1]
        clear e1
        go_wp2_with fail
        refine (next_tok H3.out Hg3.out hB (by have := Hlen.out; simp at this; simp; omega)).mono ?_
        rintro e w4 ⟨rfl, tk4, h4, hm4⟩
        have hz : x ++ [42] = z1 ++ [42] := Hzz.out
        have hxz : x = z1 := by simpa using hz
        have h5 : St w4 B sb rb rv tk4 ch false r' (adv col (42 :: (x ++ [42, 47]))) (some (y ++ 42 :: (x ++ [42, 47]))) := by
          have := h4
          rw [← adv_append, ← adv_append, ← adv_append] at this
          rw [hxz]
          simpa using this
        have H5 := Lib.hid h5
        have Hm := Lib.hid (Hm1.out.trans (Hm3.out.trans hm4))
        clear h4 hm4 hz hxz h5
        go_wp2
        go_ret
        exact ⟨rfl, tk4, H5.out, Hm.out⟩
      | cons e0 t0 =>
        have h2e := noEnd_two hne
        have e1 : headCh (List.append (e0 :: t0) (47 :: r')) = (e0.toNat : Int) := rfl
        have h2n : d.toNat = 42 → ¬ e0.toNat = 47 := fun a b => h2e ⟨UInt8.toNat_inj.1 a, UInt8.toNat_inj.1 b⟩
        clear hne h2e
        obtain ⟨n, hn⟩ : ∃ n, n = d.toNat := ⟨_, rfl⟩
        obtain ⟨m, hm⟩ : ∃ m, m = e0.toNat := ⟨_, rfl⟩
        rw [← hn, ← hm] at h2n
        rw [← hn] at hd128 ⊢
        rw [← hm] at e1
        clear hn hm
        have n0 : ¬ (n : Int) < 0 := by omega
        go_wp2_with fail
        refine Hc.out.mono ?_
        rintro e w3 ⟨rfl, tk3, h3, hm3⟩
        have H3 := Lib.hid h3
        have Hm3 := Lib.hid (Hm2.out.trans hm3)
        clear h3 hm3
        have key : ∀ v5 : Value, ComLoop B sb rb rv tk1 ch x r' (adv col [42]) (y ++ [42]) w1 (t0.length + 1) (.int .i32 m) w3 := fun _ =>
          ⟨z1 ++ [d], e0 :: t0, tk3, by rw [Hzz.out]; simp, by simp, rfl, by rw [show headCh (e0 :: t0 ++ 47 :: r') = (m : Int) from e1], by
            have := H3.out
            rw [← adv_append, List.append_assoc] at this
            exact this, Hm3.out⟩
        have Key := Lib.hid key
        rw [e1]
        clear key e1
        by_cases h42 : n = 42
        · have hm47 := h2n h42
          subst h42
          go_wp2
          go_roundg (t0.length + 1)
          case measure => simp
          case rel => exact Key.out .nilIface
        · go_wp2
          go_roundg (t0.length + 1)
          case measure => simp
          case rel => exact Key.out .nilIface
set_option maxRecDepth 100000 in
theorem isDecimal_any (ch : Int) (w : World) : Calls Tryz.prog 121 #[.int .i32 ch] w (IsB (decide (48 ≤ ch) && decide (ch ≤ 57)) w) := by
  by_cases h1 : 48 ≤ ch
  · by_cases h2 : ch ≤ 57
    all_goals
      go_enter Tryz.func121, Tryz.ntmps121
      go_wp2
      go_ret
      exact ⟨by simp [*], rfl⟩
  · go_enter Tryz.func121, Tryz.ntmps121
    go_wp2
    go_ret
    exact ⟨by simp [*]; try omega, rfl⟩

/-- lower's result. -/
def lowI (ch : Int) : Int := bits BinOp.or .i32 32 ch

set_option maxRecDepth 100000 in
theorem lower_any (ch : Int) (w : World) : Calls Tryz.prog 148 #[.int .i32 ch] w (fun e w' => e = .returned (.int .i32 (lowI ch)) ∧ w' = w) := by
  go_enter Tryz.func148, Tryz.ntmps148
  go_wp2
  go_ret
  exact ⟨rfl, rfl⟩

theorem lowI_end : lowI (-1) = -1 := by decide
theorem lowI_fin : ∀ n : Fin 128, isLet (UInt8.ofNat n.val) = false → (lowI n.val = 101 ∨ lowI n.val = 112 ∨ lowI n.val = 120 ∨ lowI n.val = 111 ∨ lowI n.val = 98) → False := by decide
theorem lowI_hex : ∀ n : Fin 128, ((decide (48 ≤ n.val) && decide (n.val ≤ 57)) || (decide (97 ≤ lowI n.val) && decide (lowI n.val ≤ 102))) = isHexd (UInt8.ofNat n.val) := by decide
theorem lowI_120 : lowI 120 = 120 := by decide
theorem lowI_not {c : UInt8} (h : c < 128) (hl : isLet c = false) : ¬ lowI c.toNat = 101 ∧ ¬ lowI c.toNat = 112 ∧ ¬ lowI c.toNat = 120 ∧ ¬ lowI c.toNat = 111 ∧ ¬ lowI c.toNat = 98 := by
  have hn : c.toNat < 128 := by simpa [UInt8.lt_iff_toNat_lt] using h
  have := lowI_fin ⟨c.toNat, hn⟩ (by simpa using hl)
  simp only at this
  refine ⟨?_, ?_, ?_, ?_, ?_⟩ <;> intro e <;> apply this <;> simp [e]

/-- isHex of the character that is looked at. -/
def hexI (ch : Int) : Bool := (decide (48 ≤ ch) && decide (ch ≤ 57)) || (decide (97 ≤ lowI ch) && decide (lowI ch ≤ 102))
theorem hexI_of {c : UInt8} (h : c < 128) : hexI c.toNat = isHexd c := by
  have hn : c.toNat < 128 := by simpa [UInt8.lt_iff_toNat_lt] using h
  have := lowI_hex ⟨c.toNat, hn⟩
  simp only at this
  rw [show UInt8.ofNat c.toNat = c by simp] at this
  rw [← this]
  unfold hexI
  have e1 : decide ((48 : Int) ≤ (c.toNat : Int)) = decide (48 ≤ c.toNat) := by rw [Bool.eq_iff_iff]; simp; omega
  have e2 : decide ((c.toNat : Int) ≤ 57) = decide (c.toNat ≤ 57) := by rw [Bool.eq_iff_iff]; simp; omega
  rw [e1, e2]
theorem hexI_end : hexI (-1) = false := by decide

set_option maxRecDepth 100000 in
set_option maxHeartbeats 1000000 in
theorem isHex_any (ch : Int) (w : World) : Calls Tryz.prog 171 #[.int .i32 ch] w (IsB (hexI ch) w) := by
  unfold hexI
  obtain ⟨l, hl⟩ : ∃ l, l = lowI ch := ⟨_, rfl⟩
  have hlow : ∀ u, Calls Tryz.prog 148 #[.int .i32 ch] u (fun e w' => e = .returned (.int .i32 l) ∧ w' = u) := fun u => by rw [hl]; exact lower_any ch u
  rw [← hl]
  have Hlow := Lib.hid hlow
  clear hl hlow
  by_cases h1 : 48 ≤ ch <;> by_cases h2 : ch ≤ 57 <;> by_cases h3 : 97 ≤ l <;> by_cases h4 : l ≤ 102
  all_goals
    first
    | (exfalso; omega)
    | (go_enter Tryz.func171, Tryz.ntmps171
       go_wp2_with (go_at_call 148; refine (Hlow.out _).mono ?_; rintro e w1 ⟨rfl, rfl⟩)
       go_ret
       exact ⟨by simp [*]; try omega, rfl⟩)
def digsep (x : Bs) : Int := match x with | [] => 0 | _ :: _ => 1

def DigQ (B sb rb : Nat) (rv : Value) (tk : Option Nat) (ch : Int) (ds : Int) (r : Bs) (col : Nat) (x : Option Bs) (w : World) (e : Ending) (w' : World) : Prop :=
  e = .returned (.tuple #[.int .i32 (headCh r), .int .i64 ds]) ∧ ∃ tk', St w' B sb rb rv tk' ch false r col x ∧ Mv sb rb w tk w' tk'

def DigLoop (B sb rb : Nat) (rv : Value) (tk : Option Nat) (ch : Int) (x r' : Bs) (col : Nat) (y : Bs) (w : World) (k : Nat) (v8 v9 : Value) (wr : World) : Prop :=
  ∃ x1 x2 tk1, x = x1 ++ x2 ∧ k = x2.length ∧ v8 = .int .i32 (headCh (x2 ++ r')) ∧ v9 = .int .i64 (digsep x1) ∧ St wr B sb rb rv tk1 ch false (x2 ++ r') (adv col x1) (some (y ++ x1)) ∧ Mv sb rb w tk wr tk1

theorem isDig_spec {c : UInt8} (h : isDig c = true) : 48 ≤ c.toNat ∧ c.toNat ≤ 57 := by
  unfold isDig at h
  simpa [UInt8.le_iff_toNat_le] using h
theorem headCh_ends {r : Bs} (he : ends isIdc r) : ¬ headCh r = 95 ∧ ¬ (48 ≤ headCh r ∧ headCh r ≤ 57) := by
  cases r with
  | nil => exact ⟨by decide, by decide⟩
  | cons c t =>
    have h := he c rfl
    unfold isIdc at h
    simp only [Bool.or_eq_false_iff] at h
    refine ⟨fun e => ?_, fun e => ?_⟩
    · have : c = 95 := UInt8.toNat_inj.1 (by have : (c.toNat : Int) = 95 := e; show c.toNat = 95; omega)
      subst this; exact absurd h.1 (by decide)
    · have : isDig c = true := by
        unfold isDig
        have e1 : (48 : Int) ≤ (c.toNat : Int) := e.1
        have e2 : (c.toNat : Int) ≤ 57 := e.2
        simp only [Bool.and_eq_true, decide_eq_true_eq, UInt8.le_iff_toNat_le]
        exact ⟨by show 48 ≤ c.toNat; omega, by show c.toNat ≤ 57; omega⟩
      rw [this] at h; exact absurd h.2 (by decide)
theorem isHexd_isIdc {c : UInt8} (h : isHexd c = true) : isIdc c = true := by
  unfold isHexd at h
  unfold isIdc isLet isDig at *
  simp only [Bool.or_eq_true, Bool.and_eq_true, decide_eq_true_eq, beq_iff_eq, UInt8.le_iff_toNat_le] at *
  have h102 : (102 : UInt8).toNat = 102 := rfl
  have h122 : (122 : UInt8).toNat = 122 := rfl
  have h70 : (70 : UInt8).toNat = 70 := rfl
  have h90 : (90 : UInt8).toNat = 90 := rfl
  omega
theorem hexI_ends {r : Bs} (ha : ascii r) (he : ends isIdc r) : hexI (headCh r) = false := by
  cases r with
  | nil => exact hexI_end
  | cons c t =>
    show hexI c.toNat = false
    rw [hexI_of (ha c (by simp))]
    cases h : isHexd c with
    | false => rfl
    | true => have := he c rfl; rw [isHexd_isIdc h] at this; exact absurd this (by decide)

set_option maxRecDepth 100000 in
set_option maxHeartbeats 1000000 in
theorem digits_dec {w : World} {B sb rb : Nat} {rv : Value} {tk : Option Nat} {ch : Int} {x r' : Bs} {col : Nat} {y : Bs} {ev : Value} (h : St w B sb rb rv tk ch false (x ++ r') col (some y)) (hg : Glob w ev) (hB : 21 ≤ B)
    (hx : ∀ b ∈ x, isDig b = true) (he : ends isIdc r') (hy : y.length + x.length ≤ 64) (base : Nat) (hb : base = 10 ∨ base = 8 ∧ x = []) (iv : Value) :
    Calls Tryz.prog 149 #[.pointer (some ⟨sb, 0, none⟩), .int .i32 (headCh (x ++ r')), .int .i64 (base : Nat), iv] w (DigQ B sb rb rv tk ch (digsep x) r' (adv col x) (some (y ++ x)) w) := by
  have H := Lib.hid h
  have Hg := Lib.hid hg
  have Hx := Lib.hid hx
  have He := Lib.hid he
  clear h hg hx he
  obtain ⟨n0, hn0⟩ : ∃ n0, n0 = headCh (x ++ r') := ⟨_, rfl⟩
  rw [← hn0]
  have HN0 := Lib.hid hn0
  clear hn0
  have hb1 : (base : Int) ≤ 10 := by omega
  have e1 : IntKind.i64.wrap (48 + (base : Int)) = 48 + (base : Int) := IntWalk.i64_in _ (by omega)
  have e1' : wrap64 (48 + (base : Int)) = 48 + (base : Int) := by unfold wrap64; omega
  have e2 : IntKind.i32.wrap (48 + (base : Int)) = 48 + (base : Int) := IntWalk.i32_in _ (by omega)
  have Hb := Lib.hid hb
  clear hb
  go_enter Tryz.func149, Tryz.ntmps149
  go_wp2
  go_loopg [8, 9, 11] x.length (fun k v8 v9 v11 wr => DigLoop B sb rb rv tk ch x r' col y w k v8 v9 wr)
  case atStart => exact ⟨[], x, tk, rfl, rfl, by rw [HN0.out], rfl, by simpa [adv] using H.out, Mv.refl _ _ _ _⟩
  case round =>
    obtain ⟨x1, x2, tk2, hxx, rfl, rfl, rfl, h2, hm2⟩ := hrel
    have hg2 := H.out.glob hB Hg.out hm2
    have hlen : x1.length + x2.length = x.length := by rw [hxx, List.length_append]
    cases x2 with
    | nil =>
      have h3 : St wr B sb rb rv tk2 ch false r' (adv col x) (some (y ++ x)) := by
        have := h2
        rw [List.nil_append] at this
        rw [hxx, List.append_nil]
        exact this
      have hds : digsep x1 = digsep x := by rw [hxx, List.append_nil]
      obtain ⟨h95, h48⟩ := headCh_ends He.out
      have htest : (decide ((48 : Int) ≤ headCh r') && decide (headCh r' ≤ 57)) = false := by simp; omega
      have H3 := Lib.hid h3
      have Hm := Lib.hid hm2
      have HD := Lib.hid hds
      rw [List.nil_append]
      obtain ⟨n, hn⟩ : ∃ n, n = headCh r' := ⟨_, rfl⟩
      rw [← hn] at h95 htest ⊢
      have Hn := Lib.hid hn
      have h95b : (n == 95) = false := by simp [h95]
      have Ht := Lib.hid htest
      clear h2 hm2 hg2 h3 hxx hlen hds hn h48 htest
      obtain ⟨d0, hd0⟩ : ∃ d0, d0 = digsep x1 := ⟨_, rfl⟩
      rw [← hd0] at HD ⊢
      clear hd0
      go_wp2_with fail
      refine (isDecimal_any n _).mono ?_
      rw [Ht.out]
      rintro e w2 ⟨rfl, rfl⟩
      go_wp2
      go_ret2
      exact ⟨by rw [Hn.out, HD.out]; rfl, tk2, H3.out, Hm.out⟩
    | cons d t =>
      have hdx := Hx.out d (by rw [hxx]; simp)
      obtain ⟨hd1, hd2⟩ := isDig_spec hdx
      have htest : (decide ((48 : Int) ≤ (d.toNat : Int)) && decide ((d.toNat : Int) ≤ 57)) = true := by simp; omega
      have hd95 : ¬ d.toNat = 95 := by omega
      have hb10 : base = 10 := by
        rcases Hb.out with h | ⟨_, h⟩
        · exact h
        · rw [h] at hxx; simp at hxx
      have e0 : headCh (d :: t ++ r') = (d.toNat : Int) := rfl
      rw [e0]
      have hcalls := next_tok h2 hg2 hB (by simp at hlen; simp; omega)
      have hds : digsep (x1 ++ [d]) = 1 := by cases x1 <;> rfl
      have hd0 : digsep x1 = 0 ∨ digsep x1 = 1 := by cases x1; exact .inl rfl; exact .inr rfl
      have Hc := Lib.hid hcalls
      have Hm2 := Lib.hid hm2
      have Hxx := Lib.hid hxx
      have HD := Lib.hid hds
      clear hcalls h2 hm2 hg2 hxx hlen hds e0 hdx
      obtain ⟨n, hn⟩ : ∃ n, n = d.toNat := ⟨_, rfl⟩
      rw [← hn] at htest hd95 ⊢
      rw [← hn] at hd1 hd2
      clear hn
      have hlt : ¬ (58 : Int) ≤ (n : Int) := by omega
      have hltb : decide ((58 : Int) ≤ (n : Int)) = false := by simp; omega
      have hltc : decide ((48 : Int) + (base : Int) ≤ (n : Int)) = false := by simp; omega
      clear hb10
      have h95b : ((n : Int) == 95) = false := by simp; omega
      have Ht := Lib.hid htest
      clear htest
      have key : ∀ w3 tk3, St w3 B sb rb rv tk3 ch false (t ++ r') (adv (adv col x1) [d]) (some (y ++ x1 ++ [d])) → Mv sb rb wr tk2 w3 tk3 → DigLoop B sb rb rv tk ch x r' col y w t.length (.int .i32 (headCh (t ++ r'))) (.int .i64 1) w3 := fun w3 tk3 h3 hm3 =>
        ⟨x1 ++ [d], t, tk3, by rw [Hxx.out]; simp, rfl, rfl, by rw [HD.out], by rw [← adv_append, List.append_assoc] at h3; exact h3, Hm2.out.trans hm3⟩
      have Key := Lib.hid key
      clear key
      rcases hd0 with hd0 | hd0 <;> rw [hd0] <;> clear hd0
      all_goals
        go_wp2_with fail
        refine (isDecimal_any n _).mono ?_
        rw [Ht.out]
        rintro e w2 ⟨rfl, rfl⟩
        go_wp2_with fail
        refine Hc.out.mono ?_
        rintro e w3 ⟨rfl, tk3, h3, hm3⟩
        have Hk := Lib.hid (Key.out w3 tk3 h3 hm3)
        clear h3 hm3
        go_wp2
        go_roundg t.length
        case measure => simp
        case rel => exact Hk.out

set_option maxRecDepth 100000 in
set_option maxHeartbeats 1000000 in
theorem digits_hex {w : World} {B sb rb : Nat} {rv : Value} {tk : Option Nat} {ch : Int} {x r' : Bs} {col : Nat} {y : Bs} {ev : Value} (h : St w B sb rb rv tk ch false (x ++ r') col (some y)) (hg : Glob w ev) (hB : 21 ≤ B)
    (hx : ∀ b ∈ x, isHexd b = true) (he : ends isIdc r') (hy : y.length + x.length ≤ 64) (iv : Value) :
    Calls Tryz.prog 149 #[.pointer (some ⟨sb, 0, none⟩), .int .i32 (headCh (x ++ r')), .int .i64 16, iv] w (DigQ B sb rb rv tk ch (digsep x) r' (adv col x) (some (y ++ x)) w) := by
  have H := Lib.hid h
  have Hg := Lib.hid hg
  have Hx := Lib.hid hx
  have He := Lib.hid he
  clear h hg hx he
  obtain ⟨n0, hn0⟩ : ∃ n0, n0 = headCh (x ++ r') := ⟨_, rfl⟩
  rw [← hn0]
  have HN0 := Lib.hid hn0
  clear hn0
  go_enter Tryz.func149, Tryz.ntmps149
  go_wp2
  go_loopg [8, 9, 12] x.length (fun k v8 v9 v11 wr => DigLoop B sb rb rv tk ch x r' col y w k v8 v9 wr)
  case atStart => exact ⟨[], x, tk, rfl, rfl, by rw [HN0.out], rfl, by simpa [adv] using H.out, Mv.refl _ _ _ _⟩
  case round =>
    obtain ⟨x1, x2, tk2, hxx, rfl, rfl, rfl, h2, hm2⟩ := hrel
    have hg2 := H.out.glob hB Hg.out hm2
    have hlen : x1.length + x2.length = x.length := by rw [hxx, List.length_append]
    cases x2 with
    | nil =>
      have h3 : St wr B sb rb rv tk2 ch false r' (adv col x) (some (y ++ x)) := by
        have := h2
        rw [List.nil_append] at this
        rw [hxx, List.append_nil]
        exact this
      have hds : digsep x1 = digsep x := by rw [hxx, List.append_nil]
      obtain ⟨h95, h48⟩ := headCh_ends He.out
      have htest : hexI (headCh r') = false := hexI_ends h3.asc He.out
      have H3 := Lib.hid h3
      have Hm := Lib.hid hm2
      have HD := Lib.hid hds
      rw [List.nil_append]
      obtain ⟨n, hn⟩ : ∃ n, n = headCh r' := ⟨_, rfl⟩
      rw [← hn] at h95 htest ⊢
      have Hn := Lib.hid hn
      have h95b : (n == 95) = false := by simp [h95]
      have Ht := Lib.hid htest
      clear h2 hm2 hg2 h3 hxx hlen hds hn h48 htest
      obtain ⟨d0, hd0⟩ : ∃ d0, d0 = digsep x1 := ⟨_, rfl⟩
      rw [← hd0] at HD ⊢
      clear hd0
      go_wp2_with fail
      refine (isHex_any n _).mono ?_
      rw [Ht.out]
      rintro e w2 ⟨rfl, rfl⟩
      go_wp2
      go_ret2
      exact ⟨by rw [Hn.out, HD.out]; rfl, tk2, H3.out, Hm.out⟩
    | cons d t =>
      have hdx := Hx.out d (by rw [hxx]; simp)
      have hd128 : d < 128 := h2.asc d (by simp)
      have htest : hexI (d.toNat : Int) = true := by rw [hexI_of hd128]; exact hdx
      have hd95 : ¬ d.toNat = 95 := fun e => by
        have : d = 95 := UInt8.toNat_inj.1 e
        subst this; exact absurd hdx (by decide)
      have e0 : headCh (d :: t ++ r') = (d.toNat : Int) := rfl
      rw [e0]
      have hcalls := next_tok h2 hg2 hB (by simp at hlen; simp; omega)
      have hds : digsep (x1 ++ [d]) = 1 := by cases x1 <;> rfl
      have hd0 : digsep x1 = 0 ∨ digsep x1 = 1 := by cases x1; exact .inl rfl; exact .inr rfl
      have Hc := Lib.hid hcalls
      have Hm2 := Lib.hid hm2
      have Hxx := Lib.hid hxx
      have HD := Lib.hid hds
      clear hcalls h2 hm2 hg2 hxx hlen hds e0 hdx
      obtain ⟨n, hn⟩ : ∃ n, n = d.toNat := ⟨_, rfl⟩
      rw [← hn] at htest hd95 ⊢
      clear hn hd128
      have h95b : ((n : Int) == 95) = false := by simp; omega
      have Ht := Lib.hid htest
      clear htest
      have key : ∀ w3 tk3, St w3 B sb rb rv tk3 ch false (t ++ r') (adv (adv col x1) [d]) (some (y ++ x1 ++ [d])) → Mv sb rb wr tk2 w3 tk3 → DigLoop B sb rb rv tk ch x r' col y w t.length (.int .i32 (headCh (t ++ r'))) (.int .i64 1) w3 := fun w3 tk3 h3 hm3 =>
        ⟨x1 ++ [d], t, tk3, by rw [Hxx.out]; simp, rfl, rfl, by rw [HD.out], by rw [← adv_append, List.append_assoc] at h3; exact h3, Hm2.out.trans hm3⟩
      have Key := Lib.hid key
      clear key
      rcases hd0 with hd0 | hd0 <;> rw [hd0] <;> clear hd0
      all_goals
        go_wp2_with fail
        refine (isHex_any n _).mono ?_
        rw [Ht.out]
        rintro e w2 ⟨rfl, rfl⟩
        go_wp2_with fail
        refine Hc.out.mono ?_
        rintro e w3 ⟨rfl, tk3, h3, hm3⟩
        have Hk := Lib.hid (Key.out w3 tk3 h3 hm3)
        clear h3 hm3
        go_wp2
        go_roundg t.length
        case measure => simp
        case rel => exact Hk.out
section
variable {w w' : World} {B sb rb : Nat} {rv : Value} {tk : Option Nat} {ch : Int} {fr : Bool} {r : Bs} {col : Nat} {x : Option Bs} {ev : Value}
theorem St.below (h : St w B sb rb rv tk ch fr r col x) : ∀ k, (k = sb ∨ k = rb ∨ tk = some k) → k < w.heap.size := by
  obtain ⟨N, ⟨S, h⟩, _⟩ := h
  rintro k (rfl | rfl | hk)
  · exact h.blk.lt
  · obtain ⟨_, ⟨_, S', z, hb, _⟩ | ⟨_, S', t, i, p, hb, _⟩⟩ := h.rdr
    · exact hb.lt
    · exact hb.lt
  · obtain ⟨_, _, _, ⟨e, _⟩ | ⟨k', e, _, hB, F, hF, _⟩⟩ := h.tb
    · rw [e] at hk; cases hk
    · rw [e] at hk; exact Option.some.inj hk ▸ hF.lt
theorem St.only {D : Nat → Prop} (h : St w B sb rb rv tk ch fr r col x) (ho : Only D w w') (hd : ∀ k, (k = sb ∨ k = rb ∨ tk = some k) → ¬ D k) : St w' B sb rb rv tk ch fr r col x := by
  obtain ⟨N, h, h2⟩ := h
  exact ⟨N, h.only ho (hd _ (.inl rfl)) (hd _ (.inr (.inl rfl))) (fun k hk => hd _ (.inr (.inr hk))), h2⟩
theorem Mv.cell {tk' : Option Nat} (hm : Mv sb rb w tk w' tk') {a : Addr} {v : Value} (h : w.cell? a = some v) (hn : ¬ (a.block = sb ∨ a.block = rb ∨ tk = some a.block)) : w'.cell? a = some v := hm.only.cell h hn
theorem Mv.before {D : Nat → Prop} {w1 : World} {tk' : Option Nat} (hm : Mv sb rb w1 tk w' tk') (ho : Only D w w1) (hd : ∀ k, k < w.heap.size → ¬ D k) : Mv sb rb w tk w' tk' := by
  refine ⟨?_, ?_⟩
  · rcases hm.tks with h | ⟨h1, k, h2, h3⟩
    · exact .inl h
    · exact .inr ⟨h1, k, h2, Nat.le_trans ho.size h3⟩
  · exact (ho.mono (D' := fun k => k = sb ∨ k = rb ∨ tk = some k) (fun k hk h => absurd h (hd k hk))).trans hm.only (fun _ _ h => h)
end

def NumQ (B sb rb : Nat) (rv : Value) (tk : Option Nat) (ch : Int) (r : Bs) (col : Nat) (x : Option Bs) (w : World) (e : Ending) (w' : World) : Prop :=
  e = .returned (.tuple #[.int .i32 (-3), .int .i32 (headCh r)]) ∧ ∃ tk', St w' B sb rb rv tk' ch false r col x ∧ Mv sb rb w tk w' tk'

theorem idot_isIdc {r : Bs} (h : ends idot r) : ends isIdc r := fun c hc => by have := h c hc; unfold idot at this; simp only [Bool.or_eq_false_iff] at this; exact this.1

theorem low_ends {r : Bs} (ha : ascii r) (he : ends idot r) : ¬ lowI (headCh r) = 101 ∧ ¬ lowI (headCh r) = 112 ∧ ¬ lowI (headCh r) = 120 ∧ ¬ lowI (headCh r) = 111 ∧ ¬ lowI (headCh r) = 98 ∧ ¬ headCh r = 46 := by
  cases r with
  | nil => show ¬ lowI (-1) = 101 ∧ ¬ lowI (-1) = 112 ∧ ¬ lowI (-1) = 120 ∧ ¬ lowI (-1) = 111 ∧ ¬ lowI (-1) = 98 ∧ ¬ (-1 : Int) = 46; rw [lowI_end]; decide
  | cons c t =>
    have h := he c rfl
    unfold idot at h
    simp only [Bool.or_eq_false_iff] at h
    have hl : isLet c = false := by have := h.1; unfold isIdc at this; simp only [Bool.or_eq_false_iff] at this; exact this.1
    obtain ⟨h1, h2, h3, h4, h5⟩ := lowI_not (ha c (by simp)) hl
    refine ⟨h1, h2, h3, h4, h5, fun e => ?_⟩
    have : c = 46 := UInt8.toNat_inj.1 (by have : (c.toNat : Int) = 46 := e; show c.toNat = 46; omega)
    subst this
    exact absurd h.2 (by decide)

theorem and11 : bits BinOp.and .i64 1 1 = 1 := by decide
theorem and12 : bits BinOp.and .i64 1 2 = 0 := by decide
theorem or01 : bits BinOp.or .i64 0 1 = 1 := by decide
theorem or10 : bits BinOp.or .i64 1 0 = 1 := by decide

set_option maxRecDepth 100000 in
set_option maxHeartbeats 1000000 in
theorem scanNumber_dec {w : World} {B sb rb : Nat} {rv : Value} {tk : Option Nat} {ch : Int} {c : UInt8} {x r' : Bs} {col : Nat} {y : Bs} {ev : Value} (h : St w B sb rb rv tk ch false (c :: (x ++ r')) col (some y)) (hg : Glob w ev) (hB : 21 ≤ B)
    (hc : isDig c = true) (hc0 : c ≠ 48) (hx : ∀ b ∈ x, isDig b = true) (he : ends idot r') (hy : y.length + x.length ≤ 63) :
    Calls Tryz.prog 122 #[.pointer (some ⟨sb, 0, none⟩), .int .i32 c.toNat, .bool false] w (NumQ B sb rb rv tk ch r' (adv col (c :: x)) (some (y ++ c :: x)) w) := by
  have ho : ∀ o, Only (fun _ => False) w (w.alloc o) := fun o => (Only.refl _ w).alloc o
  have h1 : ∀ o, St (w.alloc o) B sb rb rv tk ch false ((c :: x) ++ r') col (some y) := fun o => h.only (ho o) (fun _ _ h => h)
  have hcalls := fun o (iv : Value) => digits_dec (h1 o) (hg.only (ho o) (fun _ _ h => h)) hB (by intro b hb; rcases List.mem_cons.1 hb with rfl | hb; exact hc; exact hx b hb) (idot_isIdc he) (by simp; omega) 10 (.inl rfl) iv
  have hn48 : ¬ c.toNat = 48 := fun e => hc0 (UInt8.toNat_inj.1 e)
  have hasc : ascii r' := fun b hb => h.asc b (by simp [hb])
  obtain ⟨l1, l2, _, _, _, l6⟩ := low_ends hasc he
  have hbel := h.below
  have Hc := Lib.hid hcalls
  have Ho := Lib.hid ho
  have Hb := Lib.hid hbel
  clear hcalls h1 ho h hg hx he hc hc0 hasc hbel
  obtain ⟨n, hn⟩ : ∃ n, n = headCh r' := ⟨_, rfl⟩
  rw [← hn] at l1 l2 l6
  have Hn := Lib.hid hn
  obtain ⟨l, hl⟩ : ∃ l, l = lowI n := ⟨_, rfl⟩
  rw [← hl] at l1 l2
  have Hl := Lib.hid hl
  clear hn hl
  obtain ⟨m, hm⟩ : ∃ m, m = c.toNat := ⟨_, rfl⟩
  rw [← hm] at hn48 ⊢
  have Hm := Lib.hid hm
  clear hm
  have a1 := and11
  have a2 := and12
  have a3 := or01
  go_enter Tryz.func122, Tryz.ntmps122
  go_wp2_with fail
  rw [Hm.out]
  refine (Hc.out _ _).mono ?_
  rintro e w1 ⟨rfl, tk1, h2, hm⟩
  have hib : w1.cell? ⟨w.heap.size, 0, none⟩ = some (.int .i32 0) := hm.cell (by simp [World.cell?_alloc_new]) (fun hk => absurd (Hb.out _ hk) (Nat.lt_irrefl _))
  have hm2 := hm.before (Ho.out _) (fun _ _ h => h)
  have H2 := Lib.hid h2
  have Hm2 := Lib.hid hm2
  have hds : digsep (c :: x) = 1 := rfl
  rw [hds, ← Hn.out]
  clear h2 hm hm2 hds
  go_wp2_with fail
  refine (lower_any n _).mono ?_
  rw [← Hl.out]
  rintro e w2 ⟨rfl, rfl⟩
  go_wp2
  go_ret2
  exact ⟨by rw [Hn.out]; rfl, tk1, H2.out, Hm2.out⟩

set_option maxRecDepth 100000 in
set_option maxHeartbeats 1000000 in
theorem scanNumber_zero {w : World} {B sb rb : Nat} {rv : Value} {tk : Option Nat} {ch : Int} {r' : Bs} {col : Nat} {y : Bs} {ev : Value} (h : St w B sb rb rv tk ch false (48 :: r') col (some y)) (hg : Glob w ev) (hB : 21 ≤ B)
    (he : ends idot r') (hy : y.length ≤ 63) :
    Calls Tryz.prog 122 #[.pointer (some ⟨sb, 0, none⟩), .int .i32 48, .bool false] w (NumQ B sb rb rv tk ch r' (adv col [48]) (some (y ++ [48])) w) := by
  have ho : ∀ o, Only (fun _ => False) w (w.alloc o) := fun o => (Only.refl _ w).alloc o
  have h1 : ∀ o, St (w.alloc o) B sb rb rv tk ch false (48 :: r') col (some y) := fun o => h.only (ho o) (fun _ _ h => h)
  have hcalls := fun o => next_tok (h1 o) (hg.only (ho o) (fun _ _ h => h)) hB (by omega)
  have hglob : ∀ o w' tk', Mv sb rb (w.alloc o) tk w' tk' → Glob w' ev := fun o w' tk' hm => (h1 o).glob hB (hg.only (ho o) (fun _ _ h => h)) hm
  have hasc : ascii r' := fun b hb => h.asc b (by simp [hb])
  obtain ⟨l1, l2, l3, l4, l5, l6⟩ := low_ends hasc he
  have hbel := h.below
  have Hc := Lib.hid hcalls
  have Ho := Lib.hid ho
  have Hb := Lib.hid hbel
  have He := Lib.hid he
  have Hgl := Lib.hid hglob
  clear hcalls h1 ho h hg he hasc hbel hglob
  obtain ⟨n, hn⟩ : ∃ n, n = headCh r' := ⟨_, rfl⟩
  rw [← hn] at l1 l2 l3 l4 l5 l6
  have Hn := Lib.hid hn
  obtain ⟨l, hl⟩ : ∃ l, l = lowI n := ⟨_, rfl⟩
  rw [← hl] at l1 l2 l3 l4 l5
  have Hl := Lib.hid hl
  clear hn hl
  have a1 := and11
  have a2 := and12
  have a3 := or10
  go_enter Tryz.func122, Tryz.ntmps122
  go_wp2_with fail
  refine (Hc.out _).mono ?_
  rintro e w1 ⟨rfl, tk1, h2, hm⟩
  have hib : w1.cell? ⟨w.heap.size, 0, none⟩ = some (.int .i32 0) := hm.cell (by simp [World.cell?_alloc_new]) (fun hk => absurd (Hb.out _ hk) (Nat.lt_irrefl _))
  have hibn : ¬ (w.heap.size = sb ∨ w.heap.size = rb ∨ tk1 = some w.heap.size) := by
    rintro (h | h | h)
    · exact absurd (Hb.out _ (.inl h)) (Nat.lt_irrefl _)
    · exact absurd (Hb.out _ (.inr (.inl h))) (Nat.lt_irrefl _)
    · rcases hm.tks with h' | ⟨_, k, h1, h2⟩
      · exact absurd (Hb.out _ (.inr (.inr (h'.symm.trans h)))) (Nat.lt_irrefl _)
      · rw [h1] at h; have := Option.some.inj h; have h3 : (w.alloc (.cells #[.int .i32 0] 21)).heap.size = w.heap.size + 1 := by simp
        rw [h3] at h2; omega
  have Hbn := Lib.hid hibn
  have hg1 := Hgl.out _ _ _ hm
  have hcalls2 := fun iv => digits_dec (x := []) h2 hg1 hB (by simp) (idot_isIdc He.out) (by simp; omega) 8 (.inr ⟨rfl, rfl⟩) iv
  have Hc2 := Lib.hid hcalls2
  have Hm1 := Lib.hid (hm.before (Ho.out _) (fun _ _ h => h))
  rw [← Hn.out]
  clear h2 hm hg1 hcalls2 hibn
  go_wp2_with fail
  refine (lower_any n _).mono ?_
  rw [← Hl.out]
  rintro e w2 ⟨rfl, rfl⟩
  go_wp2_with fail
  rw [Hn.out]
  refine (Hc2.out _).mono ?_
  rintro e w3 ⟨rfl, tk2, h3, hm3⟩
  have hib3 := hm3.cell hib Hbn.out
  have Hm3 := Lib.hid (Hm1.out.trans hm3)
  have H3 := Lib.hid h3
  have hds : digsep [] = 0 := rfl
  rw [hds, ← Hn.out]
  clear h3 hm3 hds hib
  go_wp2_with fail
  refine (lower_any n _).mono ?_
  rw [← Hl.out]
  rintro e w4 ⟨rfl, rfl⟩
  go_wp2
  go_ret2
  refine ⟨by rw [Hn.out]; rfl, tk2, ?_, Hm3.out⟩
  have := H3.out
  rw [List.append_nil] at this
  exact this

set_option maxRecDepth 100000 in
set_option maxHeartbeats 1000000 in
theorem scanNumber_hex {w : World} {B sb rb : Nat} {rv : Value} {tk : Option Nat} {ch : Int} {x r' : Bs} {col : Nat} {y : Bs} {ev : Value} (h : St w B sb rb rv tk ch false (48 :: 120 :: (x ++ r')) col (some y)) (hg : Glob w ev) (hB : 21 ≤ B)
    (hx0 : x ≠ []) (hx : ∀ b ∈ x, isHexd b = true) (he : ends idot r') (hy : y.length + x.length ≤ 62) :
    Calls Tryz.prog 122 #[.pointer (some ⟨sb, 0, none⟩), .int .i32 48, .bool false] w (NumQ B sb rb rv tk ch r' (adv col (48 :: 120 :: x)) (some (y ++ 48 :: 120 :: x)) w) := by
  have ho : ∀ o, Only (fun _ => False) w (w.alloc o) := fun o => (Only.refl _ w).alloc o
  have h1 : ∀ o, St (w.alloc o) B sb rb rv tk ch false (48 :: 120 :: (x ++ r')) col (some y) := fun o => h.only (ho o) (fun _ _ h => h)
  have hcalls := fun o => next_tok (h1 o) (hg.only (ho o) (fun _ _ h => h)) hB (by omega)
  have hglob : ∀ o w' tk', Mv sb rb (w.alloc o) tk w' tk' → Glob w' ev := fun o w' tk' hm => (h1 o).glob hB (hg.only (ho o) (fun _ _ h => h)) hm
  have hasc : ascii r' := fun b hb => h.asc b (by simp [hb])
  obtain ⟨l1, l2, l3, l4, l5, l6⟩ := low_ends hasc he
  have hbel := h.below
  have hds : digsep x = 1 := by cases x with | nil => exact absurd rfl hx0 | cons a b => rfl
  have Hc := Lib.hid hcalls
  have Ho := Lib.hid ho
  have Hb := Lib.hid hbel
  have He := Lib.hid he
  have Hgl := Lib.hid hglob
  have Hx := Lib.hid hx
  have HD := Lib.hid hds
  clear hcalls h1 ho h hg he hasc hbel hglob hx hx0 hds
  obtain ⟨n, hn⟩ : ∃ n, n = headCh r' := ⟨_, rfl⟩
  rw [← hn] at l1 l2 l3 l4 l5 l6
  have Hn := Lib.hid hn
  obtain ⟨l, hl⟩ : ∃ l, l = lowI n := ⟨_, rfl⟩
  rw [← hl] at l1 l2 l3 l4 l5
  have Hl := Lib.hid hl
  clear hn hl
  have a1 := and11
  have a2 := and12
  have a3 := or01
  go_enter Tryz.func122, Tryz.ntmps122
  go_wp2_with fail
  refine (Hc.out _).mono ?_
  rintro e w1 ⟨rfl, tk1, h2, hm⟩
  have hib : w1.cell? ⟨w.heap.size, 0, none⟩ = some (.int .i32 0) := hm.cell (by simp [World.cell?_alloc_new]) (fun hk => absurd (Hb.out _ hk) (Nat.lt_irrefl _))
  have hibn : ∀ tk', TkTo (w.alloc (.cells #[.int .i32 0] 21)) tk tk' → ¬ (w.heap.size = sb ∨ w.heap.size = rb ∨ tk' = some w.heap.size) := by
    rintro tk' ht (h | h | h)
    · exact absurd (Hb.out _ (.inl h)) (Nat.lt_irrefl _)
    · exact absurd (Hb.out _ (.inr (.inl h))) (Nat.lt_irrefl _)
    · rcases ht with h' | ⟨_, k, h1, h2⟩
      · exact absurd (Hb.out _ (.inr (.inr (h'.symm.trans h)))) (Nat.lt_irrefl _)
      · rw [h1] at h; have := Option.some.inj h; have h3 : (w.alloc (.cells #[.int .i32 0] 21)).heap.size = w.heap.size + 1 := by simp
        rw [h3] at h2; omega
  have Hbn := Lib.hid (hibn _ hm.tks)
  have hg1 := Hgl.out _ _ _ hm
  have hcalls2 := next_tok h2 hg1 hB (by simp; omega)
  have Hc2 := Lib.hid hcalls2
  have Hm1 := Lib.hid hm
  have HI := Lib.hid hibn
  have e120 : headCh (120 :: (x ++ r')) = 120 := rfl
  rw [e120]
  clear h2 hm hg1 hcalls2 hibn e120
  go_wp2_with fail
  refine (lower_any 120 _).mono ?_
  rw [lowI_120]
  rintro e w2 ⟨rfl, rfl⟩
  go_wp2_with fail
  refine Hc2.out.mono ?_
  rintro e w3 ⟨rfl, tk2, h3, hm3⟩
  have hib3 := hm3.cell hib Hbn.out
  have hm13 := Hm1.out.trans hm3
  have hbn3 := HI.out _ hm13.tks
  have hg3 := Hgl.out _ _ _ hm13
  have hcalls3 := fun iv => digits_hex h3 hg3 hB Hx.out (idot_isIdc He.out) (by simp; omega) iv
  have Hc3 := Lib.hid hcalls3
  have Hm3 := Lib.hid (hm13.before (Ho.out _) (fun _ _ h => h))
  have Hb3 := Lib.hid hbn3
  obtain ⟨d, hd⟩ : ∃ d, d = headCh (x ++ r') := ⟨_, rfl⟩
  rw [← hd] at Hc3 ⊢
  clear h3 hm3 hm13 hbn3 hg3 hcalls3 hib hd
  go_wp2_with fail
  refine (Hc3.out _).mono ?_
  rintro e w4 ⟨rfl, tk3, h4, hm4⟩
  have hib4 := hm4.cell hib3 Hb3.out
  have Hm4 := Lib.hid (Hm3.out.trans hm4)
  have H4 := Lib.hid h4
  rw [HD.out, ← Hn.out]
  clear h4 hm4 hib3
  go_wp2_with fail
  refine (lower_any n _).mono ?_
  rw [← Hl.out]
  rintro e w5 ⟨rfl, rfl⟩
  go_wp2
  go_ret2
  refine ⟨by rw [Hn.out]; rfl, tk3, ?_, Hm4.out⟩
  have := H4.out
  rw [← adv_append, ← adv_append, List.append_assoc, List.append_assoc] at this
  exact this
set_option maxRecDepth 100000 in
set_option maxHeartbeats 1000000 in
theorem zzIndex_none (s sub : ByteArray) (w : World) (hs : s.size ≤ 1000) (h0 : 0 < sub.size) (h4 : sub.size ≤ 4)
    (hne : ∀ i, i + sub.size ≤ s.size → ((s.extract i (i + sub.size)).toList == sub.toList) = false) :
    Calls Tryz.prog 116 #[.string s, .string sub] w (fun e w' => e = .returned (.int .i64 (-1)) ∧ w' = w) := by
  have Hne := Lib.hid hne
  clear hne
  go_enter Tryz.func116, Tryz.ntmps116
  go_wp2
  go_loop [4, 5] (fun i j => ∃ k : Nat, k ≤ s.size ∧ j = .int .i64 k) (fun _ i => s.size - (intOf i).toNat)
  case atStart => exact ⟨0, Nat.zero_le _, rfl⟩
  case round =>
    obtain ⟨k, hk, rfl⟩ := hrel
    by_cases hlt : k + sub.size ≤ s.size
    · have he := Hne.out k hlt
      have hk1 : k + 1 ≤ s.size := by omega
      go_wp2
      go_round
      case rel => exact ⟨k + 1, by omega, by go_num⟩
      case measure => simp [intOf]; omega
    · go_wp2
      go_ret
      exact ⟨rfl, rfl⟩

theorem convert_new (s : ByteArray) (u : World) (C : Nat) (cs : Array Value) (h : ∀ (j : Nat) (v : Value), (cellsOf s.data.toList)[j]? = some v → cs[j]? = some v) :
    (convert 84 9 (.slice (some ⟨u.heap.size, 0, none⟩) s.size C)).run Tryz.prog (u.alloc (.cells cs 5)).drew = .ok (.string s) (u.alloc (.cells cs 5)).drew := by
  have := run_convert_cells (P := Tryz.prog) (u.alloc (.cells cs 5)).drew 84 9 5 Tryz.underlying84 Tryz.underlying5 Tryz.underlying9 (some ⟨u.heap.size, 0, none⟩) C s.data.toList (fun h => by cases h) (fun a ha j v hj => by
    obtain rfl := Option.some.inj ha
    rw [Addr.add_lit, Nat.zero_add]
    have : (u.alloc (.cells cs 5)).cell? ⟨u.heap.size, j, none⟩ = some v := by
      have h1 := h j v hj
      have h2 : (u.alloc (.cells cs 5)).heap[u.heap.size]? = some (.cells cs 5 (0, 0)) := by show (u.heap.push _)[u.heap.size]? = _; simp
      unfold World.cell?
      rw [h2]
      exact h1
    exact this)
  rw [mkS_of] at this
  exact this

theorem cells_cut (s : ByteArray) (z : Array Value) : ∀ (j : Nat) (v : Value), (cellsOf s.data.toList)[j]? = some v → ((Array.map (fun b => Value.int .u8 ↑b.toNat) s.data).extract 0 s.size ++ z)[j]? = some v := by
  intro j v hj
  have hl := (List.getElem?_eq_some_iff.1 hj).1
  have hs : s.data.toList.length = s.size := by rw [Array.length_toList]; rfl
  rw [length_cells, hs] at hl
  have h1 : j < ((Array.map (fun b => Value.int .u8 ↑b.toNat) s.data).extract 0 s.size).size := by
    simp only [Array.size_extract, Array.size_map]
    have : s.data.size = s.size := rfl
    omega
  rw [Array.getElem?_append, if_pos h1, Array.getElem?_extract]
  rw [← Array.getElem?_toList, Array.toList_map]
  simp only [Nat.zero_add]
  rw [if_pos (by have : (Array.map (fun b => Value.int .u8 ↑b.toNat) s.data).size = s.size := by simp
                 omega)]
  exact hj

set_option maxRecDepth 100000 in
set_option maxHeartbeats 1000000 in
theorem zzReplaceAll_none (s old new : ByteArray) (w : World) (hs0 : 0 < s.size) (hs : s.size ≤ 1000) (h0 : 0 < old.size) (h4 : old.size ≤ 4)
    (hne : ∀ i, i + old.size ≤ s.size → ((s.extract i (i + old.size)).toList == old.toList) = false) :
    Calls Tryz.prog 97 #[.string s, .string old, .string new] w (fun e w' => e = .returned (.string s) ∧ Below w.heap.size w w') := by
  have Hz := Lib.hid (fun w => zzIndex_none s old w hs h0 h4 hne)
  have hfit : ¬ 281474976710656 < Builtin.nextslicecap s.size 0 * Tryz.t5.bytes := by
    have := growslice_fits (need := s.size) (old := 0) (bytes := 1) (by omega) (by omega)
    have e1 : Tryz.t5.bytes = 1 := by kernel_rfl
    rw [e1]; omega
  clear hne
  go_enter Tryz.func97, Tryz.ntmps97
  go_wp2
  refine wp_loop_rounds 1 ?_
  rw [rounds_succ]
  go_wp2_with fail
  refine (Hz.out _).mono ?_
  rintro e w1 ⟨rfl, rfl⟩
  go_wp2
  rw [convert_new s _ _ _ (cells_cut s _)]
  go_wp2
  go_ret
  exact ⟨rfl, ((Below.refl _ _).alloc (Nat.le_refl _) _).drew⟩

theorem ascii_ne (x y : Bs) (c : UInt8) (hx : ascii x) (hc : 128 ≤ c) (i : Nat) (hi : i + (c :: y).length ≤ x.length) : (((mkS x).extract i (i + (mkS (c :: y)).size)).toList == (mkS (c :: y)).toList) = false := by
  rw [mkS_toList]
  have e1 : ((mkS x).extract i (i + (mkS (c :: y)).size)).toList = (x.drop i).take ((c :: y).length) := by
    rw [ByteArray.toList_eq]
    simp only [ByteArray.data_extract, Array.toList_extract, mkS, List.extract_eq_take_drop]
    congr 1
    show i + (c :: y).length - i = _
    omega
  rw [e1]
  have hd : x.drop i = x[i]'(by simp at hi; omega) :: x.drop (i + 1) := List.drop_eq_getElem_cons (by simp at hi; omega)
  have hlt := hx (x[i]'(by simp at hi; omega)) (List.getElem_mem _)
  have hne : x[i]'(by simp at hi; omega) ≠ c := fun e => by rw [e] at hlt; rw [UInt8.lt_iff_toNat_lt] at hlt; rw [UInt8.le_iff_toNat_le] at hc; omega
  rw [hd]
  show (x[i]'(by simp at hi; omega) :: (x.drop (i + 1)).take y.length == c :: y) = false
  simp [hne]

/-- Make, of a text of ASCII: the token with this text. -/
def MakeQ (k : Int) (x : Bs) (w : World) (e : Ending) (w' : World) : Prop := e = .returned (.agg #[.int .i32 k, .string (mkS x)]) ∧ Below w.heap.size w w'

set_option maxRecDepth 100000 in
set_option maxHeartbeats 1000000 in
theorem make_any (k : Int) (x : Bs) (w : World) (ha : ascii x) (h0 : x ≠ []) (hl : x.length ≤ 1000) :
    Calls Tryz.prog 75 #[.int .i32 k, .string (mkS x)] w (MakeQ k x w) := by
  have hp : 0 < x.length := List.length_pos_iff.2 h0
  have H1 := Lib.hid (fun w (new : ByteArray) => zzReplaceAll_none (mkS x) (mkS [194, 183]) new w (by rw [mkS_size]; exact hp) (by rw [mkS_size]; exact hl) (by decide) (by decide) (fun i hi => ascii_ne x [183] 194 ha (by decide) i hi))
  have H2 := Lib.hid (fun w (new : ByteArray) => zzReplaceAll_none (mkS x) (mkS [226, 136, 149]) new w (by rw [mkS_size]; exact hp) (by rw [mkS_size]; exact hl) (by decide) (by decide) (fun i hi => ascii_ne x [136, 149] 226 ha (by decide) i hi))
  clear ha h0 hl hp
  go_enter Tryz.func75, Tryz.ntmps75
  go_wp2_with fail
  refine (H1.out _ _).mono ?_
  rintro e w1 ⟨rfl, hb1⟩
  go_wp2_with fail
  refine (H2.out _ _).mono ?_
  rintro e w2 ⟨rfl, hb2⟩
  have hb := hb1.trans (hb2.mono hb1.size)
  have hbw : Below w.heap.size w w2 := ((Below.refl _ _).alloc (Nat.le_refl _) _).trans (hb.mono (by simp))
  have hs : w.heap.size < (w.alloc (.cells #[.int .i32 0, .string ⟨#[]⟩] 116)).heap.size := by simp
  have hB := Blk.new w #[.int .i32 0, .string ⟨#[]⟩] 116 (n := 2) (S := fun i => if i = 0 then .int .i32 0 else .string ⟨#[]⟩) rfl (fun i hi => by (obtain rfl | rfl : i = 0 ∨ i = 1 := by omega) <;> rfl)
  have hB2 := hB.of_heap (hb.block _ hs)
  have k0 := hB2.cell_eq (i := 0) (by decide) rfl
  have k1 := hB2.cell_eq (i := 1) (by decide) rfl
  have f0 := hB2.frozen 0
  have f1 := hB2.frozen 1
  have Hbw := Lib.hid hbw
  clear hb1 hb2 hb hbw hs hB hB2
  go_wp2
  exact bodyPost_ret (v := .agg #[.int .i32 k, .string (mkS x)]) (by simp [results, Tryz.results75, go_sem, k0, k1]) rfl ⟨rfl, (Hbw.out.setCell (by simp) _).setCell (by simp) _⟩
set_option maxRecDepth 100000 in
set_option maxHeartbeats 1000000 in
theorem zzCount_none (s sub : ByteArray) (w : World) (hs : s.size ≤ 1000) (h0 : sub.size = 1)
    (hne : ∀ i, i + 1 ≤ s.size → ((s.extract i (i + 1)).toList == sub.toList) = false) :
    Calls Tryz.prog 102 #[.string s, .string sub] w (fun e w' => e = .returned (.int .i64 0) ∧ w' = w) := by
  have Hne := Lib.hid hne
  clear hne
  go_enter Tryz.func102, Tryz.ntmps102
  go_wp2
  go_loop [5, 6] (fun n i => ∃ k : Nat, k ≤ s.size ∧ n = .int .i64 0 ∧ i = .int .i64 k) (fun _ i => s.size - (intOf i).toNat)
  case atStart => exact ⟨0, Nat.zero_le _, rfl, rfl⟩
  case round =>
    obtain ⟨k, hk, rfl, rfl⟩ := hrel
    by_cases hlt : k + 1 ≤ s.size
    · have he := Hne.out k hlt
      go_wp2
      go_round
      case rel => exact ⟨k + 1, by omega, rfl, by go_num⟩
      case measure => simp [intOf]; omega
    · go_wp2
      go_ret
      exact ⟨rfl, rfl⟩

set_option maxRecDepth 100000 in
set_option maxHeartbeats 1000000 in
theorem contains_none (s : ByteArray) (w : World) (hs : s.size ≤ 1000) (hne : ∀ i (h : i < s.size), s[i] ≠ 10) :
    Calls Tryz.prog 156 #[.string s, .int .u8 10] w (fun e w' => e = .returned (.bool false) ∧ w' = w) := by
  have Hne := Lib.hid hne
  clear hne
  go_enter Tryz.func156, Tryz.ntmps156
  go_wp2
  go_loop [5] (fun i => ∃ k : Nat, k ≤ s.size ∧ i = .int .i64 k) (fun i => s.size - (intOf i).toNat)
  case atStart => exact ⟨0, Nat.zero_le _, rfl⟩
  case round =>
    obtain ⟨k, hk, rfl⟩ := hrel
    by_cases hlt : k < s.size
    · have he : ¬ (s[k].toNat : Int) = 10 := fun e => Hne.out k hlt (UInt8.toNat_inj.1 (by show s[k].toNat = 10; omega))
      go_wp2
      go_round
      case rel => exact ⟨k + 1, by omega, by go_num⟩
      case measure => simp [intOf]; omega
    · go_wp2
      go_ret
      exact ⟨rfl, rfl⟩

set_option maxRecDepth 100000 in
set_option maxHeartbeats 1000000 in
theorem hasPrefix_none (s p : ByteArray) (w : World) (hs : s.size ≤ 1000) (hp : p.size ≤ 100) (hne : p.size ≤ s.size → ((s.extract 0 p.size).toList == p.toList) = false) :
    Calls Tryz.prog 157 #[.string s, .string p] w (fun e w' => e = .returned (.bool false) ∧ w' = w) := by
  have key : ∀ w, Calls Tryz.prog 174 #[.string s, .string p] w (fun e w' => e = .returned (.bool false) ∧ w' = w) := by
    intro w
    by_cases hl : p.size ≤ s.size
    · have he := hne hl
      clear hne
      go_enter Tryz.func174, Tryz.ntmps174
      go_wp2
      go_ret
      exact ⟨rfl, rfl⟩
    · clear hne
      go_enter Tryz.func174, Tryz.ntmps174
      go_wp2
      go_ret
      exact ⟨rfl, rfl⟩
  go_enter Tryz.func157, Tryz.ntmps157
  go_wp2_with fail
  refine (key _).mono ?_
  rintro e w1 ⟨rfl, rfl⟩
  go_wp2
  go_ret
  exact ⟨rfl, rfl⟩

set_option maxRecDepth 100000 in
set_option maxHeartbeats 1000000 in
theorem isGoBuild_none (s : ByteArray) (w : World) (h0 : 0 < s.size) (hs : s.size ≤ 1000) (hne : ∀ i (h : i < s.size), s[i] ≠ 10) (hp : 10 ≤ s.size → ((s.extract 0 10).toList == (mkS [47, 47, 103, 111, 58, 98, 117, 105, 108, 100]).toList) = false) :
    Calls Tryz.prog 103 #[.string s] w (fun e w' => e = .returned (.bool false) ∧ w' = w) := by
  have H1 := Lib.hid (fun w => contains_none s w hs hne)
  have H2 := Lib.hid (fun w => hasPrefix_none s (mkS [47, 47, 103, 111, 58, 98, 117, 105, 108, 100]) w hs (by decide) hp)
  have key : ∀ w, Calls Tryz.prog 130 #[.string s] w (fun e w' => e = .returned (.tuple #[.string ⟨#[]⟩, .bool false]) ∧ w' = w) := by
    intro w
    have hl := hne (s.size - 1) (by omega)
    have hl' : ¬ ((s[s.size - 1]'(by omega)).toNat : Int) = 10 := fun e => hl (UInt8.toNat_inj.1 (by show (s[s.size - 1]'(by omega)).toNat = 10; omega))
    clear hne hl hp
    go_enter Tryz.func130, Tryz.ntmps130
    go_wp2_with fail
    refine (H1.out _).mono ?_
    rintro e w1 ⟨rfl, rfl⟩
    go_wp2_with fail
    refine (H2.out _).mono ?_
    rintro e w1 ⟨rfl, rfl⟩
    go_wp2
    go_ret2
    exact ⟨rfl, rfl⟩
  clear hne hp
  go_enter Tryz.func103, Tryz.ntmps103
  go_wp2_with fail
  refine (key _).mono ?_
  rintro e w1 ⟨rfl, rfl⟩
  go_wp2
  go_ret
  exact ⟨rfl, rfl⟩
/-- BEHIND Scan: the scanner stands in front of r, x is the token's text, and its end has been noted. -/
def StE (w : World) (B sb rb : Nat) (rv : Value) (tk : Option Nat) (r : Bs) (col : Nat) (x : Bs) : Prop :=
  ∃ N, SM w B sb rb rv tk N ∧ Rel N false r col (some x) ∧ N.ch = headCh r ∧ N.te = (N.p : Int) - (N.lc : Int)

theorem StE.st {w : World} {B sb rb : Nat} {rv : Value} {tk : Option Nat} {r : Bs} {col : Nat} {x : Bs} (h : StE w B sb rb rv tk r col x) : St w B sb rb rv tk (headCh r) false r col (some x) := by
  obtain ⟨N, h1, h2, h3, _⟩ := h; exact ⟨N, h1, h2, h3⟩
theorem StE.only {w w' : World} {B sb rb : Nat} {rv : Value} {tk : Option Nat} {r : Bs} {col : Nat} {x : Bs} {D : Nat → Prop} (h : StE w B sb rb rv tk r col x) (ho : Only D w w') (hd : ∀ k, (k = sb ∨ k = rb ∨ tk = some k) → ¬ D k) : StE w' B sb rb rv tk r col x := by
  obtain ⟨N, h1, h2⟩ := h
  exact ⟨N, h1.only ho (hd _ (.inl rfl)) (hd _ (.inr (.inl rfl))) (fun k e => hd k (.inr (.inr e))), h2⟩

def TextQ (B sb rb : Nat) (rv : Value) (tk : Option Nat) (r : Bs) (col : Nat) (x : Bs) (w : World) (e : Ending) (w' : World) : Prop :=
  e = .returned (.string (mkS x)) ∧ ∃ tk', StE w' B sb rb rv tk' r col x ∧ Mv sb rb w tk w' tk'

/-- Len and String, on the scanner's block. -/
theorem sm_len {B sb rb : Nat} {rv : Value} {tk : Option Nat} {N : Nums} {w : World} (h : SM w B sb rb rv tk N) :
    Calls Tryz.prog 127 #[.pointer (some ⟨sb, 1033, none⟩)] w (fun e w' => e = .returned (.int .i64 N.y.length) ∧ ∃ m, w' = w.drewN m) := by
  obtain ⟨S, hS⟩ := h
  obtain ⟨e34, ⟨m, e35⟩, hlen, h⟩ := hS.tb
  have h34 := hS.blk.cell_eq (i := 1034) (by decide) e34
  rcases h with ⟨rfl, e33, hy⟩ | ⟨k, rfl, e33, _, F, hF, hx⟩
  · rw [hy]
    exact len_any sb w none 0 0 (by omega) (hS.blk.cell_eq (i := 1033) (by decide) e33) h34
  · exact len_any sb w _ N.y.length 64 hlen (hS.blk.cell_eq (i := 1033) (by decide) e33) h34
theorem sm_string {B sb rb : Nat} {rv : Value} {tk : Option Nat} {N : Nums} {w : World} (h : SM w B sb rb rv tk N) :
    Calls Tryz.prog 129 #[.pointer (some ⟨sb, 1033, none⟩)] w (fun e w' => e = .returned (.string (mkS N.y)) ∧ ∃ m, w' = w.drewN m) := by
  obtain ⟨S, hS⟩ := h
  exact string_any sb B tk S w hS.blk N.y hS.tb

theorem seg_convert {B sb rb : Nat} {rv : Value} {tk : Option Nat} {N : Nums} {w : World} (h : SM w B sb rb rv tk N) (t n c : Nat) (ht : t + n ≤ 1025) :
    (convert 84 9 (.slice (some ⟨sb, 1 + t, none⟩) n c)).run Tryz.prog w = .ok (.string (mkS (seg N.buf t n))) w := by
  have hl : (seg N.buf t n).length = n := seg_len _ _ _
  have := run_convert_cells (P := Tryz.prog) w 84 9 5 Tryz.underlying84 Tryz.underlying5 Tryz.underlying9 (some ⟨sb, 1 + t, none⟩) c (seg N.buf t n) (fun h => by cases h) (fun a ha j v hj => by
    obtain rfl := Option.some.inj ha
    have hjl := (List.getElem?_eq_some_iff.1 hj).1
    rw [List.length_map, hl] at hjl
    have hc := h.cbuf (i := t + j) (by omega)
    rw [Addr.add_lit, Nat.add_assoc, hc]
    rw [List.getElem?_eq_getElem (by rw [List.length_map, hl]; exact hjl), List.getElem_map, seg_get] at hj
    exact hj)
  rw [hl] at this
  exact this

set_option maxRecDepth 100000 in
set_option maxHeartbeats 2000000 in
theorem tokenText_any {w : World} {B sb rb : Nat} {rv : Value} {tk : Option Nat} {r : Bs} {col : Nat} {x : Bs} (h : StE w B sb rb rv tk r col x) (hx : x.length ≤ 64) :
    Calls Tryz.prog 101 #[.pointer (some ⟨sb, 0, none⟩)] w (TextQ B sb rb rv tk r col x w) := by
  obtain ⟨N, hs, hr, hch, hte⟩ := h
  obtain ⟨_, t, htp, ht, hlc, hxs⟩ := hr.tok
  have hple := hr.ple
  have hfle := hr.fle
  have h36 := hs.c1036
  have h37 := hs.c1037
  have hte' : N.te = ((N.p - N.lc : Nat) : Int) := by omega
  rw [htp] at h36
  rw [hte'] at h37
  have hlen : N.y.length + (N.p - N.lc - t) = x.length := by rw [← hxs, List.length_append, seg_len]
  have hst : StE w B sb rb rv tk r col x := ⟨N, hs, hr, hch, hte⟩
  obtain ⟨T, hT⟩ : ∃ T, T = N.p - N.lc := ⟨_, rfl⟩
  rw [← hT] at h37 hlen ht hxs hte'
  have hTb : T ≤ 1024 := by omega
  have htb : t ≤ 1024 := by omega
  have f36 := hs.frozen 1036
  have hst' := fun (w' : World) (tk' : Option Nat) (hm : SM w' B sb rb rv tk' { N with y := N.y ++ seg N.buf t (T - t) }) =>
    show StE (w'.setCell ⟨sb, 1036, none⟩ (.int .i64 (T : Nat))) B sb rb rv tk' r col x from
      ⟨_, hm.set1036 (T : Nat), { ple := hr.ple, fle := hr.fle, sent := hr.sent, lll := hr.lll, asc := hr.asc, clen := hr.clen, col1 := hr.col1, lc := hr.lc, unread := hr.unread, atChar := hr.atChar, cols := by (have := hr.cols; cases r <;> exact this), tok := ⟨rfl, T, rfl, by show T ≤ N.p - N.lc; omega, hlc, by
        show (N.y ++ seg N.buf t (T - t)) ++ seg N.buf T (N.p - N.lc - T) = x
        rw [hxs, ← hT, Nat.sub_self, seg_zero, List.append_nil]⟩ }, hch, by show N.te = (N.p : Int) - (N.lc : Int); rw [hte']; omega⟩
  have Hs := Lib.hid hs
  have Hst := Lib.hid hst
  have Hst' := Lib.hid hst'
  have Hxs := Lib.hid hxs
  have Hlen := Lib.hid hlen
  have Htp := Lib.hid htp
  have Hte := Lib.hid hte'
  have hy63 : N.y.length + (T - t) ≤ 64 := by omega
  clear hs hst hst' hxs hlen hr hch hte htp hte' hlc hple hfle hT
  have n1 : ¬ (t : Int) < 0 := by omega
  have n2 : ¬ (T : Int) < (t : Int) := by omega
  by_cases hy : N.y = []
  · have hl0 : N.y.length = 0 := by rw [hy]; rfl
    have hlenc := fun w' (h : SM w' B sb rb rv tk N) => sm_len h
    simp only [hl0] at hlenc
    have Hl := Lib.hid hlenc
    have hcv := fun m => seg_convert (Hs.out.drewN m) t (T - t) (1025 - t) (by omega)
    rw [hy, List.nil_append] at Hxs
    rw [Hxs.out] at hcv
    have Hcv := Lib.hid hcv
    clear hlenc hcv hl0 hy hy63
    go_enter Tryz.func101, Tryz.ntmps101
    go_wp2
    go_quiet (fail)
    go_wp2_with fail
    refine (Hl.out _ (Hs.out.drewN _)).mono ?_
    rintro e w1 ⟨rfl, m, rfl⟩
    rw [World.drewN_drewN]
    go_wp2
    have hcv := Hcv.out
    have l1 : (t : Int) ≤ (T : Int) := by omega
    have l2 : (T : Int) ≤ 1025 := by omega
    go_quiet (fail)
    go_wp2
    go_ret
    exact ⟨rfl, tk, Hst.out.only (((Only.refl (fun _ => False) w).drewN _).drewN _) (fun _ _ h => h), ((Mv.refl _ _ _ _).drewN _).drewN _⟩
  · have hl0 : N.y.length ≠ 0 := fun e => hy (List.eq_nil_of_length_eq_zero e)
    have hlenc := fun w' (h : SM w' B sb rb rv tk N) => sm_len h
    obtain ⟨L, hL⟩ : ∃ L, L = N.y.length := ⟨_, rfl⟩
    simp only [← hL] at hlenc hl0
    have Hl := Lib.hid hlenc
    have hw := fun m => sm_write (Hs.out.drewN m) t (T - t) (1025 - t) (by omega) hy63
    have Hw := Lib.hid hw
    have hLb : L ≤ 100 := by omega
    have hlb : (L : Int) ≠ 0 := by omega
    have hy63 := Lib.hid hy63
    clear hlenc hw hL hy
    go_enter Tryz.func101, Tryz.ntmps101
    go_wp2
    go_quiet (fail)
    go_wp2_with fail
    refine (Hl.out _ (Hs.out.drewN _)).mono ?_
    rintro e w1 ⟨rfl, m, rfl⟩
    rw [World.drewN_drewN]
    go_wp2
    have l1 : (t : Int) ≤ (T : Int) := by omega
    have l2 : (T : Int) ≤ 1025 := by omega
    have hsn := Hs.out.drewN (nq + m)
    have hmn := (Mv.refl sb rb w tk).drewN (nq + m)
    generalize w.drewN (nq + m) = wn at hsn hmn ⊢
    have hk36 := hsn.c1036
    have hk37 := hsn.c1037
    have hf36 := hsn.frozen 1036
    rw [Htp.out] at hk36
    rw [Hte.out] at hk37
    have Hsn := Lib.hid hsn
    have Hmn := Lib.hid hmn
    clear hsn hmn h36 h37 f36 Hs Hst Hw
    go_still_tail 15, (by kernel_rfl)
    change wpList _ _ _ _ _ (World.drew _)
    have hD := Hsn.out.drewN 1
    have hmD := Hmn.out.drewN 1
    have hwD : wn.drew = wn.drewN 1 := rfl
    rw [hwD]
    generalize wn.drewN 1 = wd at hD hmD ⊢
    have HD := Lib.hid hD
    have HmD := Lib.hid hmD
    clear Hsn Hmn hwD hD hmD hk36 hk37 hf36
    go_wp2_with fail
    refine (sm_write HD.out t (T - t) (1025 - t) (by omega) hy63.out).mono ?_
    rintro e w1 ⟨rfl, tk2, hw2, htk2, ho2⟩
    have k36 := hw2.c1036
    have k37 := hw2.c1037
    have f36 := hw2.frozen 1036
    have hk37 : w1.cell? ⟨sb, 1037, none⟩ = some (.int .i64 (T : Nat)) := by rw [← Hte.out]; exact k37
    clear k37
    have hm2 : Mv sb rb w tk w1 tk2 := HmD.out.trans ⟨htk2.imp id (fun h => ⟨h.1, h.2⟩), ho2.mono (fun k _ h => h.elim .inl (fun e => .inr (.inr e)))⟩
    have h3 := Hst'.out w1 tk2 hw2
    have hm3 := hm2.setCell 1036 (.int .i64 (T : Nat))
    have H3 := Lib.hid h3
    have Hm3 := Lib.hid hm3
    have HW := Lib.hid (hw2.set1036 (T : Nat))
    rw [Hxs.out] at HW
    clear hw2 htk2 ho2 hm2 h3 hm3
    go_wp2_with fail
    refine (sm_string HW.out).mono ?_
    rintro e w2 ⟨rfl, m2, rfl⟩
    go_wp2
    go_ret
    exact ⟨rfl, tk2, H3.out.only ((Only.refl (fun _ => False) _).drewN _) (fun _ _ h => h), Hm3.out.drewN _⟩
def PosQ (col : Nat) (w : World) (e : Ending) (w' : World) : Prop := ∃ (nm : ByteArray) (o l : Int), e = .returned (.agg #[.string nm, .int .i64 o, .int .i64 l, .int .i64 col]) ∧ Below w.heap.size w w'

set_option maxRecDepth 100000 in
set_option maxHeartbeats 1000000 in
theorem pos_cells (w : World) (sb : Nat) (hlt : sb < w.heap.size) (nm : ByteArray) (off line : Int) (p lc cc ll col : Nat) (h44 : w.cell? ⟨sb, 1044, none⟩ = some (.string nm)) (h28 : w.cell? ⟨sb, 1028, none⟩ = some (.int .i64 off)) (h26 : w.cell? ⟨sb, 1026, none⟩ = some (.int .i64 p))
    (h32 : w.cell? ⟨sb, 1032, none⟩ = some (.int .i64 lc)) (h29 : w.cell? ⟨sb, 1029, none⟩ = some (.int .i64 line)) (h30 : w.cell? ⟨sb, 1030, none⟩ = some (.int .i64 cc)) (h31 : w.cell? ⟨sb, 1031, none⟩ = some (.int .i64 ll))
    (hc : (0 < cc ∧ col = cc) ∨ (cc = 0 ∧ 0 < ll ∧ col = ll)) :
    Calls Tryz.prog 226 #[.pointer (some ⟨sb, 0, none⟩)] w (PosQ col w) := by
  have Hc := Lib.hid hc
  have k44 := cell_alloc h44
  have k28 := cell_alloc h28
  clear hc
  go_enter Tryz.func226, Tryz.ntmps226
  go_wp2
  have hB := Blk.new w #[.string nm, .int .i64 0, .int .i64 0, .int .i64 0] 94 (n := 4) (S := fun i => if i = 0 then .string nm else .int .i64 0) rfl (fun i hi => by
    obtain rfl | rfl | rfl | rfl : i = 0 ∨ i = 1 ∨ i = 2 ∨ i = 3 := by omega
    all_goals rfl)
  have hbel : Below w.heap.size w (w.alloc (.cells #[.string nm, .int .i64 0, .int .i64 0, .int .i64 0] 94)) := (Below.refl _ _).alloc (Nat.le_refl _) _
  have k28 := cell_alloc h28 (.cells #[.string nm, .int .i64 0, .int .i64 0, .int .i64 0] 94)
  have k26 := cell_alloc h26 (.cells #[.string nm, .int .i64 0, .int .i64 0, .int .i64 0] 94)
  have k32 := cell_alloc h32 (.cells #[.string nm, .int .i64 0, .int .i64 0, .int .i64 0] 94)
  have k29 := cell_alloc h29 (.cells #[.string nm, .int .i64 0, .int .i64 0, .int .i64 0] 94)
  have k30 := cell_alloc h30 (.cells #[.string nm, .int .i64 0, .int .i64 0, .int .i64 0] 94)
  have k31 := cell_alloc h31 (.cells #[.string nm, .int .i64 0, .int .i64 0, .int .i64 0] 94)
  clear h44 h28 h26 h32 h29 h30 h31
  obtain ⟨nb, hnb⟩ : ∃ nb, nb = w.heap.size := ⟨_, rfl⟩
  rw [← hnb] at hlt hB hbel ⊢
  have Hnb := Lib.hid hnb
  clear hnb
  generalize w.alloc (.cells #[.string nm, .int .i64 0, .int .i64 0, .int .i64 0] 94) = wn at hB hbel k28 k26 k32 k29 k30 k31 ⊢
  have b0 := hB.cell_eq (i := 0) (by decide) rfl
  have b1 := hB.cell_eq (i := 1) (by decide) rfl
  have b2 := hB.cell_eq (i := 2) (by decide) rfl
  have b3 := hB.cell_eq (i := 3) (by decide) rfl
  have f1 := hB.frozen 1
  have f2 := hB.frozen 2
  have f3 := hB.frozen 3
  simp only [if_true] at b0
  have hne : ¬ nb = sb := by omega
  have hne' : ¬ sb = nb := by omega
  have Hbel := Lib.hid hbel
  clear hB hbel
  go_still_tail 15, (by kernel_rfl)
  change wpList _ _ _ _ _ (World.drew _)
  have hfin : ∀ o l c : Int, Below nb w ((((wn.setCell ⟨nb, 1, none⟩ (.int .i64 o)).drew).setCell ⟨nb, 2, none⟩ (.int .i64 l)).setCell ⟨nb, 3, none⟩ (.int .i64 c)) := fun o l c => (((Hbel.out.setCell (by simp) _).drew).setCell (by simp) _).setCell (by simp) _
  rcases Hc.out with ⟨c1, rfl⟩ | ⟨c1, c2, rfl⟩
  · go_wp2
    refine bodyPost_ret (v := .agg #[.string nm, .int .i64 (wrap64 (wrap64 (off + p) - lc)), .int .i64 line, .int .i64 col]) (by simp [results, Tryz.results226, go_sem, b0, b1, b2, b3]) rfl ⟨nm, _, _, rfl, ?_⟩
    rw [← Hnb.out]
    exact hfin _ _ _
  · go_wp2
    refine bodyPost_ret (v := .agg #[.string nm, .int .i64 (wrap64 (wrap64 (off + p) - lc)), .int .i64 (wrap64 (line - 1)), .int .i64 col]) (by simp [results, Tryz.results226, go_sem, b0, b1, b2, b3]) rfl ⟨nm, _, _, rfl, ?_⟩
    rw [← Hnb.out]
    exact hfin _ _ _

theorem pos_col {w : World} {B sb rb : Nat} {rv : Value} {tk : Option Nat} {ch : Int} {c : UInt8} {r : Bs} {col : Nat} {x : Option Bs} (h : St w B sb rb rv tk ch false (c :: r) col x) :
    Calls Tryz.prog 226 #[.pointer (some ⟨sb, 0, none⟩)] w (PosQ col w) := by
  have hlt := h.lt
  obtain ⟨N, hs, hr, _⟩ := h
  refine pos_cells w sb hlt _ _ _ N.p N.lc N.cc N.ll col hs.c1044 hs.c1028 hs.c1026 hs.c1032 hs.c1029 hs.c1030 hs.c1031 ?_
  have hc := hr.cols
  have h1 := hr.col1
  simp only [Bool.false_eq_true, if_false] at hc
  split at hc
  · exact .inr ⟨hc.1, by omega, hc.2.symm⟩
  · exact .inl ⟨by omega, hc.symm⟩
end Go.Proofs.YtpoimmpdncickaaGreatDoor
