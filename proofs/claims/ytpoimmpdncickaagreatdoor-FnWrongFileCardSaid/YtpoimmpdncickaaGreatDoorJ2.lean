/- The scanner takes one character more: next, where the buffer holds it. -/
import Derived.Test.YtpoimmpdncickaaGreatDoorJ1
/- What the numbers in the scanner's block say of the text that is left: plain lists. And what a write to its token buffer, a read into its source buffer do to the block. -/
namespace Go.Proofs.YtpoimmpdncickaaGreatDoor
open Go Go.RowKit Lex
set_option linter.unusedVariables false
set_option linter.unusedSimpArgs false

/-- n bytes of the buffer from a place on. -/
def seg (buf : Nat → UInt8) (a n : Nat) : Bs := (List.range n).map fun i => buf (a + i)
theorem seg_cons (buf : Nat → UInt8) (a n : Nat) : seg buf a (n + 1) = buf a :: seg buf (a + 1) n := by
  unfold seg
  rw [List.range_succ_eq_map, List.map_cons, List.map_map]
  refine congr (congrArg _ (by simp)) ?_
  apply List.map_congr_left
  intro i _
  simp only [Function.comp]
  congr 1; omega
theorem seg_snoc (buf : Nat → UInt8) (a n : Nat) : seg buf a (n + 1) = seg buf a n ++ [buf (a + n)] := by
  unfold seg
  rw [List.range_succ, List.map_append]; rfl
theorem seg_zero (buf : Nat → UInt8) (a : Nat) : seg buf a 0 = [] := rfl
theorem seg_len (buf : Nat → UInt8) (a n : Nat) : (seg buf a n).length = n := by simp [seg]
theorem seg_get (buf : Nat → UInt8) (a n : Nat) {i : Nat} (h : i < (seg buf a n).length) : (seg buf a n)[i] = buf (a + i) := by simp [seg]
theorem seg_congr {buf buf' : Nat → UInt8} {a n : Nat} (h : ∀ i, a ≤ i → i < a + n → buf i = buf' i) : seg buf a n = seg buf' a n := by
  unfold seg
  apply List.map_congr_left
  intro i hi
  exact h _ (by omega) (by have := List.mem_range.1 hi; omega)
theorem seg_of (x : Bs) {buf : Nat → UInt8} {a : Nat} (h : ∀ i (hi : i < x.length), buf (a + i) = x[i]) : seg buf a x.length = x := by
  apply List.ext_getElem
  · simp [seg]
  · intro i h1 h2; rw [seg_get]; exact h i h2

/-- What has not been taken yet, behind the character that is looked at (fr: none has been read). -/
def tailOf (fr : Bool) (r : Bs) : Bs := if fr then r else r.tail
/-- The character that is looked at: -1 at the end. -/
def headCh (r : Bs) : Int := match r with | [] => -1 | c :: _ => c.toNat
def nextCol (fr : Bool) (r : Bs) (col : Nat) : Nat := if fr then col else adv col (r.take 1)
def nextTok (fr : Bool) (r : Bs) (x : Option Bs) : Option Bs := if fr then x else x.map (· ++ r.take 1)

structure RelC (N : Nums) : Prop where
  ple : N.p ≤ N.fin
  fle : N.fin ≤ 1024
  sent : N.buf N.fin = 128
  lll : N.ll < 20000000

/-- BETWEEN TWO CALLS OF next: r is what is left from the character on that is looked at, col that character's column; x is the token's text so far (none: no token is being collected). -/
structure Rel (N : Nums) (fr : Bool) (r : Bs) (col : Nat) (x : Option Bs) : Prop extends RelC N where
  asc : ascii r
  clen : col + r.length < 10000000
  col1 : 1 ≤ col
  lc : N.lc = if fr = true ∨ r = [] then 0 else 1
  unread : seg N.buf N.p (N.fin - N.p) ++ N.rest = tailOf fr r
  atChar : fr = false → ∀ c t, r = c :: t → 1 ≤ N.p ∧ N.buf (N.p - 1) = c
  cols : if fr then N.cc = 0 ∧ col = 1 else match r with
    | [] => N.cc < 20000000
    | c :: _ => if c = 10 then N.cc = 0 ∧ N.ll = col else N.cc = col
  tok : match x with
    | none => N.tp = -1
    | some x => fr = false ∧ ∃ t : Nat, N.tp = t ∧ t ≤ N.p - N.lc ∧ N.lc ≤ N.p ∧ N.y ++ seg N.buf t (N.p - N.lc - t) = x

/-- WITHIN next: r is what is to come, col its first character's column. -/
structure RelP (N : Nums) (r : Bs) (col : Nat) (x : Option Bs) : Prop extends RelC N where
  asc : ascii r
  clen : col + r.length < 10000000
  unread : seg N.buf N.p (N.fin - N.p) ++ N.rest = r
  cc : N.cc + 1 = col
  tok : match x with
    | none => N.tp = -1
    | some x => ∃ t : Nat, N.tp = t ∧ t ≤ N.p ∧ N.y ++ seg N.buf t (N.p - t) = x

theorem ascii_tail {r : Bs} (h : ascii r) (fr : Bool) : ascii (tailOf fr r) := by
  intro c hc
  refine h c ?_
  unfold tailOf at hc
  split at hc
  · exact hc
  · exact List.mem_of_mem_tail hc

theorem rel_pre {N : Nums} {fr : Bool} {r : Bs} {col : Nat} {x : Option Bs} (h : Rel N fr r col x) (hr : fr = true ∨ r ≠ []) : RelP N (tailOf fr r) (nextCol fr r col) (nextTok fr r x) := by
  refine { h.toRelC with asc := ascii_tail h.asc fr, clen := ?_, unread := h.unread, cc := ?_, tok := ?_ }
  · cases fr with
    | true => have := h.clen; simp [tailOf, nextCol]; omega
    | false =>
      have h1 := h.clen; have h2 := h.col1
      cases r with
      | nil => simp at hr
      | cons c t => simp only [tailOf, nextCol, Bool.false_eq_true, if_false, List.tail_cons, List.take_succ_cons, List.take_zero, adv] at *; simp at h1; split <;> omega
  · have hc := h.cols
    cases fr with
    | true => simp at hc; simp [nextCol]; omega
    | false =>
      cases r with
      | nil => simp at hr
      | cons c t =>
        simp only [Bool.false_eq_true, if_false] at hc
        simp only [nextCol, Bool.false_eq_true, if_false, List.take_succ_cons, List.take_zero, adv]
        split at hc
        · rename_i e; rw [if_pos e, hc.1]
        · rename_i e; rw [if_neg e, hc]
  · have ht := h.tok
    cases x with
    | none => cases fr <;> exact ht
    | some x =>
      obtain ⟨hf, t, ht1, ht2, ht4, ht3⟩ := ht
      subst hf
      cases r with
      | nil => simp at hr
      | cons c t' =>
        obtain ⟨hp, hb⟩ := h.atChar rfl c t' rfl
        have hlc := h.lc
        simp at hlc
        rw [hlc] at ht2 ht3
        refine ⟨t, ht1, by omega, ?_⟩
        have : N.p - t = (N.p - 1 - t) + 1 := by omega
        rw [this, seg_snoc, ← List.append_assoc, ht3]
        have : t + (N.p - 1 - t) = N.p - 1 := by omega
        rw [this, hb]; rfl

/-- The next character is there, and no end of a line. -/
theorem adv_plain {N : Nums} {c : UInt8} {t : Bs} {col : Nat} {x : Option Bs} (h : RelP N (c :: t) col x) (hp : N.p < N.fin) (hc : c ≠ 10) : Rel { N with p := N.p + 1, lc := 1, cc := N.cc + 1 } false (c :: t) col x := by
  have hu := h.unread
  obtain ⟨k, hk⟩ : ∃ k, N.fin - N.p = k + 1 := ⟨N.fin - N.p - 1, by omega⟩
  rw [hk, seg_cons] at hu
  simp only [List.cons_append, List.cons.injEq] at hu
  have h1 := h.clen; have h2 := h.cc
  refine { ple := by show N.p + 1 ≤ N.fin; omega, fle := h.fle, sent := h.sent, lll := h.lll, asc := h.asc, clen := ?_, col1 := by omega, lc := by simp, unread := ?_, atChar := ?_, cols := ?_, tok := ?_ }
  · simp at h1 ⊢; omega
  · show seg N.buf (N.p + 1) (N.fin - (N.p + 1)) ++ N.rest = t
    rw [← hu.2]; congr 2; omega
  · intro _ c' t' e
    simp only [List.cons.injEq] at e
    exact ⟨by simp, by rw [← e.1, ← hu.1]; simp⟩
  · simp [hc]; exact h2
  · have ht := h.tok
    cases x with
    | none => exact ht
    | some x =>
      obtain ⟨t', h1, h2, h3⟩ := ht
      exact ⟨rfl, t', h1, by simpa using h2, by simp, by simpa using h3⟩

theorem adv_nl {N : Nums} {t : Bs} {col : Nat} {x : Option Bs} (h : RelP N (10 :: t) col x) (hp : N.p < N.fin) (ln : Int) : Rel { N with p := N.p + 1, lc := 1, cc := 0, ll := N.cc + 1, line := ln } false (10 :: t) col x := by
  have hu := h.unread
  obtain ⟨k, hk⟩ : ∃ k, N.fin - N.p = k + 1 := ⟨N.fin - N.p - 1, by omega⟩
  rw [hk, seg_cons] at hu
  simp only [List.cons_append, List.cons.injEq] at hu
  have h1 := h.clen; have h2 := h.cc
  refine { ple := by show N.p + 1 ≤ N.fin; omega, fle := h.fle, sent := h.sent, lll := by show N.cc + 1 < _; simp at h1; omega, asc := h.asc, clen := ?_, col1 := by omega, lc := by simp, unread := ?_, atChar := ?_, cols := ?_, tok := ?_ }
  · simp at h1 ⊢; omega
  · show seg N.buf (N.p + 1) (N.fin - (N.p + 1)) ++ N.rest = t
    rw [← hu.2]; congr 2; omega
  · intro _ c' t' e
    simp only [List.cons.injEq] at e
    exact ⟨by simp, by rw [← e.1, ← hu.1]; simp⟩
  · simp; exact h2
  · have ht := h.tok
    cases x with
    | none => exact ht
    | some x =>
      obtain ⟨t', h1, h2, h3⟩ := ht
      exact ⟨rfl, t', h1, by simpa using h2, by simp, by simpa using h3⟩

theorem adv_eof {N : Nums} {col : Nat} {x : Option Bs} (h : RelP N [] col x) (hf : N.fin = 0) (n : Nat) (hn : n ≤ N.cc + 1) : Rel { N with p := 0, lc := 0, cc := n } false [] col x := by
  have h1 := h.clen; have h2 := h.cc
  have hp : N.p = 0 := by have := h.ple; omega
  have hu := h.unread
  rw [hf, Nat.zero_sub, seg_zero] at hu
  refine { ple := by simp, fle := h.fle, sent := h.sent, lll := h.lll, asc := h.asc, clen := ?_, col1 := by omega, lc := by simp, unread := ?_, atChar := ?_, cols := ?_, tok := ?_ }
  · simp at h1 ⊢; omega
  · simp [hf, seg_zero, tailOf]; simpa using hu
  · intro _ c t e; cases e
  · show n < 20000000; simp at h1; omega
  · have ht := h.tok
    cases x with
    | none => exact ht
    | some x =>
      obtain ⟨t', h1, h2, h3⟩ := ht
      rw [hp] at h2 h3
      exact ⟨rfl, t', h1, by simpa using h2, by simp, by simpa using h3⟩

/-- Bytes laid over the buffer from a place on. -/
def over (buf : Nat → UInt8) (i : Nat) (x : Bs) : Nat → UInt8 := fun j => if i ≤ j ∧ j < i + x.length then x.getD (j - i) 0 else buf j
def setb (buf : Nat → UInt8) (e : Nat) (c : UInt8) : Nat → UInt8 := fun j => if j = e then c else buf j

section
variable {w w' : World} {B sb rb : Nat} {rv : Value} {tk : Option Nat} {N : Nums}

/-- A write to the token buffer. -/
theorem SMS.wrote {S : Nat → Value} {y' : Bs} (h : SMS w B sb rb rv tk N S) (hw : Wrote sb B S y' tk w w') :
    ∃ tk', SM w' B sb rb rv tk' { N with y := y' } ∧ (tk' = tk ∨ tk = none ∧ ∃ k, tk' = some k ∧ w.heap.size ≤ k) ∧ Only (fun k => k = sb ∨ tk = some k) w w' := by
  obtain ⟨S', tk', hb, hs, ht, h1, ho⟩ := hw
  have hSM : SM w B sb rb rv tk N := ⟨S, h⟩
  refine ⟨tk', ⟨S', { blk := hb, low := h.low, rdr := h.rdr.only ho ?_, tb := ht, s0 := (hs 0 (by omega)).trans h.s0, sbuf := fun i hi => (hs _ (by omega)).trans (h.sbuf i hi), s1026 := (hs 1026 (by omega)).trans h.s1026, s1027 := (hs 1027 (by omega)).trans h.s1027, s1028 := (hs 1028 (by omega)).trans h.s1028, s1029 := (hs 1029 (by omega)).trans h.s1029, s1030 := (hs 1030 (by omega)).trans h.s1030, s1031 := (hs 1031 (by omega)).trans h.s1031, s1032 := (hs 1032 (by omega)).trans h.s1032, s1036 := (hs 1036 (by omega)).trans h.s1036, s1037 := (hs 1037 (by omega)).trans h.s1037, s1038 := (hs 1038 (by omega)).trans h.s1038, s1040 := (hs 1040 (by omega)).trans h.s1040, s1045 := (hs 1045 (by omega)).trans h.s1045, s1046 := (hs 1046 (by omega)).trans h.s1046, s1047 := (hs 1047 (by omega)).trans h.s1047, s1039 := (hs 1039 (by omega)).trans h.s1039, s1041 := (hs 1041 (by omega)).trans h.s1041, s1042 := (hs 1042 (by omega)).trans h.s1042, s1043 := (hs 1043 (by omega)).trans h.s1043, s1044 := (hs 1044 (by omega)).trans h.s1044 }⟩, h1, ho⟩
  rintro (e | e)
  · exact hSM.ne_rb e.symm
  · exact hSM.tk_rb _ e rfl

/-- A read into the source buffer. -/
theorem SM.read {i n : Nat} (h : SM w B sb rb rv tk N) (hr : Rdr w' B rv rb (N.rest.drop (Nat.min N.rest.length n))) (hb : ∀ T m S, Blk w sb T m S → Blk w' sb T m (updL S (1 + i) (cellsOf (N.rest.take (Nat.min N.rest.length n)))))
    (ho : Only (fun k => k = sb ∨ k = rb) w w') (hi : i + n ≤ 1024) : SM w' B sb rb rv tk { N with buf := over N.buf i (N.rest.take (Nat.min N.rest.length n)), rest := N.rest.drop (Nat.min N.rest.length n) } := by
  have hne := h.tk_ne
  have hrb := h.tk_rb
  obtain ⟨S, h⟩ := h
  have hm : Nat.min N.rest.length n ≤ n := Nat.min_le_right _ _
  have hl : (cellsOf (N.rest.take (Nat.min N.rest.length n))).length ≤ n := by rw [length_cells, List.length_take]; omega
  have hout : ∀ k, 1026 ≤ k → updL S (1 + i) (cellsOf (N.rest.take (Nat.min N.rest.length n))) k = S k := fun k hk => updL_out _ _ (by omega)
  refine ⟨_, { blk := hb _ _ _ h.blk, low := h.low, rdr := hr, tb := (h.tb.only ho ?_).congr (fun k h1 _ => hout k (by omega)), s0 := (updL_out _ _ (by omega)).trans h.s0, sbuf := ?_, s1026 := (hout 1026 (by omega)).trans h.s1026, s1027 := (hout 1027 (by omega)).trans h.s1027, s1028 := (hout 1028 (by omega)).trans h.s1028, s1029 := (hout 1029 (by omega)).trans h.s1029, s1030 := (hout 1030 (by omega)).trans h.s1030, s1031 := (hout 1031 (by omega)).trans h.s1031, s1032 := (hout 1032 (by omega)).trans h.s1032, s1036 := (hout 1036 (by omega)).trans h.s1036, s1037 := (hout 1037 (by omega)).trans h.s1037, s1038 := (hout 1038 (by omega)).trans h.s1038, s1040 := (hout 1040 (by omega)).trans h.s1040, s1045 := (hout 1045 (by omega)).trans h.s1045, s1046 := (hout 1046 (by omega)).trans h.s1046, s1047 := (hout 1047 (by omega)).trans h.s1047, s1039 := (hout 1039 (by omega)).trans h.s1039, s1041 := (hout 1041 (by omega)).trans h.s1041, s1042 := (hout 1042 (by omega)).trans h.s1042, s1043 := (hout 1043 (by omega)).trans h.s1043, s1044 := (hout 1044 (by omega)).trans h.s1044 }⟩
  · rintro k hk (e | e)
    · exact hne k hk e
    · exact hrb k hk e
  · intro j hj
    show updL S (1 + i) (cellsOf (N.rest.take (Nat.min N.rest.length n))) (1 + j) = Value.int .u8 ((over N.buf i (N.rest.take (Nat.min N.rest.length n)) j).toNat : Nat)
    unfold updL over
    rw [length_cells]
    by_cases hc : i ≤ j ∧ j < i + (N.rest.take (Nat.min N.rest.length n)).length
    · rw [if_pos (by omega), if_pos hc]
      obtain ⟨d, rfl⟩ : ∃ d, j = i + d := ⟨j - i, by omega⟩
      have e1 : 1 + (i + d) - (1 + i) = d := by omega
      have e2 : i + d - i = d := by omega
      have hd : d < (N.rest.take (Nat.min N.rest.length n)).length := by omega
      rw [e1, e2, List.getD, List.getD, cells_get _ hd, List.getElem?_eq_getElem hd]; rfl
    · rw [if_neg (by omega), if_neg hc]; exact h.sbuf j hj

/-- A byte set in the source buffer. -/
theorem SM.setbuf (h : SM w B sb rb rv tk N) {e : Nat} (he : e ≤ 1024) (c : UInt8) : SM (w.setCell ⟨sb, 1 + e, none⟩ (.int .u8 c.toNat)) B sb rb rv tk { N with buf := setb N.buf e c } := by
  have hne := h.ne_rb
  have ht := h.tk_ne
  obtain ⟨S, h⟩ := h
  have ho := (Only.refl (fun k => k = sb) w).setCell (p := ⟨sb, 1 + e, none⟩) (fun _ => rfl) (.int .u8 c.toNat)
  have hout : ∀ k, 1026 ≤ k → upd S (1 + e) (.int .u8 c.toNat) k = S k := fun k hk => upd_other _ _ (by omega)
  refine ⟨_, { blk := h.blk.set (1 + e) _, low := h.low, rdr := h.rdr.only ho (fun e => hne e.symm), tb := (h.tb.only ho (fun k hk e => ht k hk e)).congr (fun i _ _ => hout i (by omega)), s0 := (upd_other _ _ (by omega)).trans h.s0, sbuf := ?_, s1026 := (hout 1026 (by omega)).trans h.s1026, s1027 := (hout 1027 (by omega)).trans h.s1027, s1028 := (hout 1028 (by omega)).trans h.s1028, s1029 := (hout 1029 (by omega)).trans h.s1029, s1030 := (hout 1030 (by omega)).trans h.s1030, s1031 := (hout 1031 (by omega)).trans h.s1031, s1032 := (hout 1032 (by omega)).trans h.s1032, s1036 := (hout 1036 (by omega)).trans h.s1036, s1037 := (hout 1037 (by omega)).trans h.s1037, s1038 := (hout 1038 (by omega)).trans h.s1038, s1040 := (hout 1040 (by omega)).trans h.s1040, s1045 := (hout 1045 (by omega)).trans h.s1045, s1046 := (hout 1046 (by omega)).trans h.s1046, s1047 := (hout 1047 (by omega)).trans h.s1047, s1039 := (hout 1039 (by omega)).trans h.s1039, s1041 := (hout 1041 (by omega)).trans h.s1041, s1042 := (hout 1042 (by omega)).trans h.s1042, s1043 := (hout 1043 (by omega)).trans h.s1043, s1044 := (hout 1044 (by omega)).trans h.s1044 }⟩
  intro i hi
  show upd S (1 + e) (.int .u8 c.toNat) (1 + i) = Value.int .u8 ((setb N.buf e c i).toNat : Nat)
  unfold upd setb
  by_cases hc : i = e
  · subst hc; simp
  · rw [if_neg (by omega), if_neg hc]; exact h.sbuf i hi

/-- The bytes copied onto themselves. -/
theorem SM.same (h : SM w B sb rb rv tk N) {n : Nat} (hn : n ≤ 1024) : SM (w.setCells sb 1 (cellsOf (seg N.buf 0 n))) B sb rb rv tk N := by
  have hne := h.ne_rb
  have ht := h.tk_ne
  obtain ⟨S, h⟩ := h
  have ho := Only.setCells (D := fun k => k = sb) (fun _ => rfl) (cellsOf (seg N.buf 0 n)) 1 (Only.refl _ w)
  have hl : (cellsOf (seg N.buf 0 n)).length = n := by rw [length_cells, seg_len]
  have hS : ∀ i, i < 1048 → S i = updL S 1 (cellsOf (seg N.buf 0 n)) i := by
    intro i _
    unfold updL
    by_cases hc : 1 ≤ i ∧ i < 1 + n
    · rw [if_pos (by rw [hl]; exact hc)]
      obtain ⟨d, rfl⟩ : ∃ d, i = 1 + d := ⟨i - 1, by omega⟩
      rw [h.sbuf d (by omega), show 1 + d - 1 = d by omega, List.getD, cells_get _ (by rw [seg_len]; omega), seg_get]
      simp
    · rw [if_neg (by rw [hl]; exact hc)]
  exact ⟨S, { h with blk := (Blk.setCells _ _ h.blk).congr hS, rdr := h.rdr.only ho (fun e => hne e.symm), tb := h.tb.only ho (fun k hk e => ht k hk e) }⟩
end

/-- The source buffer has been filled anew. -/
def refilled (N : Nums) (y : Bs) (tp off : Int) : Nums := { N with y := y, tp := tp, off := off, p := 0, fin := Nat.min N.rest.length 1024, buf := setb (over N.buf 0 (N.rest.take (Nat.min N.rest.length 1024))) (Nat.min N.rest.length 1024) 128, rest := N.rest.drop (Nat.min N.rest.length 1024) }

theorem refilled_seg (N : Nums) (y : Bs) (tp off : Int) : seg (refilled N y tp off).buf 0 (Nat.min N.rest.length 1024) = N.rest.take (Nat.min N.rest.length 1024) := by
  have hm : Nat.min N.rest.length 1024 ≤ N.rest.length := Nat.min_le_left _ _
  obtain ⟨k, hk⟩ : ∃ k, k = Nat.min N.rest.length 1024 := ⟨_, rfl⟩
  have hl : (N.rest.take (Nat.min N.rest.length 1024)).length = k := by rw [List.length_take, hk]; omega
  have := seg_of (N.rest.take (Nat.min N.rest.length 1024)) (buf := (refilled N y tp off).buf) (a := 0) (by
    intro i hi
    show setb (over N.buf 0 (N.rest.take (Nat.min N.rest.length 1024))) (Nat.min N.rest.length 1024) 128 (0 + i) = _
    unfold setb over
    rw [if_neg (by omega), if_pos (by omega)]
    simp only [Nat.zero_add, Nat.sub_zero, List.getD, List.getElem?_eq_getElem hi]; rfl)
  rw [hl, hk] at this
  exact this

theorem rel_refill {N : Nums} {r : Bs} {col : Nat} {x : Option Bs} (h : RelP N r col x) (hp : N.p = N.fin) (off : Int) : RelP (refilled N (match x with | none => N.y | some x => x) (match x with | none => N.tp | some _ => 0) off) r col x := by
  have hm : Nat.min N.rest.length 1024 ≤ N.rest.length := Nat.min_le_left _ _
  have hm2 : Nat.min N.rest.length 1024 ≤ 1024 := Nat.min_le_right _ _
  have hu := h.unread
  rw [hp, Nat.sub_self, seg_zero, List.nil_append] at hu
  refine { ple := Nat.zero_le _, fle := hm2, sent := by simp [refilled, setb], lll := h.lll, asc := h.asc, clen := h.clen, unread := ?_, cc := h.cc, tok := ?_ }
  · show seg _ 0 (Nat.min N.rest.length 1024 - 0) ++ N.rest.drop _ = r
    rw [Nat.sub_zero, refilled_seg, List.take_append_drop, hu]
  · cases x with
    | none => exact h.tok
    | some x =>
      refine ⟨0, rfl, Nat.le_refl _, ?_⟩
      show x ++ seg _ 0 (0 - 0) = x
      simp [seg_zero]

def TkTo (w : World) (tk tk' : Option Nat) : Prop := tk' = tk ∨ tk = none ∧ ∃ k, tk' = some k ∧ w.heap.size ≤ k

/-- What next leaves. -/
def NextP (B sb rb : Nat) (rv : Value) (tk : Option Nat) (ch : Int) (r : Bs) (col : Nat) (x : Option Bs) (w : World) (e : Ending) (w' : World) : Prop :=
  e = .returned (.int .i32 (headCh r)) ∧ ∃ tk' N', SM w' B sb rb rv tk' N' ∧ Rel N' false r col x ∧ N'.ch = ch ∧ TkTo w tk tk' ∧ Only (fun k => k = sb ∨ k = rb ∨ tk = some k) w w'

section
variable {B sb rb : Nat} {rv : Value} {tk : Option Nat} {N : Nums} {r : Bs} {col : Nat} {x : Option Bs} {w w1 : World}

theorem next_end_plain {c : UInt8} {t : Bs} {tk1 : Option Nat} (h : SM w1 B sb rb rv tk1 N) (hr : RelP N (c :: t) col x) (hp : N.p < N.fin) (hc : c ≠ 10) (htk : TkTo w tk tk1) (ho : Only (fun k => k = sb ∨ k = rb ∨ tk = some k) w w1) :
    NextP B sb rb rv tk N.ch (c :: t) col x w (.returned (.int .i32 c.toNat)) (((w1.setCell ⟨sb, 1026, none⟩ (.int .i64 (N.p + 1 : Nat))).setCell ⟨sb, 1032, none⟩ (.int .i64 (1 : Nat))).setCell ⟨sb, 1030, none⟩ (.int .i64 (N.cc + 1 : Nat))) :=
  ⟨rfl, tk1, _, ((h.set1026 (N.p + 1)).set1032 1).set1030 (N.cc + 1), adv_plain hr hp hc, rfl, htk,
    ((ho.setCell (p := ⟨sb, 1026, none⟩) (fun _ => .inl rfl) _).setCell (p := ⟨sb, 1032, none⟩) (fun _ => .inl rfl) _).setCell (p := ⟨sb, 1030, none⟩) (fun _ => .inl rfl) _⟩

theorem next_end_nul {t : Bs} {tk1 : Option Nat} (h : SM w1 B sb rb rv tk1 N) (hr : RelP N (0 :: t) col x) (hp : N.p < N.fin) (htk : TkTo w tk tk1) (ho : Only (fun k => k = sb ∨ k = rb ∨ tk = some k) w w1) (m : Nat) (te ec : Int) :
    NextP B sb rb rv tk N.ch (0 :: t) col x w (.returned (.int .i32 0)) ((((((w1.setCell ⟨sb, 1026, none⟩ (.int .i64 (N.p + 1 : Nat))).setCell ⟨sb, 1032, none⟩ (.int .i64 (1 : Nat))).setCell ⟨sb, 1030, none⟩ (.int .i64 (N.cc + 1 : Nat))).drewN m).setCell ⟨sb, 1037, none⟩ (.int .i64 te)).setCell ⟨sb, 1040, none⟩ (.int .i64 ec)) :=
  ⟨rfl, tk1, _, (((((h.set1026 (N.p + 1)).set1032 1).set1030 (N.cc + 1)).drewN m).set1037 te).set1040 ec, by
    have a := adv_plain hr hp (by decide)
    exact { a with }, rfl, htk,
    (((((ho.setCell (p := ⟨sb, 1026, none⟩) (fun _ => .inl rfl) _).setCell (p := ⟨sb, 1032, none⟩) (fun _ => .inl rfl) _).setCell (p := ⟨sb, 1030, none⟩) (fun _ => .inl rfl) _).drewN m).setCell (p := ⟨sb, 1037, none⟩) (fun _ => .inl rfl) _).setCell (p := ⟨sb, 1040, none⟩) (fun _ => .inl rfl) _⟩

theorem next_end_nl {t : Bs} {tk1 : Option Nat} (h : SM w1 B sb rb rv tk1 N) (hr : RelP N (10 :: t) col x) (hp : N.p < N.fin) (htk : TkTo w tk tk1) (ho : Only (fun k => k = sb ∨ k = rb ∨ tk = some k) w w1) (ln : Int) (w2 : World)
    (hw2 : w2 = (((((((w1.setCell ⟨sb, 1026, none⟩ (.int .i64 (N.p + 1 : Nat))).setCell ⟨sb, 1032, none⟩ (.int .i64 (1 : Nat))).setCell ⟨sb, 1030, none⟩ (.int .i64 (N.cc + 1 : Nat))).setCell ⟨sb, 1029, none⟩ (.int .i64 ln)).setCell ⟨sb, 1031, none⟩ (.int .i64 (N.cc + 1 : Nat))).setCell ⟨sb, 1030, none⟩ (.int .i64 (0 : Nat))))) :
    NextP B sb rb rv tk N.ch (10 :: t) col x w (.returned (.int .i32 10)) w2 := by
  subst hw2
  refine ⟨rfl, tk1, _, (((((h.set1026 (N.p + 1)).set1032 1).set1030 (N.cc + 1)).set1029 ln).set1031 (N.cc + 1)).set1030 0, ?_, rfl, htk,
    (((((ho.setCell (p := ⟨sb, 1026, none⟩) (fun _ => .inl rfl) _).setCell (p := ⟨sb, 1032, none⟩) (fun _ => .inl rfl) _).setCell (p := ⟨sb, 1030, none⟩) (fun _ => .inl rfl) _).setCell (p := ⟨sb, 1029, none⟩) (fun _ => .inl rfl) _).setCell (p := ⟨sb, 1031, none⟩) (fun _ => .inl rfl) _).setCell (p := ⟨sb, 1030, none⟩) (fun _ => .inl rfl) _⟩
  have a := adv_nl hr hp ln
  exact { a with }
end

def ErrP (sb : Nat) (w : World) (e : Ending) (w' : World) : Prop := e = .returned (.tuple #[]) ∧ ∃ m te ec, w' = (((w.drewN m).setCell ⟨sb, 1037, none⟩ (.int .i64 te)).setCell ⟨sb, 1040, none⟩ (.int .i64 ec))

set_option maxRecDepth 100000 in
set_option maxHeartbeats 2000000 in
theorem error_any (sb : Nat) (w : World) (sv : Value) (p lc te ec : Int) (h26 : w.cell? ⟨sb, 1026, none⟩ = some (.int .i64 p)) (h32 : w.cell? ⟨sb, 1032, none⟩ = some (.int .i64 lc)) (h37 : w.cell? ⟨sb, 1037, none⟩ = some (.int .i64 te))
    (h39 : w.cell? ⟨sb, 1039, none⟩ = some .nilFunc) (h40 : w.cell? ⟨sb, 1040, none⟩ = some (.int .i64 ec)) (f37 : w.frozen? ⟨sb, 1037, none⟩ = false) (f40 : w.frozen? ⟨sb, 1040, none⟩ = false) :
    Calls Tryz.prog 146 #[.pointer (some ⟨sb, 0, none⟩), sv] w (ErrP sb w) := by
  have hnf : ∀ u : World, (binOp BinOp.neq 89 .nilFunc .nilFunc).run Tryz.prog u = .ok (.bool false) u := fun u => by kernel_rfl
  go_enter Tryz.func146, Tryz.ntmps146
  go_wp2
  go_still_tail 12, (by kernel_rfl)
  change wpList _ _ _ _ _ w.drew
  go_wp2
  go_end0
  exact ⟨rfl, 1, _, _, rfl⟩

set_option maxRecDepth 100000 in
set_option maxHeartbeats 2000000 in
theorem next_direct {B sb rb : Nat} {rv : Value} {tk : Option Nat} {N : Nums} {c : UInt8} {t : Bs} {col : Nat} {x : Option Bs} {w : World}
    (h : SM w B sb rb rv tk N) (hr : RelP N (c :: t) col x) (hp : N.p < N.fin) :
    Calls Tryz.prog 117 #[.pointer (some ⟨sb, 0, none⟩)] w (NextP B sb rb rv tk N.ch (c :: t) col x w) := by
  have hle := hr.fle
  have hc128 : c.toNat < 128 := by
    have := hr.asc c (by simp)
    simpa [UInt8.lt_iff_toNat_lt] using this
  have hbuf : N.buf N.p = c := by
    have hu := hr.unread
    obtain ⟨k, hk⟩ : ∃ k, N.fin - N.p = k + 1 := ⟨N.fin - N.p - 1, by omega⟩
    rw [hk, seg_cons] at hu
    simp only [List.cons_append, List.cons.injEq] at hu
    exact hu.1
  have h26 := h.c1026
  have h29 := h.c1029
  have h30 := h.c1030
  have h31 := h.c1031
  have h32 := h.c1032
  have h37 := h.c1037
  have h39 := h.c1039
  have h40 := h.c1040
  have hb := h.cbuf (i := N.p) (by omega)
  rw [hbuf] at hb
  have f26 := h.frozen 1026
  have f29 := h.frozen 1029
  have f30 := h.frozen 1030
  have f31 := h.frozen 1031
  have f32 := h.frozen 1032
  have f37 := h.frozen 1037
  have f40 := h.frozen 1040
  have hcl := hr.clen
  have hcc := hr.cc
  have hccb : N.cc < 20000000 := by simp at hcl; omega
  by_cases hc0 : c = 0
  · subst hc0
    have hfin := fun m m' te ec => next_end_nul (w := w) (tk := tk) (h.drewN m) hr hp (.inl rfl) ((Only.refl _ w).drewN m) m' te ec
    obtain ⟨p, hpp⟩ : ∃ p, p = N.p := ⟨_, rfl⟩
    obtain ⟨cc, hcc'⟩ : ∃ cc, cc = N.cc := ⟨_, rfl⟩
    rw [← hpp, ← hcc'] at hfin
    rw [← hpp] at h26 hb hp
    rw [← hcc'] at h30 hccb
    have Hfin := Lib.hid hfin
    clear hfin h hr hbuf hc128 hcl hcc hpp hcc'
    simp at hb
    go_enter Tryz.func117, Tryz.ntmps117
    go_wp2
    go_quiet (fail)
    go_wp2_with fail
    refine (error_any sb _ _ (p + 1) 1 N.te N.errs ?_ ?_ ?_ ?_ ?_ ?_ ?_).mono ?_
    · go_cell
    · go_cell
    · go_cell
    · go_cell
    · go_cell
    · simpa using f37
    · simpa using f40
    rintro e w1 ⟨rfl, m, te, ec, rfl⟩
    go_wp2
    go_ret
    exact Hfin.out nq m te ec
  · by_cases hc10 : c = 10
    · subst hc10
      have hfin := fun m ln w2 => next_end_nl (w := w) (tk := tk) (h.drewN m) hr hp (.inl rfl) ((Only.refl _ w).drewN m) ln w2
      obtain ⟨p, hpp⟩ : ∃ p, p = N.p := ⟨_, rfl⟩
      obtain ⟨cc, hcc'⟩ : ∃ cc, cc = N.cc := ⟨_, rfl⟩
      rw [← hpp, ← hcc'] at hfin
      rw [← hpp] at h26 hb hp
      rw [← hcc'] at h30 hccb
      have Hfin := Lib.hid hfin
      clear hfin h hr hbuf hc128 hcl hcc hpp hcc' hc0
      simp at hb
      go_enter Tryz.func117, Tryz.ntmps117
      go_wp2
      go_quiet (fail)
      go_wp2
      go_ret
      exact Hfin.out nq _ _ rfl
    · have hfin := fun m => next_end_plain (w := w) (tk := tk) (h.drewN m) hr hp hc10 (.inl rfl) ((Only.refl _ w).drewN m)
      obtain ⟨p, hpp⟩ : ∃ p, p = N.p := ⟨_, rfl⟩
      obtain ⟨cc, hcc'⟩ : ∃ cc, cc = N.cc := ⟨_, rfl⟩
      obtain ⟨n, hnn⟩ : ∃ n, n = c.toNat := ⟨_, rfl⟩
      rw [← hpp, ← hcc', ← hnn] at hfin
      rw [← hpp] at h26 hb hp
      rw [← hnn] at hb hc128
      rw [← hcc'] at h30 hccb
      have hn0 : n ≠ 0 := fun e => hc0 (by apply UInt8.toNat_inj.1; rw [← hnn, e]; rfl)
      have hn10 : n ≠ 10 := fun e => hc10 (by apply UInt8.toNat_inj.1; rw [← hnn, e]; rfl)
      have Hfin := Lib.hid hfin
      clear hfin h hr hbuf hcl hcc hpp hcc' hc0 hc10 hnn
      go_enter Tryz.func117, Tryz.ntmps117
      go_wp2
      go_quiet (fail)
      go_wp2
      go_ret
      exact Hfin.out nq
end Go.Proofs.YtpoimmpdncickaaGreatDoor
