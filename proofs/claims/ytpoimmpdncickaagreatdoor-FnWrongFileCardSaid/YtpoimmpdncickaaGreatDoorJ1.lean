/- Memory told by functions of places, the scanner's relation on lists of bytes, its buffer, its reader, and the scanner's block. Conditions: none beyond the theorems' own. -/
import Derived.WalkKit
import Derived.Handy
import Derived.Deep.QuietTactic
import Derived.BigQuiet
import Derived.WalkSpells
import Derived.WalkLawsBesides
import Derived.Laws.IdiomCopy
import Derived.Laws.CopyOwn
import Derived.Laws.BytesArg
import Derived.Test.YtpoimmpdncickaaGreatDoorProg
import Derived.Lib.Hide
import Derived.StillTailTactics
import Derived.Lib.IndexBytes
/- Blocks of memory told by a function of their places, and what stays the same beside some blocks: lemmas on worlds, over any program. -/
namespace Go.Proofs.YtpoimmpdncickaaGreatDoor
open Go Go.RowKit

/-- A place of a function set anew. -/
def upd (S : Nat → Value) (k : Nat) (v : Value) : Nat → Value := fun i => if i = k then v else S i
theorem upd_same (S : Nat → Value) (k : Nat) (v : Value) : upd S k v k = v := by simp [upd]
theorem upd_other (S : Nat → Value) {k i : Nat} (v : Value) (h : i ≠ k) : upd S k v i = S i := by simp [upd, h]

/-- Block b is a row of n cells of type T, none frozen, cell i holding S i. -/
def Blk (w : World) (b : Nat) (T : TypeId) (n : Nat) (S : Nat → Value) : Prop :=
  ∃ c, w.heap[b]? = some (.cells c T (0, 0)) ∧ c.size = n ∧ ∀ i, i < n → c[i]? = some (S i)

section
variable {w w' : World} {b : Nat} {T : TypeId} {n : Nat} {S : Nat → Value}

theorem Blk.lt (h : Blk w b T n S) : b < w.heap.size := by
  obtain ⟨c, h1, _⟩ := h
  exact (Array.getElem?_eq_some_iff.1 h1).1

theorem Blk.cell (h : Blk w b T n S) {i : Nat} (hi : i < n) : w.cell? ⟨b, i, none⟩ = some (S i) := by
  obtain ⟨c, h1, h2, h3⟩ := h
  simp [World.cell?, h1, h3 i hi]

theorem Blk.frozen (h : Blk w b T n S) (i : Nat) : w.frozen? ⟨b, i, none⟩ = false := by
  obtain ⟨c, h1, h2, h3⟩ := h
  simp [World.frozen?, h1]

theorem Blk.cell_eq (h : Blk w b T n S) {i : Nat} {v : Value} (hi : i < n) (e : S i = v) : w.cell? ⟨b, i, none⟩ = some v := e ▸ h.cell hi

theorem Blk.of_heap (h : Blk w b T n S) (e : w'.heap[b]? = w.heap[b]?) : Blk w' b T n S := by
  obtain ⟨c, h1, h2⟩ := h
  exact ⟨c, e.trans h1, h2⟩

theorem Blk.set (h : Blk w b T n S) (k : Nat) (v : Value) : Blk (w.setCell ⟨b, k, none⟩ v) b T n (upd S k v) := by
  obtain ⟨c, h1, h2, h3⟩ := h
  refine ⟨c.setIfInBounds k v, ?_, by simpa using h2, fun i hi => ?_⟩
  · simp [World.setCell, Array.getElem?_modify, h1]
  · rw [Array.getElem?_setIfInBounds]
    by_cases e : k = i
    · subst e; simp [upd, h2, hi]
    · have e' : ¬ i = k := fun x => e x.symm
      simp [e, e', upd, h3 i hi]

theorem Blk.setOther (h : Blk w b T n S) {a : Addr} (ha : a.block ≠ b) (v : Value) : Blk (w.setCell a v) b T n S :=
  h.of_heap (Below.heap_setCell w a v b (fun e => ha e.symm))

theorem Blk.alloc (h : Blk w b T n S) (o : Obj) : Blk (w.alloc o) b T n S := h.of_heap (Below.heap_alloc w o b h.lt)
theorem Blk.drew (h : Blk w b T n S) : Blk w.drew b T n S := h
theorem Blk.drewN (h : Blk w b T n S) (m : Nat) : Blk (w.drewN m) b T n S := h.of_heap rfl

theorem Blk.congr (h : Blk w b T n S) {S' : Nat → Value} (e : ∀ i, i < n → S' i = S i) : Blk w b T n S' := by
  obtain ⟨c, h1, h2, h3⟩ := h
  exact ⟨c, h1, h2, fun i hi => by rw [h3 i hi, e i hi]⟩

/-- Two blocks of different types are two. -/
theorem Blk.ne {b' : Nat} {T' : TypeId} {n' : Nat} {S' : Nat → Value} (h : Blk w b T n S) (h' : Blk w b' T' n' S') (e : T ≠ T') : b ≠ b' := by
  rintro rfl
  obtain ⟨c, h1, _⟩ := h
  obtain ⟨c', h1', _⟩ := h'
  rw [h1] at h1'
  exact e (by simpa using (Option.some.inj h1' : Obj.cells c T (0, 0) = Obj.cells c' T' (0, 0)) |> fun x => (Obj.cells.inj x).2.1)

theorem cell_lt {w : World} {a : Addr} {v : Value} (h : w.cell? a = some v) : a.block < w.heap.size := by
  rcases Nat.lt_or_ge a.block w.heap.size with x | x
  · exact x
  · simp [World.cell?, Array.getElem?_eq_none x] at h
theorem cell_drewN_alloc {w : World} {a : Addr} {v : Value} (h : w.cell? a = some v) (m : Nat) (o : Obj) : ((w.drewN m).alloc o).cell? a = some v := by
  rw [World.cell?_of_block (w := w) (Below.heap_alloc (w.drewN m) o a.block (cell_lt h))]; exact h
theorem frozen_drewN_alloc {w : World} {a : Addr} (hl : a.block < w.heap.size) (h : w.frozen? a = false) (m : Nat) (o : Obj) : ((w.drewN m).alloc o).frozen? a = false := by
  rw [World.frozen?_of_block (w := w) (Below.heap_alloc (w.drewN m) o a.block hl)]; exact h

/-- A new block. -/
theorem Blk.new (w : World) (c : Array Value) (T : TypeId) {n : Nat} {S : Nat → Value} (hn : c.size = n) (h : ∀ i, i < n → c[i]? = some (S i)) : Blk (w.alloc (.cells c T)) w.heap.size T n S :=
  ⟨c, by show (w.heap.push _)[w.heap.size]? = _; simp, hn, h⟩
end

/-- But for some blocks of those that there were, the world is as it was. -/
structure Only (D : Nat → Prop) (w w' : World) : Prop where
  os : w'.os = w.os
  tape : w'.tape = w.tape
  output : w'.output = w.output
  size : w.heap.size ≤ w'.heap.size
  block : ∀ k, k < w.heap.size → ¬ D k → w'.heap[k]? = w.heap[k]?

section
variable {D D' : Nat → Prop} {a w w' : World}
theorem Only.refl (D : Nat → Prop) (w : World) : Only D w w := ⟨rfl, rfl, rfl, Nat.le_refl _, fun _ _ _ => rfl⟩
theorem Only.trans {x : World} (h : Only D a w) (k : Only D' w x) (sub : ∀ i, i < a.heap.size → D' i → D i) : Only D a x :=
  ⟨k.os.trans h.os, k.tape.trans h.tape, k.output.trans h.output, Nat.le_trans h.size k.size,
    fun i hi hd => (k.block i (Nat.lt_of_lt_of_le hi h.size) (fun x => hd (sub i hi x))).trans (h.block i hi hd)⟩
theorem Only.mono (h : Only D a w) (sub : ∀ i, i < a.heap.size → D i → D' i) : Only D' a w :=
  ⟨h.os, h.tape, h.output, h.size, fun i hi hd => h.block i hi (fun x => hd (sub i hi x))⟩
theorem Only.setCell (h : Only D a w) {p : Addr} (hp : p.block < a.heap.size → D p.block) (u : Value) : Only D a (w.setCell p u) :=
  ⟨h.os, h.tape, h.output, by simpa [World.setCell] using h.size,
    fun i hi hd => (Below.heap_setCell w p u i (fun e => hd (e ▸ hp (e ▸ hi)))).trans (h.block i hi hd)⟩
theorem Only.alloc (h : Only D a w) (o : Obj) : Only D a (w.alloc o) :=
  ⟨h.os, h.tape, h.output, by have := h.size; simp; omega, fun i hi hd => (Below.heap_alloc w o i (Nat.lt_of_lt_of_le hi h.size)).trans (h.block i hi hd)⟩
theorem Only.drew (h : Only D a w) : Only D a w.drew := ⟨h.os, h.tape, h.output, h.size, h.block⟩
theorem Only.drewN (h : Only D a w) (m : Nat) : Only D a (w.drewN m) := ⟨h.os, h.tape, h.output, h.size, h.block⟩
theorem Only.grown (h : Only D a w) {row : Option Nat} (hg : w.grownBy w' row) (hr : ∀ k, row = some k → k < a.heap.size → D k) : Only D a w' :=
  h.trans (D' := fun k => row = some k) ⟨hg.os, hg.tape, hg.output, hg.size, fun k hk hd => hg.block k hk (fun e => hd e.symm)⟩ (fun i hi hd => hr i hd hi)
theorem Only.below (h : Only D a w) {B : Nat} (hB : B ≤ a.heap.size) (hD : ∀ k, k < B → ¬ D k) : Below B a w :=
  ⟨h.os, h.tape, h.output, h.size, fun k hk => h.block k (Nat.lt_of_lt_of_le hk hB) (hD k hk)⟩
theorem Blk.only {b : Nat} {T : TypeId} {n : Nat} {S : Nat → Value} (hb : Blk a b T n S) (h : Only D a w) (hd : ¬ D b) : Blk w b T n S := hb.of_heap (h.block b hb.lt hd)
theorem Only.cell (h : Only D a w) {p : Addr} {v : Value} (hc : a.cell? p = some v) (hd : ¬ D p.block) : w.cell? p = some v := by
  have hlt : p.block < a.heap.size := by
    rcases Nat.lt_or_ge p.block a.heap.size with x | x
    · exact x
    · simp [World.cell?, Array.getElem?_eq_none x] at hc
  rw [World.cell?_of_block (w := a) (h.block _ hlt hd)]; exact hc
end

theorem cell_setCell_ne {w : World} {a b : Addr} {v u : Value} (h : w.cell? a = some v) (hne : b ≠ a) : (w.setCell b u).cell? a = some v := by
  rw [World.cell?_setCell_other _ _ _ _ hne]; exact h
theorem cell_drewN {w : World} {a : Addr} {v : Value} (h : w.cell? a = some v) (m : Nat) : (w.drewN m).cell? a = some v := h
theorem cell_alloc {w : World} {a : Addr} {v : Value} (h : w.cell? a = some v) (o : Obj) : (w.alloc o).cell? a = some v := by
  rw [World.cell?_of_block (w := w) (Below.heap_alloc w o a.block (cell_lt h))]; exact h
theorem add_block (a : Addr) (j : Nat) : (a.add j).block = a.block := by unfold Addr.add; split <;> rfl
theorem add_off (a : Addr) (j : Nat) : (a.add j).off = a.off + j := by
  unfold Addr.add; split
  · rename_i h; subst h; rfl
  · rfl
theorem add_ne {a b : Addr} {j : Nat} (h : a.block ≠ b.block ∨ a.off + j ≠ b.off) : b ≠ a.add j := by
  intro e
  rcases h with h | h
  · exact h (by rw [e, add_block])
  · exact h (by rw [e, add_off])

/-- A function of places with a list laid over it from one place on. -/
def updL (S : Nat → Value) (o : Nat) (vs : List Value) : Nat → Value := fun i => if o ≤ i ∧ i < o + vs.length then vs.getD (i - o) undef else S i
theorem updL_out (S : Nat → Value) {o i : Nat} (vs : List Value) (h : i < o ∨ o + vs.length ≤ i) : updL S o vs i = S i := by
  unfold updL; rw [if_neg (by omega)]
theorem updL_in (S : Nat → Value) {o j : Nat} (vs : List Value) (h : j < vs.length) : updL S o vs (o + j) = vs[j] := by
  unfold updL; rw [if_pos (by omega)]; simp [h]

theorem Blk.setCells {b : Nat} {T : TypeId} {n : Nat} : ∀ (vs : List Value) (o : Nat) {w : World} {S : Nat → Value}, Blk w b T n S → Blk (w.setCells b o vs) b T n (updL S o vs)
  | [], o, w, S, h => h.congr fun i _ => by unfold updL; rw [if_neg (by simp only [List.length_nil]; omega)]
  | v :: r, o, w, S, h => (Blk.setCells r (o + 1) (h.set o v)).congr fun i _ => by
    unfold updL
    by_cases h1 : i = o
    · subst h1
      rw [if_pos (by simp), if_neg (by omega), upd_same]; simp
    · by_cases h2 : o ≤ i ∧ i < o + (v :: r).length
      · have h2' := h2.2
        simp only [List.length_cons] at h2'
        rw [if_pos h2, if_pos (by omega)]
        obtain ⟨k, hk⟩ : ∃ k, i - o = k + 1 := ⟨i - o - 1, by omega⟩
        rw [hk, show i - (o + 1) = k by omega]; simp
      · simp only [List.length_cons] at h2
        rw [if_neg (by simp only [List.length_cons]; omega), if_neg (by omega), upd_other _ _ h1]

theorem Only.setCells {D : Nat → Prop} {a : World} {b : Nat} (hb : b < a.heap.size → D b) : ∀ (vs : List Value) (o : Nat) {w : World}, Only D a w → Only D a (w.setCells b o vs)
  | [], _, _, h => h
  | v :: r, o, _, h => Only.setCells hb r (o + 1) (h.setCell (p := ⟨b, o, none⟩) hb v)

theorem Blk.setCellsOther {w : World} {b b' : Nat} {T : TypeId} {n : Nat} {S : Nat → Value} (h : Blk w b T n S) (hne : b' ≠ b) (o : Nat) (vs : List Value) : Blk (w.setCells b' o vs) b T n S :=
  h.only (Only.setCells (D := fun k => k = b') (fun _ => rfl) vs o (Only.refl _ w)) (fun e => hne e.symm)

/-- The builtin copy, in terms of cells alone. -/
theorem wpList_copy_cells {P : Program} {w : World} {ops : Array Oper} {rest : List Oper} {o : Oper} {a : Act} {Q : Exit → Act → World → Prop} (hgd : o.guard = none) (d s : Operand) (dT sT : TypeId)
    (ho : o.op = .call { callee := .builtin .copy, args := #[d, s], argTypes := #[dT, sT] }) (elem : TypeId) (hu : P.underlying dT = some (.slice elem)) (hsz : (P.info? elem).map (·.size) = some 1)
    (dp sp : Option Addr) (dLen dCap sLen sCap : Nat) (hd : a.eval d = .slice dp dLen dCap) (hs : a.eval s = .slice sp sLen sCap)
    (g off : Nat) (cs : List Value) (hn : cs.length = Nat.min sLen dLen)
    (hpos : 0 < cs.length → dp = some ⟨g, off, none⟩ ∧ (∃ ad, sp = some ad ∧ ∀ j v, cs[j]? = some v → w.cell? (ad.add j) = some v) ∧
      (∀ j, j < cs.length → (w.cell? ⟨g, off + j, none⟩).isSome = true) ∧ (∀ j, j < cs.length → w.frozen? ⟨g, off + j, none⟩ = false))
    (h1 : ∀ v ∈ cs, v.oneCell' = true)
    (h : wpList P ops Q rest (a.put o.dst (.int .i64 cs.length)) (w.setCells g off cs)) :
    wpList P ops Q (o :: rest) a w := by
  refine wpList_plain hgd fun K hK => ?_
  by_cases h0 : cs.length = 0
  · obtain rfl : cs = [] := List.eq_nil_of_length_eq_zero h0
    have hrun := run_copy_none (P := P) w dT sT o.type elem dp sp dLen dCap sLen sCap hu hsz (by simpa using hn.symm)
    unfold Oper.wp
    simp [execOp, ho, resolve, invoke, builtin, hd, hs, hrun, Result.andThen]
    exact hK _ _ h
  · obtain ⟨rfl, ⟨ad, rfl, hsrc⟩, hc, hf⟩ := hpos (by omega)
    have hrun := run_copy_cells (P := P) w dT sT o.type elem g off dLen dCap ad sLen sCap cs hu hsz hn hsrc hc hf h1
    unfold Oper.wp
    simp [execOp, ho, resolve, invoke, builtin, hd, hs, hrun, Result.andThen]
    exact hK _ _ h

/-- A string out of its bytes. -/
def mkS (x : List UInt8) : ByteArray := ⟨x.toArray⟩
theorem mkS_size (x : List UInt8) : (mkS x).size = x.length := rfl
theorem mkS_data (x : List UInt8) : (mkS x).data.toList = x := rfl
theorem mkS_of (s : ByteArray) : mkS s.data.toList = s := rfl

/-- A conversion of bytes in memory to a string. -/
theorem run_convert_cells {P : Program} (w : World) (src dst e : TypeId) (hs : P.underlying src = some (.slice e)) (he : P.underlying e = some (.int .u8)) (hd : P.underlying dst = some .string) (ao : Option Addr) (c : Nat) (x : List UInt8)
    (h0 : ao = none → x = [])
    (hc : ∀ a, ao = some a → ∀ j v, (x.map fun c => Value.int .u8 c.toNat)[j]? = some v → w.cell? (a.add j) = some v) :
    (convert src dst (.slice ao x.length c)).run P w = .ok (.string (mkS x)) w := by
  rw [run_convert_bytes_string w src dst e _ x.length c hs he hd]
  cases ao with
  | none =>
    have := h0 rfl
    subst this
    simp [Conv.bytesToString]; rfl
  | some a =>
    have hl : (loadCells a x.length).run P w = .ok ((x.map fun c => (c.toNat : Int)).map (Value.int .u8)).toArray w := by
      have := run_loadCells_list (P := P) w a (x.map fun c => Value.int .u8 c.toNat) (hc a rfl)
      simpa [List.map_map, Function.comp_def] using this
    rw [run_bytesToString w a x.length c _ hl, foldl_push_bytes]
    simp [List.map_map, Function.comp_def, ByteArray.empty, ByteArray.emptyWithCapacity, mkS]
    rfl

end Go.Proofs.YtpoimmpdncickaaGreatDoor

/- How the scanner splits a text of ASCII into tokens, as relations on lists of bytes: no Go and no memory in it. -/
namespace Go.Proofs.YtpoimmpdncickaaGreatDoor
namespace Lex

abbrev Bs := List UInt8

def isLet (c : UInt8) : Bool := (decide (65 ≤ c) && decide (c ≤ 90)) || (decide (97 ≤ c) && decide (c ≤ 122)) || c == 95
def isDig (c : UInt8) : Bool := decide (48 ≤ c) && decide (c ≤ 57)
def isIdc (c : UInt8) : Bool := isLet c || isDig c
def isHexd (c : UInt8) : Bool := isDig c || (decide (97 ≤ c) && decide (c ≤ 102)) || (decide (65 ≤ c) && decide (c ≤ 70))
def isStr (c : UInt8) : Bool := decide (32 ≤ c) && decide (c ≤ 126) && c != 34 && c != 92
def isWs (c : UInt8) : Bool := c == 32 || c == 9 || c == 13
def ascii (r : Bs) : Prop := ∀ c ∈ r, c < 128

/-- The head of what is left is none of some bytes. -/
def ends (p : UInt8 → Bool) (r : Bs) : Prop := ∀ c, r.head? = some c → p c = false

/-- A comment's inside, with the star behind it, holds no end of a comment. -/
def noEnd : Bs → Prop
  | 42 :: 47 :: _ => False
  | _ :: r => noEnd r
  | [] => True

/-- A character that is a token by itself. -/
def isPlain (c : UInt8) : Bool := !isWs c && !isLet c && !isDig c && c != 34 && c != 39 && c != 46 && c != 47 && c != 96 && c != 0

/-- What Scan tells at what is left: the kind, the token's text, what is left behind it. -/
inductive Scan : Bs → Int → Bs → Bs → Prop
  | ws {c r k x r'} : isWs c = true → Scan r k x r' → Scan (c :: r) k x r'
  | eof : Scan [] (-1) [] []
  | ident {c x r'} : isLet c = true → (∀ b ∈ x, isIdc b = true) → ends isIdc r' → Scan (c :: (x ++ r')) (-2) (c :: x) r'
  | zero {r'} : ends (fun c => isIdc c || c == 46) r' → Scan (48 :: r') (-3) [48] r'
  | dec {c x r'} : isDig c = true → c ≠ 48 → (∀ b ∈ x, isDig b = true) → ends (fun c => isIdc c || c == 46) r' → Scan (c :: (x ++ r')) (-3) (c :: x) r'
  | hex {x r'} : x ≠ [] → (∀ b ∈ x, isHexd b = true) → ends (fun c => isIdc c || c == 46) r' → Scan (48 :: 120 :: (x ++ r')) (-3) (48 :: 120 :: x) r'
  | str {x r'} : (∀ b ∈ x, isStr b = true) → Scan (34 :: (x ++ 34 :: r')) (-6) (34 :: (x ++ [34])) r'
  | comment {x r'} : noEnd (x ++ [42]) → Scan (47 :: 42 :: (x ++ 42 :: 47 :: r')) (-8) (47 :: 42 :: (x ++ [42, 47])) r'
  | char {c r'} : isPlain c = true → Scan (c :: r') c.toNat [c] r'

/-- The column of what comes next. -/
def adv (col : Nat) : Bs → Nat
  | [] => col
  | c :: r => adv (if c = 10 then 1 else col + 1) r

def nls (x : Bs) : Nat := x.count 10

end Lex
end Go.Proofs.YtpoimmpdncickaaGreatDoor

/- How a text of ASCII is split into tokens, with gaps between them: relations on lists of bytes, no Go and no memory in it. -/
namespace Go.Proofs.YtpoimmpdncickaaGreatDoor
open Lex
set_option linter.unusedVariables false
namespace Lex

def idot (c : UInt8) : Bool := isIdc c || c == 46

/-- A text x, with r' behind it, is scanned as one token of kind k. -/
inductive ScanH : Int → Bs → Bs → Prop
  | eof : ScanH (-1) [] []
  | ident {c x r'} : isLet c = true → (∀ b ∈ x, isIdc b = true) → ends isIdc r' → ScanH (-2) (c :: x) r'
  | zero {r'} : ends idot r' → ScanH (-3) [48] r'
  | dec {c x r'} : isDig c = true → c ≠ 48 → (∀ b ∈ x, isDig b = true) → ends idot r' → ScanH (-3) (c :: x) r'
  | hex {x r'} : x ≠ [] → (∀ b ∈ x, isHexd b = true) → ends idot r' → ScanH (-3) (48 :: 120 :: x) r'
  | str {x r'} : (∀ b ∈ x, isStr b = true) → ScanH (-6) (34 :: (x ++ [34])) r'
  | comment {x r'} : noEnd (x ++ [42]) → ScanH (-8) (47 :: 42 :: (x ++ [42, 47])) r'
  | char {c r'} : isPlain c = true → ScanH c.toNat [c] r'

set_option maxRecDepth 100000 in
theorem let_ws_fin : ∀ n : Fin 256, (isLet (UInt8.ofNat n.val) = true ∨ isDig (UInt8.ofNat n.val) = true ∨ UInt8.ofNat n.val = 34 ∨ UInt8.ofNat n.val = 47) → isWs (UInt8.ofNat n.val) = false := by decide
theorem let_ws {c : UInt8} (h : isLet c = true ∨ isDig c = true ∨ c = 34 ∨ c = 47) : isWs c = false := by
  have := let_ws_fin ⟨c.toNat, UInt8.toNat_lt c⟩
  simp only [UInt8.ofNat_toNat] at this
  exact this h
theorem plain_ws {c : UInt8} (h : isPlain c = true) : isWs c = false := by
  unfold isPlain at h
  cases hw : isWs c with
  | false => rfl
  | true => rw [hw] at h; simp at h

theorem ScanH.ends {k : Int} {x r' : Bs} (h : ScanH k x r') : ends isWs (x ++ r') := by
  intro c hc
  cases h with
  | eof => cases hc
  | ident h1 => simp at hc; subst hc; exact let_ws (.inl h1)
  | zero => simp at hc; subst hc; decide
  | dec h1 => simp at hc; subst hc; exact let_ws (.inr (.inl h1))
  | hex => simp at hc; subst hc; decide
  | str => simp at hc; subst hc; decide
  | comment => simp at hc; subst hc; decide
  | char h1 => simp at hc; subst hc; exact plain_ws h1

/-- The tokens of two characters. -/
def two : Int → Option (UInt8 × Int)
  | 45 => some (62, -1002)
  | 64 => some (62, -1003)
  | 60 => some (60, -1000)
  | 62 => some (62, -1001)
  | _ => none

/-- THE TOKENIZER's Next at a text: the kind, the token's text, what is taken, what is left. -/
inductive TNext : Bs → Int → Bs → Bs → Bs → Prop
  | gap {ws x r k y z r'} : (∀ b ∈ ws, isWs b = true) → noEnd (x ++ [42]) → nls x = 0 → x.length ≤ 56 → TNext r k y z r' → TNext (ws ++ (47 :: 42 :: (x ++ [42, 47]) ++ r)) k y (ws ++ (47 :: 42 :: (x ++ [42, 47]) ++ z)) r'
  | one {ws k x r'} : (∀ b ∈ ws, isWs b = true) → ScanH k x r' → k ≠ -8 → x.length ≤ 64 → (∀ d n, two k = some (d, n) → r'.head? ≠ some d) → TNext (ws ++ (x ++ r')) k x (ws ++ x) r'
  | pair {ws k c d n r'} : (∀ b ∈ ws, isWs b = true) → ScanH k [c] (d :: r') → two k = some (d, n) → TNext (ws ++ (c :: d :: r')) n [c, d] (ws ++ [c, d]) r'

theorem TNext.split {r : Bs} {k : Int} {y z r' : Bs} (h : TNext r k y z r') : r = z ++ r' := by
  induction h with
  | gap _ _ _ _ _ ih => rw [ih]; simp
  | one => simp
  | pair => simp

/-- A token: its kind, its text, the line of which it is told, the column of what stands behind it. -/
structure Tk where
  k : Int
  x : Bs
  line : Nat
  col : Nat

/-- The tokens of a text from line l, column c on. -/
inductive Toks : Bs → Nat → Nat → List Tk → Prop
  | nil {r l c z} : TNext r (-1) [] z [] → Toks r l c []
  | cons {r l c k x z r' ts} : TNext r k x z r' → k ≠ -1 → Toks r' (if k = 10 then l + 1 else l) (adv c z) ts → Toks r l c (⟨k, x, if k = 10 then l + 1 else l, adv c z⟩ :: ts)

theorem adv_app (c : Nat) (x y : Bs) : adv c (x ++ y) = adv (adv c x) y := by
  induction x generalizing c with
  | nil => rfl
  | cons a t ih => exact ih _

end Lex
end Go.Proofs.YtpoimmpdncickaaGreatDoor

/- The tokens of a text, one behind the other, with their lines and columns: plain lists. -/
namespace Go.Proofs.YtpoimmpdncickaaGreatDoor
open Lex
set_option linter.unusedVariables false
namespace Lex

/-- The line of which a token is told. -/
def lineAt (line : Nat) (k : Int) : Nat := if k = 10 then line + 1 else line

/-- A token: its kind, its text, the line of which it is told, the column of what stands behind it. -/
structure Tok where
  k : Int
  x : Bs
  line : Nat
  col : Nat

/-- The tokens of a text from line l, column c on. -/
inductive TL : Bs → Nat → Nat → List Tok → Prop
  | nil {r l c z} : TNext r (-1) [] z [] → TL r l c []
  | cons {r l c k x z r' ts} : TNext r k x z r' → k ≠ -1 → TL r' (lineAt l k) (adv c z) ts → TL r l c (⟨k, x, lineAt l k, adv c z⟩ :: ts)

end Lex
end Go.Proofs.YtpoimmpdncickaaGreatDoor

/- The scanner's token buffer (a bytes.Buffer in its block): what Write, Len, Reset and String do to it, as long as it holds at most 64 bytes. -/
namespace Go.Proofs.YtpoimmpdncickaaGreatDoor
open Go Go.RowKit Lex
set_option linter.unusedVariables false
set_option linter.unusedSimpArgs false

/-- The bytes as cells. -/
def cellsOf (x : Bs) : List Value := x.map fun c => .int .u8 c.toNat

/-- The buffer in the scanner's block holds the bytes x: nothing has been made yet (none), or it has a row of 64 bytes (block k). -/
def TB (w : World) (B : Nat) (S : Nat → Value) (x : Bs) (tk : Option Nat) : Prop :=
  S 1034 = .int .i64 0 ∧ (∃ n, S 1035 = .int .i8 n) ∧ x.length ≤ 64 ∧
  ((tk = none ∧ S 1033 = .slice none 0 0 ∧ x = []) ∨
   (∃ k, tk = some k ∧ S 1033 = .slice (some ⟨k, 0, none⟩) x.length 64 ∧ B ≤ k ∧ ∃ F, Blk w k 5 64 F ∧ ∀ i (h : i < x.length), F i = .int .u8 (x[i].toNat)))

theorem TB.congr {w : World} {B : Nat} {S S' : Nat → Value} {x : Bs} {tk : Option Nat} (h : TB w B S x tk) (e : ∀ i, 1033 ≤ i → i ≤ 1035 → S' i = S i) : TB w B S' x tk := by
  unfold TB
  rw [e 1033 (by omega) (by omega), e 1034 (by omega) (by omega), e 1035 (by omega) (by omega)]
  exact h

theorem TB.only {w w' : World} {B : Nat} {S : Nat → Value} {x : Bs} {tk : Option Nat} {D : Nat → Prop} (h : TB w B S x tk) (ho : Only D w w') (hd : ∀ k, tk = some k → ¬ D k) : TB w' B S x tk := by
  obtain ⟨h1, h2, h3, h4⟩ := h
  refine ⟨h1, h2, h3, ?_⟩
  rcases h4 with h4 | ⟨k, e, a, b, F, hF, hx⟩
  · exact .inl h4
  · exact .inr ⟨k, e, a, b, F, hF.only ho (hd k e), hx⟩

def Wrote (sb B : Nat) (S : Nat → Value) (x : Bs) (tk : Option Nat) (w w' : World) : Prop :=
  ∃ S' tk', Blk w' sb 96 1048 S' ∧ (∀ i, i < 1033 ∨ 1035 < i → S' i = S i) ∧ TB w' B S' x tk' ∧ (tk' = tk ∨ tk = none ∧ ∃ k, tk' = some k ∧ w.heap.size ≤ k) ∧ Only (fun k => k = sb ∨ tk = some k) w w'

theorem info_u8 : (Tryz.prog.info? 5).map (·.size) = some 1 := by kernel_rfl
theorem infoU8 : (Tryz.prog.info? 5).map (fun i => (i.zero, i.size, i.bytes)) = some (some (.int .u8 0), 1, 1) := by kernel_rfl

set_option maxRecDepth 100000 in
set_option maxHeartbeats 1000000 in
theorem len_any (sb : Nat) (w : World) (A : Option Addr) (l c : Nat) (hl : l ≤ 64) (h33 : w.cell? ⟨sb, 1033, none⟩ = some (.slice A l c)) (h34 : w.cell? ⟨sb, 1034, none⟩ = some (.int .i64 0)) :
   Calls Tryz.prog 127 #[.pointer (some ⟨sb, 1033, none⟩)] w fun e w' => e = .returned (.int .i64 l) ∧ ∃ m, w' = w.drewN m := by
  go_enter Tryz.func127, Tryz.ntmps127
  go_wp2
  go_quiet (fail)
  go_wp2
  go_ret
  exact ⟨rfl, _, rfl⟩

set_option maxRecDepth 100000 in
set_option maxHeartbeats 1000000 in
theorem tryGrow_yes (sb : Nat) (w : World) (A : Option Addr) (l c n : Nat) (hl : l + n ≤ c) (hc : c ≤ 64) (h33 : w.cell? ⟨sb, 1033, none⟩ = some (.slice A l c)) (f33 : w.frozen? ⟨sb, 1033, none⟩ = false) :
   Calls Tryz.prog 154 #[.pointer (some ⟨sb, 1033, none⟩), .int .i64 n] w fun e w' => e = .returned (.tuple #[.int .i64 l, .bool true]) ∧ w.setCell ⟨sb, 1033, none⟩ (.slice A (l + n) c) = w' := by
  go_enter Tryz.func154, Tryz.ntmps154
  go_wp2
  go_ret2
  exact ⟨rfl, rfl⟩

set_option maxRecDepth 100000 in
set_option maxHeartbeats 1000000 in
theorem tryGrow_no (sb : Nat) (w : World) (A : Option Addr) (l c n : Nat) (hl : c < l + n) (hlc : l ≤ c) (hn : n ≤ 64) (hc : c ≤ 64) (h33 : w.cell? ⟨sb, 1033, none⟩ = some (.slice A l c)) :
   Calls Tryz.prog 154 #[.pointer (some ⟨sb, 1033, none⟩), .int .i64 n] w fun e w' => e = .returned (.tuple #[.int .i64 0, .bool false]) ∧ w = w' := by
  go_enter Tryz.func154, Tryz.ntmps154
  go_wp2
  go_ret2
  exact ⟨rfl, rfl⟩

set_option maxRecDepth 100000 in
set_option maxHeartbeats 2000000 in
theorem grow_nil (sb : Nat) (w : World) (n : Nat) (hn : 0 < n) (hle : n ≤ 64) (h33 : w.cell? ⟨sb, 1033, none⟩ = some (.slice none 0 0)) (h34 : w.cell? ⟨sb, 1034, none⟩ = some (.int .i64 0)) (f33 : w.frozen? ⟨sb, 1033, none⟩ = false) (hlt : sb < w.heap.size) :
   Calls Tryz.prog 155 #[.pointer (some ⟨sb, 1033, none⟩), .int .i64 n] w fun e w' => e = .returned (.int .i64 0) ∧ ∃ m, w' = ((w.drewN m).alloc (.cells (madeCells #[.int .u8 0] 64) 5)).setCell ⟨sb, 1033, none⟩ (.slice (some ⟨w.heap.size, 0, none⟩) n 64) := by
  obtain ⟨i0, hi, hz0, hz1, hz2⟩ := info_parts infoU8
  have hmk : ∀ u : World, (Instr.makeSlice 84 (.int .i64 (n : Int)) (.int .i64 64)).run Tryz.prog u =
      .ok (.slice (some ⟨u.heap.size, 0, none⟩) n 64) (u.alloc (.cells (madeCells #[.int .u8 0] 64) 5)) := fun u => by
    have h := run_make (P := Tryz.prog) u 84 5 i0 (.int .u8 0) Tryz.underlying84 hi hz0 .i64 .i64 (n : Int) 64 (by omega) (by omega) (by rw [hz2]; omega) (by omega)
    simpa [hz1, Value.cells] using h
  have hsn := Lib.run_eql_slice_nil (P := Tryz.prog)
  have hca := cell_drewN_alloc h33
  have hfa := frozen_drewN_alloc (a := ⟨sb, 1033, none⟩) hlt f33
  clear hi hz0 hz1 hz2
  go_enter Tryz.func155, Tryz.ntmps155
  go_wp2_with fail
  refine (len_any _ _ none 0 0 (by omega) h33 h34).mono ?_
  rintro e w1 ⟨rfl, m, rfl⟩
  go_wp2_with fail
  refine (tryGrow_no _ _ none 0 0 n (by omega) (by omega) (by omega) (by omega) ?_).mono ?_
  · exact h33
  rintro e w1 ⟨rfl, rfl⟩
  go_wp2
  go_ret
  exact ⟨rfl, m, rfl⟩

def WriteNil (sb B : Nat) (S : Nat → Value) (y : Bs) (w : World) (e : Ending) (w' : World) : Prop := e = .returned (.tuple #[.int .i64 y.length, .nilIface]) ∧ Wrote sb B S y none w w'

theorem oneCell_cells (y : Bs) : ∀ v ∈ cellsOf y, v.oneCell' = true := by
  intro v hv
  obtain ⟨c, _, rfl⟩ := List.mem_map.1 hv
  rfl
theorem length_cells (y : Bs) : (cellsOf y).length = y.length := by simp [cellsOf]
theorem cells_get (y : Bs) {i : Nat} (h : i < y.length) : (cellsOf y)[i]? = some (.int .u8 (y[i].toNat)) := by simp [cellsOf, h]

section
variable (sb B : Nat) (S : Nat → Value) (w : World) (hb : Blk w sb 96 1048 S) (y : Bs) (m n : Nat)
def nilW (w : World) (sb m n : Nat) : World := (((w.setCell ⟨sb, 1035, none⟩ (.int .i8 0)).drewN m).setCell ⟨sb, 1033, none⟩ (.slice (some ⟨w.heap.size, 0, none⟩) n 64)).alloc (.cells (madeCells #[.int .u8 0] 64) 5)
theorem nilW_old {a : Addr} {v : Value} (h : w.cell? a = some v) (h1 : (⟨sb, 1033, none⟩ : Addr) ≠ a) (h2 : (⟨sb, 1035, none⟩ : Addr) ≠ a) : (nilW w sb m n).cell? a = some v :=
  cell_alloc (cell_setCell_ne (cell_drewN (cell_setCell_ne h h2) m) h1) _
include hb
theorem nilW_sb : Blk (nilW w sb m n) sb 96 1048 (upd (upd S 1035 (.int .i8 0)) 1033 (.slice (some ⟨w.heap.size, 0, none⟩) n 64)) :=
  (((hb.set 1035 (.int .i8 0)).drewN m).set 1033 (.slice (some ⟨w.heap.size, 0, none⟩) n 64)).alloc _
omit hb in
theorem nilW_new : Blk (nilW w sb m n) w.heap.size 5 64 (fun _ => .int .u8 0) := by
  have hn := Blk.new (((w.setCell ⟨sb, 1035, none⟩ (.int .i8 0)).drewN m).setCell ⟨sb, 1033, none⟩ (.slice (some ⟨w.heap.size, 0, none⟩) n 64)) (madeCells #[.int .u8 0] 64) 5 (n := 64) (S := fun _ => .int .u8 0) (size_madeCells _ _) (fun i hi => by simp [madeCells, hi, Nat.mod_one])
  have hs : (((w.setCell ⟨sb, 1035, none⟩ (.int .i8 0)).drewN m).setCell ⟨sb, 1033, none⟩ (.slice (some ⟨w.heap.size, 0, none⟩) n 64)).heap.size = w.heap.size := by
    show (((w.setCell ⟨sb, 1035, none⟩ (.int .i8 0)).setCell ⟨sb, 1033, none⟩ (.slice (some ⟨w.heap.size, 0, none⟩) n 64))).heap.size = w.heap.size
    simp
  rw [hs] at hn
  exact hn
omit hb in
theorem nilW_only : Only (fun k => k = sb) w (nilW w sb m n) :=
  ((((Only.refl (fun k => k = sb) w).setCell (p := ⟨sb, 1035, none⟩) (fun _ => rfl) _).drewN m).setCell (p := ⟨sb, 1033, none⟩) (fun _ => rfl) _).alloc _
theorem write_nil_end (hB : B ≤ w.heap.size) (e34 : S 1034 = .int .i64 0) (hle : y.length ≤ 64) (hn : n = y.length) : Wrote sb B S y none w ((nilW w sb m n).setCells w.heap.size 0 (cellsOf y)) := by
  have hne : w.heap.size ≠ sb := by have := hb.lt; omega
  subst hn
  refine ⟨_, some w.heap.size, (nilW_sb sb S w hb m y.length).setCellsOther hne 0 (cellsOf y), ?_, ⟨?_, ⟨0, ?_⟩, hle, .inr ⟨_, rfl, ?_, hB, _, Blk.setCells (cellsOf y) 0 (nilW_new sb w m _), ?_⟩⟩, .inr ⟨rfl, _, rfl, Nat.le_refl _⟩, ?_⟩
  · intro i hi; rw [upd_other _ _ (by omega), upd_other _ _ (by omega)]
  · rw [upd_other _ _ (by omega), upd_other _ _ (by omega)]; exact e34
  · rw [upd_other _ _ (by omega), upd_same]
  · rw [upd_same]
  · intro i hi
    have := updL_in (fun _ => Value.int .u8 0) (o := 0) (j := i) (cellsOf y) (by rw [length_cells]; exact hi)
    simpa [cellsOf] using this
  · exact Only.setCells (fun h => absurd h (by omega)) _ _ ((nilW_only sb w m _).mono (fun i _ h => .inl h))
end

set_option maxRecDepth 100000 in
set_option maxHeartbeats 2000000 in
theorem write_nil (sb B : Nat) (S : Nat → Value) (w : World) (hb : Blk w sb 96 1048 S) (hB : B ≤ w.heap.size) (ht : TB w B S [] none) (y : Bs) (pa : Addr) (pc : Nat)
    (hy : ∀ j v, (cellsOf y)[j]? = some v → w.cell? (pa.add j) = some v) (hp : pa.block ≠ sb ∨ pa.off + y.length ≤ 1033) (hn : 0 < y.length) (hle : y.length ≤ 64) :
   Calls Tryz.prog 128 #[.pointer (some ⟨sb, 1033, none⟩), .slice (some pa) y.length pc] w (WriteNil sb B S y w) := by
  obtain ⟨e34, ⟨m, e35⟩, _, ⟨_, e33, _⟩ | ⟨k, hk, _⟩⟩ := ht
  case inr => cases hk
  have h33 := hb.cell_eq (i := 1033) (by decide) e33
  have h34 := hb.cell_eq (i := 1034) (by decide) e34
  have h35 := hb.cell_eq (i := 1035) (by decide) e35
  have f33 := hb.frozen 1033
  have f35 := hb.frozen 1035
  have hlt : sb < w.heap.size := hb.lt
  obtain ⟨n, hn'⟩ : ∃ n, n = y.length := ⟨_, rfl⟩
  have hfin := fun m => write_nil_end sb B S w hb y m n hB e34 hle hn'
  have Hfin := Lib.hid hfin
  have Hy := Lib.hid hy
  have Hb := Lib.hid hb
  have Hn' := Lib.hid hn'
  rw [← hn'] at hn hle hp ⊢
  clear hfin hy hb e33 e34 e35 hn'
  go_enter Tryz.func128, Tryz.ntmps128
  go_wp2_with fail
  refine (tryGrow_no _ _ none 0 0 n (by omega) (by omega) (by omega) (by omega) ?_).mono ?_
  · go_cell
  rintro e w1 ⟨rfl, rfl⟩
  go_wp2_with fail
  refine (grow_nil _ _ n hn hle ?_ ?_ ?_ ?_).mono ?_
  · go_cell
  · go_cell
  · simpa using f33
  · simpa using hlt
  rintro e w1 ⟨rfl, m1, rfl⟩
  go_wp2_with fail
  rw [run_copy_cells (P := Tryz.prog) _ _ _ _ 5 w.heap.size 0 n 64 pa n pc (cellsOf y) Tryz.underlying84 info_u8 ?c1 ?c2 ?c3 ?c4 (oneCell_cells y)]
  case c1 => rw [length_cells, ← Hn'.out]; exact (Nat.min_self n).symm
  case c2 =>
    intro j v hj
    have hjl : j < n := by
      have := (List.getElem?_eq_some_iff.1 hj).1
      rw [length_cells, ← Hn'.out] at this; exact this
    exact nilW_old sb w m1 n (Hy.out j v hj) (add_ne (by simp; omega)) (add_ne (by simp; omega))
  case c3 => intro j hj; rw [length_cells, ← Hn'.out] at hj; have := (nilW_new sb w m1 n).cell (i := 0 + j) (by omega); exact Option.isSome_iff_exists.2 ⟨_, this⟩
  case c4 => intro j _; exact (nilW_new sb w m1 n).frozen _
  go_wp2
  go_ret2
  exact ⟨by rw [length_cells, ← Hn'.out]; rfl, Hfin.out m1⟩

def WriteAny (sb B : Nat) (S : Nat → Value) (x y : Bs) (tk : Option Nat) (w : World) (e : Ending) (w' : World) : Prop := e = .returned (.tuple #[.int .i64 y.length, .nilIface]) ∧ Wrote sb B S (x ++ y) tk w w'

/-- Nothing is written into what is not made yet. -/
theorem write_none_end (sb B : Nat) (S : Nat → Value) (w : World) (hb : Blk w sb 96 1048 S) (e34 : S 1034 = .int .i64 0) : Wrote sb B S ([] ++ []) none w ((w.setCell ⟨sb, 1035, none⟩ (.int .i8 0)).setCell ⟨sb, 1033, none⟩ (.slice none 0 0)) := by
  refine ⟨_, none, (hb.set 1035 _).set 1033 _, ?_, ⟨?_, ⟨0, ?_⟩, by simp, .inl ⟨rfl, ?_, rfl⟩⟩, .inl rfl, ?_⟩
  · intro i hi; rw [upd_other _ _ (by omega), upd_other _ _ (by omega)]
  · rw [upd_other _ _ (by omega), upd_other _ _ (by omega)]; exact e34
  · rw [upd_other _ _ (by omega), upd_same]
  · rw [upd_same]
  · exact ((Only.refl (fun k => k = sb ∨ none = some k) w).setCell (p := ⟨sb, 1035, none⟩) (fun _ => .inl rfl) _).setCell (p := ⟨sb, 1033, none⟩) (fun _ => .inl rfl) _

set_option maxRecDepth 100000 in
set_option maxHeartbeats 2000000 in
theorem write_none (sb B : Nat) (S : Nat → Value) (w : World) (hb : Blk w sb 96 1048 S) (ht : TB w B S [] none) (pa : Addr) (pc : Nat) :
   Calls Tryz.prog 128 #[.pointer (some ⟨sb, 1033, none⟩), .slice (some pa) 0 pc] w (WriteAny sb B S [] [] none w) := by
  obtain ⟨e34, ⟨m, e35⟩, _, ⟨_, e33, _⟩ | ⟨k, hk, _⟩⟩ := ht
  case inr => cases hk
  have h33 := hb.cell_eq (i := 1033) (by decide) e33
  have h34 := hb.cell_eq (i := 1034) (by decide) e34
  have h35 := hb.cell_eq (i := 1035) (by decide) e35
  have f33 := hb.frozen 1033
  have f35 := hb.frozen 1035
  have hfin := write_none_end sb B S w hb e34
  have Hfin := Lib.hid hfin
  clear hfin hb e33 e34 e35
  go_enter Tryz.func128, Tryz.ntmps128
  go_wp2_with fail
  refine (tryGrow_yes _ _ none 0 0 0 (by omega) (by omega) ?_ ?_).mono ?_
  · go_cell
  · simpa using f33
  rintro e w1 ⟨rfl, rfl⟩
  go_wp2_with fail
  rw [run_copy_none (P := Tryz.prog) _ _ _ _ 5 _ _ _ _ _ _ Tryz.underlying84 info_u8 (by rfl)]
  go_wp2
  go_ret2
  exact ⟨rfl, Hfin.out⟩

/-- There is a row of 64 bytes, and room in it. -/
theorem write_some_end (sb B k : Nat) (S : Nat → Value) (w : World) (hb : Blk w sb 96 1048 S) (x y : Bs) (ht : TB w B S x (some k)) (hle : x.length + y.length ≤ 64) (n : Nat) (hn : n = x.length + y.length) :
    Wrote sb B S (x ++ y) (some k) w (((w.setCell ⟨sb, 1035, none⟩ (.int .i8 0)).setCell ⟨sb, 1033, none⟩ (.slice (some ⟨k, 0, none⟩) n 64)).setCells k x.length (cellsOf y)) := by
  obtain ⟨e34, _, _, ⟨hk, _⟩ | ⟨k', hk, e33, hBk, F, hF, hx⟩⟩ := ht
  · cases hk
  obtain rfl := Option.some.inj hk
  subst hn
  have hne : k ≠ sb := hF.ne hb (by decide)
  refine ⟨_, some k, ((hb.set 1035 _).set 1033 _).setCellsOther hne _ _, ?_, ⟨?_, ⟨0, ?_⟩, by simpa using hle, .inr ⟨k, rfl, ?_, hBk, _, Blk.setCells (cellsOf y) x.length ((hF.setOther (a := ⟨sb, 1035, none⟩) (fun e => hne e.symm) _).setOther (a := ⟨sb, 1033, none⟩) (fun e => hne e.symm) _), ?_⟩⟩, .inl rfl, ?_⟩
  · intro i hi; rw [upd_other _ _ (by omega), upd_other _ _ (by omega)]
  · rw [upd_other _ _ (by omega), upd_other _ _ (by omega)]; exact e34
  · rw [upd_other _ _ (by omega), upd_same]
  · rw [upd_same, List.length_append]
  · intro i hi
    rw [List.length_append] at hi
    by_cases h : i < x.length
    · rw [updL_out _ _ (.inl h), hx i h, List.getElem_append_left h]
    · obtain ⟨j, rfl⟩ : ∃ j, i = x.length + j := ⟨i - x.length, by omega⟩
      have := updL_in F (o := x.length) (j := j) (cellsOf y) (by rw [length_cells]; omega)
      rw [this]; simp [cellsOf]
  · exact Only.setCells (fun _ => .inr rfl) _ _ (((Only.refl (fun k' => k' = sb ∨ some k = some k') w).setCell (p := ⟨sb, 1035, none⟩) (fun _ => .inl rfl) _).setCell (p := ⟨sb, 1033, none⟩) (fun _ => .inl rfl) _)

set_option maxRecDepth 100000 in
set_option maxHeartbeats 2000000 in
theorem write_full (sb B k : Nat) (S : Nat → Value) (w : World) (hb : Blk w sb 96 1048 S) (x : Bs) (ht : TB w B S x (some k)) (pa : Addr) (pc : Nat) (h64 : x.length = 64) :
   Calls Tryz.prog 128 #[.pointer (some ⟨sb, 1033, none⟩), .slice (some pa) 0 pc] w (WriteAny sb B S x [] (some k) w) := by
  have hfin := write_some_end sb B k S w hb x [] ht (by simp; omega) 64 (by simp; omega)
  obtain ⟨e34, ⟨m, e35⟩, _, ⟨hk, _⟩ | ⟨k', hk, e33, hBk, F, hF, hx⟩⟩ := ht
  · cases hk
  obtain rfl := Option.some.inj hk
  rw [h64] at e33
  have h33 := hb.cell_eq (i := 1033) (by decide) e33
  have h34 := hb.cell_eq (i := 1034) (by decide) e34
  have h35 := hb.cell_eq (i := 1035) (by decide) e35
  have f33 := hb.frozen 1033
  have f35 := hb.frozen 1035
  have Hfin := Lib.hid hfin
  have H64 := Lib.hid h64
  clear hfin hb e33 e34 e35 hF hx h64
  go_enter Tryz.func128, Tryz.ntmps128
  go_wp2_with fail
  refine (tryGrow_yes _ _ (some ⟨k, 0, none⟩) 64 64 0 (by omega) (by omega) ?_ ?_).mono ?_
  · go_cell
  · simpa using f33
  rintro e w1 ⟨rfl, rfl⟩
  go_wp2_with fail
  rw [run_copy_none (P := Tryz.prog) _ _ _ _ 5 _ _ _ _ _ _ Tryz.underlying84 info_u8 (by rfl)]
  go_wp2
  go_ret2
  exact ⟨rfl, Hfin.out⟩

set_option maxRecDepth 100000 in
set_option maxHeartbeats 2000000 in
theorem write_some (sb B k : Nat) (S : Nat → Value) (w : World) (hb : Blk w sb 96 1048 S) (x y : Bs) (ht : TB w B S x (some k)) (pa : Addr) (pc : Nat)
    (hy : ∀ j v, (cellsOf y)[j]? = some v → w.cell? (pa.add j) = some v) (hp : pa.block ≠ sb ∨ pa.off + y.length ≤ 1033) (hle : x.length + y.length ≤ 64) :
   Calls Tryz.prog 128 #[.pointer (some ⟨sb, 1033, none⟩), .slice (some pa) y.length pc] w (WriteAny sb B S x y (some k) w) := by
  rcases Nat.lt_or_ge x.length 64 with hl64 | hge64
  rotate_left
  · obtain rfl : y = [] := List.eq_nil_of_length_eq_zero (by omega)
    exact write_full sb B k S w hb x ht pa pc (by omega)
  obtain ⟨l, hl⟩ : ∃ l, l = x.length := ⟨_, rfl⟩
  obtain ⟨n, hn⟩ : ∃ n, n = y.length := ⟨_, rfl⟩
  have hfin := write_some_end sb B k S w hb x y ht (by omega) (l + n) (by omega)
  obtain ⟨e34, ⟨m, e35⟩, _, ⟨hk, _⟩ | ⟨k', hk, e33, hBk, F, hF, hx⟩⟩ := ht
  · cases hk
  obtain rfl := Option.some.inj hk
  have hne : k ≠ sb := hF.ne hb (by decide)
  rw [← hl] at e33
  have h33 := hb.cell_eq (i := 1033) (by decide) e33
  have h34 := hb.cell_eq (i := 1034) (by decide) e34
  have h35 := hb.cell_eq (i := 1035) (by decide) e35
  have f33 := hb.frozen 1033
  have f35 := hb.frozen 1035
  have Hfin := Lib.hid hfin
  have Hy := Lib.hid hy
  have HF := Lib.hid hF
  have Hn := Lib.hid hn
  have Hl := Lib.hid hl
  have Hne := Lib.hid hne
  rw [← hl] at hle hl64
  rw [← hn] at hle hp ⊢
  clear hfin hb e33 e34 e35 hy hF hx hn hl hne
  go_enter Tryz.func128, Tryz.ntmps128
  go_wp2_with fail
  refine (tryGrow_yes _ _ (some ⟨k, 0, none⟩) l 64 n (by omega) (by omega) ?_ ?_).mono ?_
  · go_cell
  · simpa using f33
  rintro e w1 ⟨rfl, rfl⟩
  go_wp2_with fail
  rw [run_copy_cells (P := Tryz.prog) _ _ _ _ 5 k l n (64 - l) pa n pc (cellsOf y) Tryz.underlying84 info_u8 ?c1 ?c2 ?c3 ?c4 (oneCell_cells y)]
  case c1 => rw [length_cells, ← Hn.out]; exact (Nat.min_self n).symm
  case c2 =>
    intro j v hj
    have hjl : j < n := by
      have := (List.getElem?_eq_some_iff.1 hj).1
      rw [length_cells, ← Hn.out] at this; exact this
    exact cell_setCell_ne (cell_setCell_ne (Hy.out j v hj) (add_ne (by simp; omega))) (add_ne (by simp; omega))
  case c3 =>
    intro j hj; rw [length_cells, ← Hn.out] at hj
    exact Option.isSome_iff_exists.2 ⟨_, ((HF.out.setOther (a := ⟨sb, 1035, none⟩) (fun e => Hne.out e.symm) _).setOther (a := ⟨sb, 1033, none⟩) (fun e => Hne.out e.symm) _).cell (i := l + j) (by omega)⟩
  case c4 => intro j _; exact ((HF.out.setOther (a := ⟨sb, 1035, none⟩) (fun e => Hne.out e.symm) _).setOther (a := ⟨sb, 1033, none⟩) (fun e => Hne.out e.symm) _).frozen _
  go_wp2
  go_ret2
  exact ⟨by rw [length_cells, ← Hn.out]; rfl, by rw [Hl.out] at Hfin ⊢; exact Hfin.out⟩

/-- WRITE, WHATEVER HAS BEEN MADE. -/
theorem write_any (sb B : Nat) (tk : Option Nat) (S : Nat → Value) (w : World) (hb : Blk w sb 96 1048 S) (hB : B ≤ w.heap.size) (x y : Bs) (ht : TB w B S x tk) (pa : Addr) (pc : Nat)
    (hy : ∀ j v, (cellsOf y)[j]? = some v → w.cell? (pa.add j) = some v) (hp : pa.block ≠ sb ∨ pa.off + y.length ≤ 1033) (hle : x.length + y.length ≤ 64) :
   Calls Tryz.prog 128 #[.pointer (some ⟨sb, 1033, none⟩), .slice (some pa) y.length pc] w (WriteAny sb B S x y tk w) := by
  cases tk with
  | some k => exact write_some sb B k S w hb x y ht pa pc hy hp hle
  | none =>
    have hx : x = [] := by
      obtain ⟨_, _, _, ⟨_, _, h⟩ | ⟨k, h, _⟩⟩ := ht
      · exact h
      · cases h
    subst hx
    cases y with
    | nil => exact write_none sb B S w hb ht pa pc
    | cons c y => exact write_nil sb B S w hb hB ht (c :: y) pa pc hy hp (by simp) (by simp at hle ⊢; omega)

/-- RESET: the bytes are gone, the row stays. -/
def ResetB (sb B : Nat) (S : Nat → Value) (tk : Option Nat) (w w' : World) : Prop :=
  ∃ S', Blk w' sb 96 1048 S' ∧ (∀ i, i < 1033 ∨ 1035 < i → S' i = S i) ∧ TB w' B S' [] tk ∧ Only (fun k => k = sb) w w'

theorem reset_end (sb B : Nat) (S : Nat → Value) (tk : Option Nat) (w : World) (hb : Blk w sb 96 1048 S) (x : Bs) (ht : TB w B S x tk) (v : Value)
    (hv : (tk = none ∧ v = .slice none 0 0) ∨ ∃ k, tk = some k ∧ v = .slice (some ⟨k, 0, none⟩) 0 64) :
    ResetB sb B S tk w (((w.setCell ⟨sb, 1033, none⟩ v).setCell ⟨sb, 1034, none⟩ (.int .i64 0)).setCell ⟨sb, 1035, none⟩ (.int .i8 0)) := by
  refine ⟨_, ((hb.set 1033 _).set 1034 _).set 1035 _, ?_, ⟨?_, ⟨0, ?_⟩, by simp, ?_⟩, ?_⟩
  · intro i hi; rw [upd_other _ _ (by omega), upd_other _ _ (by omega), upd_other _ _ (by omega)]
  · rw [upd_other _ _ (by omega), upd_same]
  · rw [upd_same]
  · obtain ⟨_, _, _, ⟨rfl, _⟩ | ⟨k, rfl, _, hBk, F, hF, hx⟩⟩ := ht
    · rcases hv with ⟨_, rfl⟩ | ⟨k, hk, _⟩
      · exact .inl ⟨rfl, by rw [upd_other _ _ (by omega), upd_other _ _ (by omega), upd_same], rfl⟩
      · cases hk
    · rcases hv with ⟨hk, _⟩ | ⟨k', hk, rfl⟩
      · cases hk
      · obtain rfl := Option.some.inj hk
        have hne : sb ≠ k := hb.ne hF (by decide)
        exact .inr ⟨k, rfl, by rw [upd_other _ _ (by omega), upd_other _ _ (by omega), upd_same]; rfl, hBk, F, ((hF.setOther hne _).setOther hne _).setOther hne _, fun i hi => absurd hi (by simp)⟩
  · exact (((Only.refl (fun k => k = sb) w).setCell (p := ⟨sb, 1033, none⟩) (fun _ => rfl) _).setCell (p := ⟨sb, 1034, none⟩) (fun _ => rfl) _).setCell (p := ⟨sb, 1035, none⟩) (fun _ => rfl) _

def ResetAny (sb B : Nat) (S : Nat → Value) (tk : Option Nat) (w : World) (e : Ending) (w' : World) : Prop := e = .returned (.tuple #[]) ∧ ResetB sb B S tk w w'

set_option maxRecDepth 100000 in
set_option maxHeartbeats 2000000 in
theorem reset_any (sb B : Nat) (tk : Option Nat) (S : Nat → Value) (w : World) (hb : Blk w sb 96 1048 S) (x : Bs) (ht : TB w B S x tk) :
   Calls Tryz.prog 118 #[.pointer (some ⟨sb, 1033, none⟩)] w (ResetAny sb B S tk w) := by
  have hfin := reset_end sb B S tk w hb x ht
  obtain ⟨e34, ⟨m, e35⟩, hlen, h⟩ := ht
  have h34 := hb.cell_eq (i := 1034) (by decide) e34
  have h35 := hb.cell_eq (i := 1035) (by decide) e35
  have f33 := hb.frozen 1033
  have f34 := hb.frozen 1034
  have f35 := hb.frozen 1035
  have Hfin := Lib.hid hfin
  clear hfin e34 e35
  rcases h with ⟨rfl, e33, rfl⟩ | ⟨k, rfl, e33, -, -⟩
  · have h33 := hb.cell_eq (i := 1033) (by decide) e33
    clear hb e33
    go_enter Tryz.func118, Tryz.ntmps118
    go_wp2
    go_end0
    exact ⟨rfl, Hfin.out _ (.inl (by simp))⟩
  · have h33 := hb.cell_eq (i := 1033) (by decide) e33
    clear hb e33
    go_enter Tryz.func118, Tryz.ntmps118
    go_wp2
    go_end0
    exact ⟨rfl, Hfin.out _ (.inr ⟨k, by simp⟩)⟩

set_option maxRecDepth 100000 in
set_option maxHeartbeats 2000000 in
theorem string_any (sb B : Nat) (tk : Option Nat) (S : Nat → Value) (w : World) (hb : Blk w sb 96 1048 S) (x : Bs) (ht : TB w B S x tk) :
   Calls Tryz.prog 129 #[.pointer (some ⟨sb, 1033, none⟩)] w fun e w' => e = .returned (.string (mkS x)) ∧ ∃ m, w' = w.drewN m := by
  obtain ⟨e34, ⟨m, e35⟩, hlen, h⟩ := ht
  have h34 := hb.cell_eq (i := 1034) (by decide) e34
  rcases h with ⟨rfl, e33, rfl⟩ | ⟨k, rfl, e33, _, F, hF, hx⟩
  · have h33 := hb.cell_eq (i := 1033) (by decide) e33
    have hrun := fun nq => run_convert_cells (P := Tryz.prog) (w.drewN nq) 84 9 5 Tryz.underlying84 Tryz.underlying5 Tryz.underlying9 none 0 [] (fun _ => rfl) (fun _ h => by cases h)
    simp only [List.length_nil] at hrun
    clear hb e33
    go_enter Tryz.func129, Tryz.ntmps129
    go_wp2
    go_quiet (fail)
    go_wp2
    go_ret
    exact ⟨rfl, _, rfl⟩
  · have h33 := hb.cell_eq (i := 1033) (by decide) e33
    obtain ⟨l, hl⟩ : ∃ l, l = x.length := ⟨_, rfl⟩
    have hrun := fun nq => run_convert_cells (P := Tryz.prog) (w.drewN nq) 84 9 5 Tryz.underlying84 Tryz.underlying5 Tryz.underlying9 (some ⟨k, 0, none⟩) 64 x (fun h => by cases h) (fun a ha j v hj => by
      obtain rfl := Option.some.inj ha
      have hjl := (List.getElem?_eq_some_iff.1 hj).1
      rw [List.length_map] at hjl
      have := hF.cell_eq (i := j) (by omega) (hx j hjl)
      rw [Addr.add_lit, Nat.zero_add]
      simp [hjl] at hj
      subst hj
      exact this)
    rw [← hl] at hrun h33 hlen
    clear hb e33 hF hx
    have Hl := Lib.hid hl
    clear hl
    go_enter Tryz.func129, Tryz.ntmps129
    go_wp2
    go_quiet (fail)
    go_wp2
    go_ret
    exact ⟨rfl, _, rfl⟩
theorem run_copy_string {P : Program} (w : World) (dT sT ty elem : TypeId) (b o dLen dCap : Nat) (s : ByteArray) (cs : List Value)
    (hu : P.underlying dT = some (.slice elem)) (hs : (P.info? elem).map (·.size) = some 1) (hcs : cs = (cellsOf s.data.toList).take (Nat.min s.size dLen))
    (hc : ∀ j, j < cs.length → (w.cell? ⟨b, o + j, none⟩).isSome = true) (hf : ∀ j, j < cs.length → w.frozen? ⟨b, o + j, none⟩ = false) :
    (Builtin.copy_ #[dT, sT] ty #[.slice (some ⟨b, o, none⟩) dLen dCap, .string s]).run P w = .ok (.int .i64 (Nat.min s.size dLen)) (w.setCells b o cs) := by
  have h1 : ∀ v ∈ cs, v.oneCell' = true := fun v hv => by rw [hcs] at hv; exact oneCell_cells _ v (List.mem_of_mem_take hv)
  have hst := run_storeCells_cells (P := P) b o cs 0 w (by simpa using hc) (by simpa using hf) h1
  have he : (s.extract 0 (Nat.min s.size dLen)).data.map (fun c => Value.int .u8 c.toNat) = cs.toArray := by
    rw [hcs]
    apply Array.ext'
    simp [cellsOf, List.map_take]
  cases hq : P.info? elem with
  | none => simp [hq] at hs
  | some i =>
    have hi : i.size = 1 := by simpa [hq] using hs
    rw [Nat.add_zero] at hst
    have he' : (List.take (s.size.min dLen) (List.map (fun b => Value.int .u8 ↑b.toNat) s.data.toList)) = cs := by rw [hcs]; rfl
    simp [Builtin.copy_, run_underlying hu, Builtin.lenOf, Builtin.firstCells, sizeOf, typeInfo, hq, hi, he', hst]
    rfl

/-- What is left of a text behind its first n bytes. -/
theorem extract_mkS (x : Bs) (n : Nat) : (mkS x).extract n (mkS x).size = mkS (x.drop n) := by
  apply ByteArray.ext
  apply Array.ext'
  simp only [ByteArray.data_extract, Array.toList_extract, mkS, ByteArray.size, List.size_toArray, List.extract_eq_take_drop]
  exact List.take_of_length_le (by rw [List.length_drop]; omega)
theorem mkS_toList (x : Bs) : (mkS x).toList = x := ByteArray.toList_mk x
theorem mkS_nonempty {x : Bs} (h : x ≠ []) : (mkS x).toList.isEmpty = false := by
  rw [mkS_toList]; cases x
  · exact absurd rfl h
  · rfl

set_option maxRecDepth 100000 in
set_option maxHeartbeats 2000000 in
theorem reader_end (rb : Nat) (w : World) (v : Value) (bv : Value) (s : ByteArray) (h0 : w.cell? ⟨rb, 0, none⟩ = some (.string s)) (h1 : w.cell? ⟨rb, 1, none⟩ = some (.int .i64 s.size)) (hE : w.cell? ⟨5, 0, none⟩ = some v) :
   Calls Tryz.prog 228 #[.pointer (some ⟨rb, 0, none⟩), bv] w fun e w' => e = .returned (.tuple #[.int .i64 0, v]) ∧ ∃ m, w' = w.drewN m := by
  go_enter Tryz.func228, Tryz.ntmps228
  go_wp2
  go_quiet (fail)
  go_wp2
  go_quiet (fail)
  go_wp2
  go_ret2
  exact ⟨rfl, _, World.drewN_drewN _ _ _⟩

set_option maxRecDepth 100000 in
set_option maxHeartbeats 2000000 in
theorem reader_read (rb b o n c : Nat) (w : World) (s : ByteArray) (i : Nat) (hi : i < s.size) (hs2 : s.size < 1000000) (hn : n < 1000000) (h0 : w.cell? ⟨rb, 0, none⟩ = some (.string s)) (h1 : w.cell? ⟨rb, 1, none⟩ = some (.int .i64 i)) (p : Int) (h2 : w.cell? ⟨rb, 2, none⟩ = some (.int .i64 p)) (f1 : w.frozen? ⟨rb, 1, none⟩ = false) (f2 : w.frozen? ⟨rb, 2, none⟩ = false)
    (hbr : b ≠ rb) (hc : ∀ j, j < n → (w.cell? ⟨b, o + j, none⟩).isSome = true) (hf : ∀ j, j < n → w.frozen? ⟨b, o + j, none⟩ = false) :
   Calls Tryz.prog 228 #[.pointer (some ⟨rb, 0, none⟩), .slice (some ⟨b, o, none⟩) n c] w fun e w' => e = .returned (.tuple #[.int .i64 (Nat.min (s.size - i) n), .nilIface]) ∧
     ∃ m, (((w.drewN m).setCell ⟨rb, 2, none⟩ (.int .i64 (-1))).setCells b o ((cellsOf (s.data.toList.drop i)).take (Nat.min (s.size - i) n))).setCell ⟨rb, 1, none⟩ (.int .i64 (i + Nat.min (s.size - i) n : Nat)) = w' := by
  obtain ⟨N, hN⟩ : ∃ N, Nat.min (s.size - i) n = N := ⟨_, rfl⟩
  have hm1 : N ≤ s.size - i := hN ▸ Nat.min_le_left _ _
  have hrun := fun (w1 : World) (hc : ∀ j, j < n → (w1.cell? ⟨b, o + j, none⟩).isSome = true) (hf : ∀ j, j < n → w1.frozen? ⟨b, o + j, none⟩ = false) => run_copy_string (P := Tryz.prog) w1 84 9 3 5 b o n c (s.extract i s.size) _ Tryz.underlying84 info_u8 rfl (fun j hj => hc j (by simp at hj; omega)) (fun j hj => hf j (by simp at hj; omega))
  have hsz : (s.extract i s.size).size = s.size - i := by simp
  have hda : (s.extract i s.size).data.toList = s.data.toList.drop i := by rw [Lib.extract_to_end]
  rw [hsz, hda, hN] at hrun
  rw [hN]
  have Hrun := Lib.hid hrun
  have Hc := Lib.hid hc
  have Hf := Lib.hid hf
  clear hrun hN hsz hda hc hf
  go_enter Tryz.func228, Tryz.ntmps228
  go_wp2
  go_quiet (fail)
  go_wp2
  have k0 : ((w.drewN nq).setCell ⟨rb, 2, none⟩ (.int .i64 (-1))).cell? ⟨rb, 0, none⟩ = some (.string s) := cell_setCell_ne h0 (by simp)
  have k1 : ((w.drewN nq).setCell ⟨rb, 2, none⟩ (.int .i64 (-1))).cell? ⟨rb, 1, none⟩ = some (.int .i64 i) := cell_setCell_ne h1 (by simp)
  have g1 : ((w.drewN nq).setCell ⟨rb, 2, none⟩ (.int .i64 (-1))).frozen? ⟨rb, 1, none⟩ = false := by rw [World.frozen?_setCell]; exact f1
  have kc : ∀ j, j < n → (((w.drewN nq).setCell ⟨rb, 2, none⟩ (.int .i64 (-1))).cell? ⟨b, o + j, none⟩).isSome = true := fun j hj => by
    rw [World.cell?_setCell_other _ _ _ _ (fun e => hbr (by injection e with e1; exact e1.symm))]; exact Hc.out j hj
  have kf : ∀ j, j < n → ((w.drewN nq).setCell ⟨rb, 2, none⟩ (.int .i64 (-1))).frozen? ⟨b, o + j, none⟩ = false := fun j hj => by
    rw [World.frozen?_setCell]; exact Hf.out j hj
  generalize hW : (w.drewN nq).setCell ⟨rb, 2, none⟩ (.int .i64 (-1)) = w1 at k0 k1 g1 kc kf ⊢
  have HW := Lib.hid hW
  have hr := Hrun.out w1.drew kc kf
  have k1' : (w1.drew.setCells b o (List.take N (cellsOf (List.drop i s.data.toList)))).cell? ⟨rb, 1, none⟩ = some (.int .i64 i) := by
    rw [World.cell?_setCells_out _ _ _ _ _ (fun e => absurd e (fun e => hbr e.symm))]; exact k1
  have g1' : (w1.drew.setCells b o (List.take N (cellsOf (List.drop i s.data.toList)))).frozen? ⟨rb, 1, none⟩ = false := by
    rw [World.frozen?_setCells]; exact g1
  have Hr := Lib.hid hr
  clear hW kc kf hr
  have hile : i ≤ s.size := by omega
  have hile2 : (i : Int) ≤ (s.size : Int) := by omega
  go_still_tail 10, (by kernel_rfl)
  change wpList _ _ _ _ _ w1.drew
  go_wp2_with fail
  rw [Hr.out]
  go_wp2
  go_ret2
  refine ⟨rfl, nq + 1, ?_⟩
  rw [← HW.out, Int.natCast_add]
  rfl

/-- v is a reader that has rest to give: impl's source, or a strings.Reader; its block is rb. -/
def Rdr (w : World) (B : Nat) (v : Value) (rb : Nat) (rest : Bs) : Prop :=
  B ≤ rb ∧
  ((v = .iface 15 (.pointer (some ⟨rb, 0, none⟩)) ∧ ∃ S z, Blk w rb 11 2 S ∧ S 0 = .string (mkS rest) ∧ S 1 = .int .i64 (z : Nat) ∧ rest.length ≤ z ∧ z < 1000000 ∧ False) ∨
   (v = .iface 63 (.pointer (some ⟨rb, 0, none⟩)) ∧ ∃ S t i p, Blk w rb 104 3 S ∧ S 0 = .string (mkS t) ∧ S 1 = .int .i64 (i : Nat) ∧ S 2 = .int .i64 p ∧ i ≤ t.length ∧ t.drop i = rest ∧ t.length < 1000000))

theorem Rdr.only {w w' : World} {B : Nat} {v : Value} {rb : Nat} {rest : Bs} {D : Nat → Prop} (h : Rdr w B v rb rest) (ho : Only D w w') (hd : ¬ D rb) : Rdr w' B v rb rest := by
  obtain ⟨hB, ⟨e, S, z, hb, h2⟩ | ⟨e, S, t, i, p, hb, h2⟩⟩ := h
  · exact ⟨hB, .inl ⟨e, S, z, hb.only ho hd, h2⟩⟩
  · exact ⟨hB, .inr ⟨e, S, t, i, p, hb.only ho hd, h2⟩⟩

def ReadSome (B : Nat) (v : Value) (rb b o n : Nat) (rest : Bs) (w : World) (e : Ending) (w' : World) : Prop :=
  e = .returned (.tuple #[.int .i64 (Nat.min rest.length n : Nat), .nilIface]) ∧ Rdr w' B v rb (rest.drop (Nat.min rest.length n)) ∧
  (∀ T m S, Blk w b T m S → Blk w' b T m (updL S o (cellsOf (rest.take (Nat.min rest.length n))))) ∧ Only (fun k => k = b ∨ k = rb) w w'

theorem cellsOf_take (x : Bs) (n : Nat) : (cellsOf x).take n = cellsOf (x.take n) := by simp [cellsOf, List.map_take]

theorem read_some_reader (B : Nat) (rb b o n c : Nat) (rest : Bs) (w : World) (hr : Rdr w B (.iface 63 (.pointer (some ⟨rb, 0, none⟩))) rb rest) (hne : rest ≠ []) (hn : n < 1000000) (hbr : b ≠ rb) (hc : ∀ j, j < n → (w.cell? ⟨b, o + j, none⟩).isSome = true) (hf : ∀ j, j < n → w.frozen? ⟨b, o + j, none⟩ = false) :
    Calls Tryz.prog 228 #[.pointer (some ⟨rb, 0, none⟩), .slice (some ⟨b, o, none⟩) n c] w (ReadSome B (.iface 63 (.pointer (some ⟨rb, 0, none⟩))) rb b o n rest w) := by
  obtain ⟨hB, ⟨e, _⟩ | ⟨e, S, t, i, p, hb, e0, e1, e2, hi, ht, hl2⟩⟩ := hr
  case inl => simp at e
  have hl : 0 < rest.length := List.length_pos_iff.2 hne
  have hlen : rest.length = t.length - i := by rw [← ht, List.length_drop]
  refine (reader_read rb b o n c w (mkS t) i (by rw [mkS_size]; omega) (by rw [mkS_size]; omega) hn (hb.cell_eq (by decide) e0) (hb.cell_eq (by decide) e1) p (hb.cell_eq (by decide) e2) (hb.frozen 1) (hb.frozen 2) hbr hc hf).mono ?_
  rintro e w' ⟨rfl, m, rfl⟩
  rw [mkS_size, mkS_data, cellsOf_take, ← hlen, ht]
  refine ⟨rfl, ⟨hB, .inr ⟨rfl, _, t, i + Nat.min rest.length n, -1, ((((hb.drewN m).set 2 _).setCellsOther hbr _ _).set 1 _), ?_, ?_, ?_, ?_, ?_, hl2⟩⟩, ?_, ?_⟩
  · rw [upd_other _ _ (by omega), upd_other _ _ (by omega)]; exact e0
  · rw [upd_same]
  · rw [upd_other _ _ (by omega), upd_same]
  · have : Nat.min rest.length n ≤ rest.length := Nat.min_le_left _ _
    omega
  · rw [← List.drop_drop, ht]
  · intro T m' S' hS
    exact (Blk.setCells _ _ ((hS.drewN m).setOther (fun e => hbr e.symm) _)).setOther (fun e => hbr e.symm) _
  · exact (Only.setCells (D := fun k => k = b ∨ k = rb) (fun _ => .inl rfl) _ _ (((Only.refl _ w).drewN m).setCell (p := ⟨rb, 2, none⟩) (fun _ => .inr rfl) _)).setCell (p := ⟨rb, 1, none⟩) (fun _ => .inr rfl) _

def ReadNone (v : Value) (w : World) (e : Ending) (w' : World) : Prop := e = .returned (.tuple #[.int .i64 0, v]) ∧ ∃ m, w' = w.drewN m

theorem read_none_reader (B : Nat) (rb : Nat) (bv : Value) (w : World) (hr : Rdr w B (.iface 63 (.pointer (some ⟨rb, 0, none⟩))) rb []) (v : Value) (hE : w.cell? ⟨5, 0, none⟩ = some v) :
    Calls Tryz.prog 228 #[.pointer (some ⟨rb, 0, none⟩), bv] w (ReadNone v w) := by
  obtain ⟨hB, ⟨e, _⟩ | ⟨e, S, t, i, p, hb, e0, e1, e2, hi, ht, hl2⟩⟩ := hr
  case inl => simp at e
  have hlen : ([] : Bs).length = t.length - i := by rw [← ht, List.length_drop]
  have : i = t.length := by simp at hlen; omega
  subst this
  exact reader_end rb w v bv (mkS t) (hb.cell_eq (by decide) e0) (hb.cell_eq (by decide) e1) hE
end Go.Proofs.YtpoimmpdncickaaGreatDoor

/- utf8.FullRune of one to three bytes of ASCII, whatever its tables hold: it answers, and turns nothing. -/
namespace Go.Proofs.YtpoimmpdncickaaGreatDoor
open Go Go.RowKit
set_option linter.unusedVariables false
def SomeBool (w : World) (e : Ending) (w' : World) : Prop := ∃ r, e = .returned (.bool r) ∧ Only (fun _ => False) w w'
set_option maxRecDepth 100000 in
set_option maxHeartbeats 2000000 in
theorem full_one (b o c : Nat) (w : World) (p0 x lo hi: Nat) (hp0 : p0 < 128) (hx : x < 256) (hnc : 1 ≤ c)
   (c0 : w.cell? ⟨b, o, none⟩ = some (.int .u8 p0))
   (hf : w.cell? ⟨6, p0, none⟩ = some (.int .u8 x))
   (hlo : w.cell? ⟨7, x / 16 * 2, none⟩ = some (.int .u8 lo)) (hhi : w.cell? ⟨7, x / 16 * 2 + 1, none⟩ = some (.int .u8 hi)) :
   Calls Tryz.prog 145 #[.slice (some ⟨b, o, none⟩) 1 c] w (SomeBool w) := by
  go_enter Tryz.func145, Tryz.ntmps145
  go_wp2
  all_goals first | (go_ret; exact ⟨_, rfl, Only.refl _ _⟩) | skip
  go_quiet (fail)
  go_wp2
  go_ret
  exact ⟨_, rfl, (((Only.refl _ w).alloc _).drewN _)⟩
set_option maxRecDepth 100000 in
set_option maxHeartbeats 4000000 in
theorem full_two (b o c : Nat) (w : World) (p0 p1 x lo hi: Nat) (hp0 : p0 < 128) (hp1 : p1 < 128) (hx : x < 256) (hnc : 2 ≤ c)
   (c0 : w.cell? ⟨b, o, none⟩ = some (.int .u8 p0)) (c1 : w.cell? ⟨b, o + 1, none⟩ = some (.int .u8 p1))
   (hf : w.cell? ⟨6, p0, none⟩ = some (.int .u8 x))
   (hlo : w.cell? ⟨7, x / 16 * 2, none⟩ = some (.int .u8 lo)) (hhi : w.cell? ⟨7, x / 16 * 2 + 1, none⟩ = some (.int .u8 hi)) :
   Calls Tryz.prog 145 #[.slice (some ⟨b, o, none⟩) 2 c] w (SomeBool w) := by
  have hlt := cell_lt c0
  simp only at hlt
  by_cases h1 : p1 < lo
  · go_enter Tryz.func145, Tryz.ntmps145
    go_wp2
    all_goals first | (go_ret; exact ⟨_, rfl, Only.refl _ _⟩) | skip
    go_quiet (fail)
    go_wp2
    go_ret
    exact ⟨_, rfl, (((Only.refl _ w).alloc _).drewN _)⟩
  · by_cases h2 : hi < p1
    all_goals
      go_enter Tryz.func145, Tryz.ntmps145
      go_wp2
      all_goals first | (go_ret; exact ⟨_, rfl, Only.refl _ _⟩) | skip
      go_quiet (fail)
      go_wp2
      all_goals first | (go_ret; exact ⟨_, rfl, (((Only.refl _ w).alloc _).drewN _)⟩) | skip
set_option maxRecDepth 100000 in
set_option maxHeartbeats 4000000 in
theorem full_three (b o c : Nat) (w : World) (p0 p1 p2 x lo hi: Nat) (hp0 : p0 < 128) (hp1 : p1 < 128) (hp2 : p2 < 128) (hx : x < 256) (hnc : 3 ≤ c)
   (c0 : w.cell? ⟨b, o, none⟩ = some (.int .u8 p0)) (c1 : w.cell? ⟨b, o + 1, none⟩ = some (.int .u8 p1)) (c2 : w.cell? ⟨b, o + 2, none⟩ = some (.int .u8 p2))
   (hf : w.cell? ⟨6, p0, none⟩ = some (.int .u8 x))
   (hlo : w.cell? ⟨7, x / 16 * 2, none⟩ = some (.int .u8 lo)) (hhi : w.cell? ⟨7, x / 16 * 2 + 1, none⟩ = some (.int .u8 hi)) :
   Calls Tryz.prog 145 #[.slice (some ⟨b, o, none⟩) 3 c] w (SomeBool w) := by
  have hlt := cell_lt c0
  simp only at hlt
  by_cases h1 : p1 < lo
  · go_enter Tryz.func145, Tryz.ntmps145
    go_wp2
    all_goals first | (go_ret; exact ⟨_, rfl, Only.refl _ _⟩) | skip
    go_quiet (fail)
    go_wp2
    go_ret
    exact ⟨_, rfl, (((Only.refl _ w).alloc _).drewN _)⟩
  · by_cases h2 : hi < p1
    all_goals
      go_enter Tryz.func145, Tryz.ntmps145
      go_wp2
      all_goals first | (go_ret; exact ⟨_, rfl, Only.refl _ _⟩) | skip
      go_quiet (fail)
      go_wp2
      all_goals first | (go_ret; exact ⟨_, rfl, (((Only.refl _ w).alloc _).drewN _)⟩) | skip

/-- What the scanner's functions read of the package-level variables: two tables of bytes, whatever they hold; the table of the first 256 characters' properties; io.EOF. -/
def props : List Nat := [1, 1, 1, 1, 1, 1, 1, 1, 1, 1, 1, 1, 1, 1, 1, 1, 1, 1, 1, 1, 1, 1, 1, 1, 1, 1, 1, 1, 1, 1, 1, 1, 144, 130, 130, 130, 136, 130, 130, 130, 130, 130, 130, 136, 130, 130, 130, 130, 132, 132, 132, 132, 132, 132, 132, 132, 132, 132, 130, 130, 136, 136, 136, 130, 130, 160, 160, 160, 160, 160, 160, 160, 160, 160, 160, 160, 160, 160, 160, 160, 160, 160, 160, 160, 160, 160, 160, 160, 160, 160, 160, 130, 130, 130, 136, 130, 136, 192, 192, 192, 192, 192, 192, 192, 192, 192, 192, 192, 192, 192, 192, 192, 192, 192, 192, 192, 192, 192, 192, 192, 192, 192, 192, 130, 136, 130, 136, 1, 1, 1, 1, 1, 1, 1, 1, 1, 1, 1, 1, 1, 1, 1, 1, 1, 1, 1, 1, 1, 1, 1, 1, 1, 1, 1, 1, 1, 1, 1, 1, 1, 16, 130, 136, 136, 136, 136, 136, 130, 136, 136, 224, 130, 136, 0, 136, 136, 136, 136, 132, 132, 136, 192, 130, 130, 136, 132, 224, 130, 132, 132, 132, 130, 160, 160, 160, 160, 160, 160, 160, 160, 160, 160, 160, 160, 160, 160, 160, 160, 160, 160, 160, 160, 160, 160, 160, 136, 160, 160, 160, 160, 160, 160, 160, 192, 192, 192, 192, 192, 192, 192, 192, 192, 192, 192, 192, 192, 192, 192, 192, 192, 192, 192, 192, 192, 192, 192, 192, 136, 192, 192, 192, 192, 192, 192, 192, 192]
structure Glob (w : World) (v : Value) : Prop where
  first : ∀ i, i < 256 → ∃ x, x < 256 ∧ w.cell? ⟨6, i, none⟩ = some (.int .u8 (x : Nat))
  ranges : ∀ i, i < 32 → ∃ x : Nat, w.cell? ⟨7, i, none⟩ = some (.int .u8 x)
  props : ∀ i, i < 256 → w.cell? ⟨0, i, none⟩ = some (.int .u8 (props.getD i 0 : Nat))
  eof : w.cell? ⟨5, 0, none⟩ = some v
  isEof : ∃ a, v = .iface 236 (.pointer (some a))

theorem Glob.only {w w' : World} {v : Value} {D : Nat → Prop} (h : Glob w v) (ho : Only D w w') (hd : ∀ k, k < 21 → ¬ D k) : Glob w' v :=
  ⟨fun i hi => let ⟨x, hx, hc⟩ := h.first i hi; ⟨x, hx, ho.cell hc (hd _ (by simp))⟩, fun i hi => let ⟨x, hc⟩ := h.ranges i hi; ⟨x, ho.cell hc (hd _ (by simp))⟩,
   fun i hi => ho.cell (h.props i hi) (hd _ (by simp)), ho.cell h.eof (hd _ (by simp)), h.isEof⟩

theorem full_any (b o n c : Nat) (w : World) {v : Value} (hg : Glob w v) (x : List UInt8) (hn : 0 < n) (hn3 : n ≤ 3) (hx : x.length = n) (ha : ∀ c ∈ x, c < 128) (hnc : n ≤ c)
    (hc : ∀ j (h : j < x.length), w.cell? ⟨b, o + j, none⟩ = some (.int .u8 (x[j].toNat))) :
    Calls Tryz.prog 145 #[.slice (some ⟨b, o, none⟩) n c] w (SomeBool w) := by
  have hlt : ∀ j (h : j < x.length), x[j].toNat < 128 := fun j h => by
    have := ha x[j] (List.getElem_mem h)
    simpa [UInt8.lt_iff_toNat_lt] using this
  obtain ⟨y, hy, hf⟩ := hg.first (x[0]).toNat (by have := hlt 0 (by omega); omega)
  obtain ⟨lo, hlo⟩ := hg.ranges (y / 16 * 2) (by omega)
  obtain ⟨hi, hhi⟩ := hg.ranges (y / 16 * 2 + 1) (by omega)
  obtain rfl | rfl | rfl : n = 1 ∨ n = 2 ∨ n = 3 := by omega
  · exact full_one b o c w _ y lo hi (hlt 0 (by omega)) hy hnc (hc 0 (by omega)) hf hlo hhi
  · exact full_two b o c w _ _ y lo hi (hlt 0 (by omega)) (hlt 1 (by omega)) hy hnc (hc 0 (by omega)) (hc 1 (by omega)) hf hlo hhi
  · exact full_three b o c w _ _ _ y lo hi (hlt 0 (by omega)) (hlt 1 (by omega)) (hlt 2 (by omega)) hy hnc (hc 0 (by omega)) (hc 1 (by omega)) (hc 2 (by omega)) hf hlo hhi
end Go.Proofs.YtpoimmpdncickaaGreatDoor

/- The scanner's block in memory, field by field. -/
namespace Go.Proofs.YtpoimmpdncickaaGreatDoor
open Go Go.RowKit Lex
set_option linter.unusedVariables false
set_option linter.unusedSimpArgs false

structure Nums where
  p : Nat
  fin : Nat
  off : Int
  line : Int
  cc : Nat
  ll : Nat
  lc : Nat
  tp : Int
  te : Int
  ch : Int
  errs : Int
  p45 : Int
  p46 : Int
  p47 : Int
  nm : ByteArray
  buf : Nat → UInt8
  rest : Bs
  y : Bs

/-- THE SCANNER's BLOCK sb holds the numbers N; rv is its reader (block rb), tk the row of its token buffer. -/
structure SMS (w : World) (B sb rb : Nat) (rv : Value) (tk : Option Nat) (N : Nums) (S : Nat → Value) : Prop where
  blk : Blk w sb 96 1048 S
  low : B ≤ sb
  rdr : Rdr w B rv rb N.rest
  tb : TB w B S N.y tk
  s0 : S 0 = rv
  sbuf : ∀ i, i < 1025 → S (1 + i) = .int .u8 (N.buf i).toNat
  s1026 : S 1026 = .int .i64 N.p
  s1027 : S 1027 = .int .i64 N.fin
  s1028 : S 1028 = .int .i64 N.off
  s1029 : S 1029 = .int .i64 N.line
  s1030 : S 1030 = .int .i64 N.cc
  s1031 : S 1031 = .int .i64 N.ll
  s1032 : S 1032 = .int .i64 N.lc
  s1036 : S 1036 = .int .i64 N.tp
  s1037 : S 1037 = .int .i64 N.te
  s1038 : S 1038 = .int .i32 N.ch
  s1040 : S 1040 = .int .i64 N.errs
  s1045 : S 1045 = .int .i64 N.p45
  s1046 : S 1046 = .int .i64 N.p46
  s1047 : S 1047 = .int .i64 N.p47
  s1039 : S 1039 = .nilFunc
  s1041 : S 1041 = .int .u64 380
  s1042 : S 1042 = .int .u64 4294976000
  s1043 : S 1043 = .func (.func 48) #[] #[]
  s1044 : S 1044 = .string N.nm

def SM (w : World) (B sb rb : Nat) (rv : Value) (tk : Option Nat) (N : Nums) : Prop := ∃ S, SMS w B sb rb rv tk N S

section
variable {w : World} {B sb rb : Nat} {rv : Value} {tk : Option Nat} {N : Nums}

theorem SM.ne_rb (h : SM w B sb rb rv tk N) : sb ≠ rb := by
  obtain ⟨S, h⟩ := h
  obtain ⟨_, ⟨_, S', z, hb, _⟩ | ⟨_, S', t, i, p, hb, _⟩⟩ := h.rdr
  · exact h.blk.ne hb (by decide)
  · exact h.blk.ne hb (by decide)
theorem SM.lt (h : SM w B sb rb rv tk N) : sb < w.heap.size := by obtain ⟨S, h⟩ := h; exact h.blk.lt
theorem SM.low (h : SM w B sb rb rv tk N) : B ≤ sb := by obtain ⟨S, h⟩ := h; exact h.low
theorem SM.rlow (h : SM w B sb rb rv tk N) : B ≤ rb := by obtain ⟨S, h⟩ := h; exact h.rdr.1
theorem SM.tlow (h : SM w B sb rb rv tk N) : ∀ k, tk = some k → B ≤ k := by
  intro k hk
  obtain ⟨S, h⟩ := h
  obtain ⟨_, _, _, ⟨e, _⟩ | ⟨k', e, _, hB, _⟩⟩ := h.tb
  · rw [e] at hk; cases hk
  · rw [e] at hk; exact Option.some.inj hk ▸ hB
theorem SM.frozen (h : SM w B sb rb rv tk N) (i : Nat) : w.frozen? ⟨sb, i, none⟩ = false := by obtain ⟨S, h⟩ := h; exact h.blk.frozen i
theorem SM.cbuf (h : SM w B sb rb rv tk N) {i : Nat} (hi : i < 1025) : w.cell? ⟨sb, 1 + i, none⟩ = some (.int .u8 (N.buf i).toNat) := by
  obtain ⟨S, h⟩ := h; exact h.blk.cell_eq (by omega) (h.sbuf i hi)
theorem SM.c0 (h : SM w B sb rb rv tk N) : w.cell? ⟨sb, 0, none⟩ = some rv := by obtain ⟨S, h⟩ := h; exact h.blk.cell_eq (by decide) h.s0
theorem SM.c1026 (h : SM w B sb rb rv tk N) : w.cell? ⟨sb, 1026, none⟩ = some (.int .i64 N.p) := by obtain ⟨S, h⟩ := h; exact h.blk.cell_eq (by decide) h.s1026
theorem SM.c1027 (h : SM w B sb rb rv tk N) : w.cell? ⟨sb, 1027, none⟩ = some (.int .i64 N.fin) := by obtain ⟨S, h⟩ := h; exact h.blk.cell_eq (by decide) h.s1027
theorem SM.c1028 (h : SM w B sb rb rv tk N) : w.cell? ⟨sb, 1028, none⟩ = some (.int .i64 N.off) := by obtain ⟨S, h⟩ := h; exact h.blk.cell_eq (by decide) h.s1028
theorem SM.c1029 (h : SM w B sb rb rv tk N) : w.cell? ⟨sb, 1029, none⟩ = some (.int .i64 N.line) := by obtain ⟨S, h⟩ := h; exact h.blk.cell_eq (by decide) h.s1029
theorem SM.c1030 (h : SM w B sb rb rv tk N) : w.cell? ⟨sb, 1030, none⟩ = some (.int .i64 N.cc) := by obtain ⟨S, h⟩ := h; exact h.blk.cell_eq (by decide) h.s1030
theorem SM.c1031 (h : SM w B sb rb rv tk N) : w.cell? ⟨sb, 1031, none⟩ = some (.int .i64 N.ll) := by obtain ⟨S, h⟩ := h; exact h.blk.cell_eq (by decide) h.s1031
theorem SM.c1032 (h : SM w B sb rb rv tk N) : w.cell? ⟨sb, 1032, none⟩ = some (.int .i64 N.lc) := by obtain ⟨S, h⟩ := h; exact h.blk.cell_eq (by decide) h.s1032
theorem SM.c1036 (h : SM w B sb rb rv tk N) : w.cell? ⟨sb, 1036, none⟩ = some (.int .i64 N.tp) := by obtain ⟨S, h⟩ := h; exact h.blk.cell_eq (by decide) h.s1036
theorem SM.c1037 (h : SM w B sb rb rv tk N) : w.cell? ⟨sb, 1037, none⟩ = some (.int .i64 N.te) := by obtain ⟨S, h⟩ := h; exact h.blk.cell_eq (by decide) h.s1037
theorem SM.c1038 (h : SM w B sb rb rv tk N) : w.cell? ⟨sb, 1038, none⟩ = some (.int .i32 N.ch) := by obtain ⟨S, h⟩ := h; exact h.blk.cell_eq (by decide) h.s1038
theorem SM.c1040 (h : SM w B sb rb rv tk N) : w.cell? ⟨sb, 1040, none⟩ = some (.int .i64 N.errs) := by obtain ⟨S, h⟩ := h; exact h.blk.cell_eq (by decide) h.s1040
theorem SM.c1045 (h : SM w B sb rb rv tk N) : w.cell? ⟨sb, 1045, none⟩ = some (.int .i64 N.p45) := by obtain ⟨S, h⟩ := h; exact h.blk.cell_eq (by decide) h.s1045
theorem SM.c1046 (h : SM w B sb rb rv tk N) : w.cell? ⟨sb, 1046, none⟩ = some (.int .i64 N.p46) := by obtain ⟨S, h⟩ := h; exact h.blk.cell_eq (by decide) h.s1046
theorem SM.c1047 (h : SM w B sb rb rv tk N) : w.cell? ⟨sb, 1047, none⟩ = some (.int .i64 N.p47) := by obtain ⟨S, h⟩ := h; exact h.blk.cell_eq (by decide) h.s1047
theorem SM.c1039 (h : SM w B sb rb rv tk N) : w.cell? ⟨sb, 1039, none⟩ = some .nilFunc := by obtain ⟨S, h⟩ := h; exact h.blk.cell_eq (by decide) h.s1039
theorem SM.c1041 (h : SM w B sb rb rv tk N) : w.cell? ⟨sb, 1041, none⟩ = some (.int .u64 380) := by obtain ⟨S, h⟩ := h; exact h.blk.cell_eq (by decide) h.s1041
theorem SM.c1042 (h : SM w B sb rb rv tk N) : w.cell? ⟨sb, 1042, none⟩ = some (.int .u64 4294976000) := by obtain ⟨S, h⟩ := h; exact h.blk.cell_eq (by decide) h.s1042
theorem SM.c1043 (h : SM w B sb rb rv tk N) : w.cell? ⟨sb, 1043, none⟩ = some (.func (.func 48) #[] #[]) := by obtain ⟨S, h⟩ := h; exact h.blk.cell_eq (by decide) h.s1043
theorem SM.c1044 (h : SM w B sb rb rv tk N) : w.cell? ⟨sb, 1044, none⟩ = some (.string N.nm) := by obtain ⟨S, h⟩ := h; exact h.blk.cell_eq (by decide) h.s1044
theorem SM.drewN (h : SM w B sb rb rv tk N) (m : Nat) : SM (w.drewN m) B sb rb rv tk N := by
  obtain ⟨S, h⟩ := h
  exact ⟨S, { h with blk := h.blk.drewN m, rdr := h.rdr.only ((Only.refl (fun _ => False) w).drewN m) (fun x => x), tb := h.tb.only ((Only.refl (fun _ => False) w).drewN m) (fun _ _ x => x) }⟩
theorem SM.drew (h : SM w B sb rb rv tk N) : SM w.drew B sb rb rv tk N := h.drewN 1
/-- Other blocks change. -/
theorem SM.only {w' : World} {D : Nat → Prop} (h : SM w B sb rb rv tk N) (ho : Only D w w') (h1 : ¬ D sb) (h2 : ¬ D rb) (h3 : ∀ k, tk = some k → ¬ D k) : SM w' B sb rb rv tk N := by
  obtain ⟨S, h⟩ := h
  exact ⟨S, { h with blk := h.blk.only ho h1, rdr := h.rdr.only ho h2, tb := h.tb.only ho h3 }⟩
theorem SM.tk_ne (h : SM w B sb rb rv tk N) : ∀ k, tk = some k → k ≠ sb := by
  intro k hk
  obtain ⟨S, h⟩ := h
  obtain ⟨_, _, _, ⟨e, _⟩ | ⟨k', e, _, _, F, hF, _⟩⟩ := h.tb
  · rw [e] at hk; cases hk
  · rw [e] at hk; exact Option.some.inj hk ▸ hF.ne h.blk (by decide)
theorem SM.tk_rb (h : SM w B sb rb rv tk N) : ∀ k, tk = some k → k ≠ rb := by
  intro k hk
  obtain ⟨S, h⟩ := h
  obtain ⟨_, _, _, ⟨e, _⟩ | ⟨k', e, _, _, F, hF, _⟩⟩ := h.tb
  · rw [e] at hk; cases hk
  · rw [e] at hk
    obtain ⟨_, ⟨_, S', z, hb, _⟩ | ⟨_, S', t, i, p, hb, _⟩⟩ := h.rdr
    · exact Option.some.inj hk ▸ hF.ne hb (by decide)
    · exact Option.some.inj hk ▸ hF.ne hb (by decide)
theorem SM.set1026 (h : SM w B sb rb rv tk N) (n : Nat) : SM (w.setCell ⟨sb, 1026, none⟩ (.int .i64 n)) B sb rb rv tk { N with p := n } := by
  have hne := h.ne_rb
  have ht := h.tk_ne
  obtain ⟨S, h⟩ := h
  have ho := (Only.refl (fun k => k = sb) w).setCell (p := ⟨sb, 1026, none⟩) (fun _ => rfl) (.int .i64 n)
  exact ⟨upd S 1026 (.int .i64 n), { blk := h.blk.set 1026 _, low := h.low, rdr := h.rdr.only ho (fun e => hne e.symm), tb := (h.tb.only ho (fun k hk e => ht k hk e)).congr (fun i _ _ => upd_other _ _ (by omega)), s0 := (upd_other _ _ (by decide)).trans h.s0, sbuf := fun i hi => (upd_other _ _ (by omega)).trans (h.sbuf i hi), s1026 := upd_same _ _ _, s1027 := (upd_other _ _ (by decide)).trans h.s1027, s1028 := (upd_other _ _ (by decide)).trans h.s1028, s1029 := (upd_other _ _ (by decide)).trans h.s1029, s1030 := (upd_other _ _ (by decide)).trans h.s1030, s1031 := (upd_other _ _ (by decide)).trans h.s1031, s1032 := (upd_other _ _ (by decide)).trans h.s1032, s1036 := (upd_other _ _ (by decide)).trans h.s1036, s1037 := (upd_other _ _ (by decide)).trans h.s1037, s1038 := (upd_other _ _ (by decide)).trans h.s1038, s1040 := (upd_other _ _ (by decide)).trans h.s1040, s1045 := (upd_other _ _ (by decide)).trans h.s1045, s1046 := (upd_other _ _ (by decide)).trans h.s1046, s1047 := (upd_other _ _ (by decide)).trans h.s1047, s1039 := (upd_other _ _ (by decide)).trans h.s1039, s1041 := (upd_other _ _ (by decide)).trans h.s1041, s1042 := (upd_other _ _ (by decide)).trans h.s1042, s1043 := (upd_other _ _ (by decide)).trans h.s1043, s1044 := (upd_other _ _ (by decide)).trans h.s1044 }⟩
theorem SM.set1027 (h : SM w B sb rb rv tk N) (n : Nat) : SM (w.setCell ⟨sb, 1027, none⟩ (.int .i64 n)) B sb rb rv tk { N with fin := n } := by
  have hne := h.ne_rb
  have ht := h.tk_ne
  obtain ⟨S, h⟩ := h
  have ho := (Only.refl (fun k => k = sb) w).setCell (p := ⟨sb, 1027, none⟩) (fun _ => rfl) (.int .i64 n)
  exact ⟨upd S 1027 (.int .i64 n), { blk := h.blk.set 1027 _, low := h.low, rdr := h.rdr.only ho (fun e => hne e.symm), tb := (h.tb.only ho (fun k hk e => ht k hk e)).congr (fun i _ _ => upd_other _ _ (by omega)), s0 := (upd_other _ _ (by decide)).trans h.s0, sbuf := fun i hi => (upd_other _ _ (by omega)).trans (h.sbuf i hi), s1026 := (upd_other _ _ (by decide)).trans h.s1026, s1027 := upd_same _ _ _, s1028 := (upd_other _ _ (by decide)).trans h.s1028, s1029 := (upd_other _ _ (by decide)).trans h.s1029, s1030 := (upd_other _ _ (by decide)).trans h.s1030, s1031 := (upd_other _ _ (by decide)).trans h.s1031, s1032 := (upd_other _ _ (by decide)).trans h.s1032, s1036 := (upd_other _ _ (by decide)).trans h.s1036, s1037 := (upd_other _ _ (by decide)).trans h.s1037, s1038 := (upd_other _ _ (by decide)).trans h.s1038, s1040 := (upd_other _ _ (by decide)).trans h.s1040, s1045 := (upd_other _ _ (by decide)).trans h.s1045, s1046 := (upd_other _ _ (by decide)).trans h.s1046, s1047 := (upd_other _ _ (by decide)).trans h.s1047, s1039 := (upd_other _ _ (by decide)).trans h.s1039, s1041 := (upd_other _ _ (by decide)).trans h.s1041, s1042 := (upd_other _ _ (by decide)).trans h.s1042, s1043 := (upd_other _ _ (by decide)).trans h.s1043, s1044 := (upd_other _ _ (by decide)).trans h.s1044 }⟩
theorem SM.set1028 (h : SM w B sb rb rv tk N) (n : Int) : SM (w.setCell ⟨sb, 1028, none⟩ (.int .i64 n)) B sb rb rv tk { N with off := n } := by
  have hne := h.ne_rb
  have ht := h.tk_ne
  obtain ⟨S, h⟩ := h
  have ho := (Only.refl (fun k => k = sb) w).setCell (p := ⟨sb, 1028, none⟩) (fun _ => rfl) (.int .i64 n)
  exact ⟨upd S 1028 (.int .i64 n), { blk := h.blk.set 1028 _, low := h.low, rdr := h.rdr.only ho (fun e => hne e.symm), tb := (h.tb.only ho (fun k hk e => ht k hk e)).congr (fun i _ _ => upd_other _ _ (by omega)), s0 := (upd_other _ _ (by decide)).trans h.s0, sbuf := fun i hi => (upd_other _ _ (by omega)).trans (h.sbuf i hi), s1026 := (upd_other _ _ (by decide)).trans h.s1026, s1027 := (upd_other _ _ (by decide)).trans h.s1027, s1028 := upd_same _ _ _, s1029 := (upd_other _ _ (by decide)).trans h.s1029, s1030 := (upd_other _ _ (by decide)).trans h.s1030, s1031 := (upd_other _ _ (by decide)).trans h.s1031, s1032 := (upd_other _ _ (by decide)).trans h.s1032, s1036 := (upd_other _ _ (by decide)).trans h.s1036, s1037 := (upd_other _ _ (by decide)).trans h.s1037, s1038 := (upd_other _ _ (by decide)).trans h.s1038, s1040 := (upd_other _ _ (by decide)).trans h.s1040, s1045 := (upd_other _ _ (by decide)).trans h.s1045, s1046 := (upd_other _ _ (by decide)).trans h.s1046, s1047 := (upd_other _ _ (by decide)).trans h.s1047, s1039 := (upd_other _ _ (by decide)).trans h.s1039, s1041 := (upd_other _ _ (by decide)).trans h.s1041, s1042 := (upd_other _ _ (by decide)).trans h.s1042, s1043 := (upd_other _ _ (by decide)).trans h.s1043, s1044 := (upd_other _ _ (by decide)).trans h.s1044 }⟩
theorem SM.set1029 (h : SM w B sb rb rv tk N) (n : Int) : SM (w.setCell ⟨sb, 1029, none⟩ (.int .i64 n)) B sb rb rv tk { N with line := n } := by
  have hne := h.ne_rb
  have ht := h.tk_ne
  obtain ⟨S, h⟩ := h
  have ho := (Only.refl (fun k => k = sb) w).setCell (p := ⟨sb, 1029, none⟩) (fun _ => rfl) (.int .i64 n)
  exact ⟨upd S 1029 (.int .i64 n), { blk := h.blk.set 1029 _, low := h.low, rdr := h.rdr.only ho (fun e => hne e.symm), tb := (h.tb.only ho (fun k hk e => ht k hk e)).congr (fun i _ _ => upd_other _ _ (by omega)), s0 := (upd_other _ _ (by decide)).trans h.s0, sbuf := fun i hi => (upd_other _ _ (by omega)).trans (h.sbuf i hi), s1026 := (upd_other _ _ (by decide)).trans h.s1026, s1027 := (upd_other _ _ (by decide)).trans h.s1027, s1028 := (upd_other _ _ (by decide)).trans h.s1028, s1029 := upd_same _ _ _, s1030 := (upd_other _ _ (by decide)).trans h.s1030, s1031 := (upd_other _ _ (by decide)).trans h.s1031, s1032 := (upd_other _ _ (by decide)).trans h.s1032, s1036 := (upd_other _ _ (by decide)).trans h.s1036, s1037 := (upd_other _ _ (by decide)).trans h.s1037, s1038 := (upd_other _ _ (by decide)).trans h.s1038, s1040 := (upd_other _ _ (by decide)).trans h.s1040, s1045 := (upd_other _ _ (by decide)).trans h.s1045, s1046 := (upd_other _ _ (by decide)).trans h.s1046, s1047 := (upd_other _ _ (by decide)).trans h.s1047, s1039 := (upd_other _ _ (by decide)).trans h.s1039, s1041 := (upd_other _ _ (by decide)).trans h.s1041, s1042 := (upd_other _ _ (by decide)).trans h.s1042, s1043 := (upd_other _ _ (by decide)).trans h.s1043, s1044 := (upd_other _ _ (by decide)).trans h.s1044 }⟩
theorem SM.set1030 (h : SM w B sb rb rv tk N) (n : Nat) : SM (w.setCell ⟨sb, 1030, none⟩ (.int .i64 n)) B sb rb rv tk { N with cc := n } := by
  have hne := h.ne_rb
  have ht := h.tk_ne
  obtain ⟨S, h⟩ := h
  have ho := (Only.refl (fun k => k = sb) w).setCell (p := ⟨sb, 1030, none⟩) (fun _ => rfl) (.int .i64 n)
  exact ⟨upd S 1030 (.int .i64 n), { blk := h.blk.set 1030 _, low := h.low, rdr := h.rdr.only ho (fun e => hne e.symm), tb := (h.tb.only ho (fun k hk e => ht k hk e)).congr (fun i _ _ => upd_other _ _ (by omega)), s0 := (upd_other _ _ (by decide)).trans h.s0, sbuf := fun i hi => (upd_other _ _ (by omega)).trans (h.sbuf i hi), s1026 := (upd_other _ _ (by decide)).trans h.s1026, s1027 := (upd_other _ _ (by decide)).trans h.s1027, s1028 := (upd_other _ _ (by decide)).trans h.s1028, s1029 := (upd_other _ _ (by decide)).trans h.s1029, s1030 := upd_same _ _ _, s1031 := (upd_other _ _ (by decide)).trans h.s1031, s1032 := (upd_other _ _ (by decide)).trans h.s1032, s1036 := (upd_other _ _ (by decide)).trans h.s1036, s1037 := (upd_other _ _ (by decide)).trans h.s1037, s1038 := (upd_other _ _ (by decide)).trans h.s1038, s1040 := (upd_other _ _ (by decide)).trans h.s1040, s1045 := (upd_other _ _ (by decide)).trans h.s1045, s1046 := (upd_other _ _ (by decide)).trans h.s1046, s1047 := (upd_other _ _ (by decide)).trans h.s1047, s1039 := (upd_other _ _ (by decide)).trans h.s1039, s1041 := (upd_other _ _ (by decide)).trans h.s1041, s1042 := (upd_other _ _ (by decide)).trans h.s1042, s1043 := (upd_other _ _ (by decide)).trans h.s1043, s1044 := (upd_other _ _ (by decide)).trans h.s1044 }⟩
theorem SM.set1031 (h : SM w B sb rb rv tk N) (n : Nat) : SM (w.setCell ⟨sb, 1031, none⟩ (.int .i64 n)) B sb rb rv tk { N with ll := n } := by
  have hne := h.ne_rb
  have ht := h.tk_ne
  obtain ⟨S, h⟩ := h
  have ho := (Only.refl (fun k => k = sb) w).setCell (p := ⟨sb, 1031, none⟩) (fun _ => rfl) (.int .i64 n)
  exact ⟨upd S 1031 (.int .i64 n), { blk := h.blk.set 1031 _, low := h.low, rdr := h.rdr.only ho (fun e => hne e.symm), tb := (h.tb.only ho (fun k hk e => ht k hk e)).congr (fun i _ _ => upd_other _ _ (by omega)), s0 := (upd_other _ _ (by decide)).trans h.s0, sbuf := fun i hi => (upd_other _ _ (by omega)).trans (h.sbuf i hi), s1026 := (upd_other _ _ (by decide)).trans h.s1026, s1027 := (upd_other _ _ (by decide)).trans h.s1027, s1028 := (upd_other _ _ (by decide)).trans h.s1028, s1029 := (upd_other _ _ (by decide)).trans h.s1029, s1030 := (upd_other _ _ (by decide)).trans h.s1030, s1031 := upd_same _ _ _, s1032 := (upd_other _ _ (by decide)).trans h.s1032, s1036 := (upd_other _ _ (by decide)).trans h.s1036, s1037 := (upd_other _ _ (by decide)).trans h.s1037, s1038 := (upd_other _ _ (by decide)).trans h.s1038, s1040 := (upd_other _ _ (by decide)).trans h.s1040, s1045 := (upd_other _ _ (by decide)).trans h.s1045, s1046 := (upd_other _ _ (by decide)).trans h.s1046, s1047 := (upd_other _ _ (by decide)).trans h.s1047, s1039 := (upd_other _ _ (by decide)).trans h.s1039, s1041 := (upd_other _ _ (by decide)).trans h.s1041, s1042 := (upd_other _ _ (by decide)).trans h.s1042, s1043 := (upd_other _ _ (by decide)).trans h.s1043, s1044 := (upd_other _ _ (by decide)).trans h.s1044 }⟩
theorem SM.set1032 (h : SM w B sb rb rv tk N) (n : Nat) : SM (w.setCell ⟨sb, 1032, none⟩ (.int .i64 n)) B sb rb rv tk { N with lc := n } := by
  have hne := h.ne_rb
  have ht := h.tk_ne
  obtain ⟨S, h⟩ := h
  have ho := (Only.refl (fun k => k = sb) w).setCell (p := ⟨sb, 1032, none⟩) (fun _ => rfl) (.int .i64 n)
  exact ⟨upd S 1032 (.int .i64 n), { blk := h.blk.set 1032 _, low := h.low, rdr := h.rdr.only ho (fun e => hne e.symm), tb := (h.tb.only ho (fun k hk e => ht k hk e)).congr (fun i _ _ => upd_other _ _ (by omega)), s0 := (upd_other _ _ (by decide)).trans h.s0, sbuf := fun i hi => (upd_other _ _ (by omega)).trans (h.sbuf i hi), s1026 := (upd_other _ _ (by decide)).trans h.s1026, s1027 := (upd_other _ _ (by decide)).trans h.s1027, s1028 := (upd_other _ _ (by decide)).trans h.s1028, s1029 := (upd_other _ _ (by decide)).trans h.s1029, s1030 := (upd_other _ _ (by decide)).trans h.s1030, s1031 := (upd_other _ _ (by decide)).trans h.s1031, s1032 := upd_same _ _ _, s1036 := (upd_other _ _ (by decide)).trans h.s1036, s1037 := (upd_other _ _ (by decide)).trans h.s1037, s1038 := (upd_other _ _ (by decide)).trans h.s1038, s1040 := (upd_other _ _ (by decide)).trans h.s1040, s1045 := (upd_other _ _ (by decide)).trans h.s1045, s1046 := (upd_other _ _ (by decide)).trans h.s1046, s1047 := (upd_other _ _ (by decide)).trans h.s1047, s1039 := (upd_other _ _ (by decide)).trans h.s1039, s1041 := (upd_other _ _ (by decide)).trans h.s1041, s1042 := (upd_other _ _ (by decide)).trans h.s1042, s1043 := (upd_other _ _ (by decide)).trans h.s1043, s1044 := (upd_other _ _ (by decide)).trans h.s1044 }⟩
theorem SM.set1036 (h : SM w B sb rb rv tk N) (n : Int) : SM (w.setCell ⟨sb, 1036, none⟩ (.int .i64 n)) B sb rb rv tk { N with tp := n } := by
  have hne := h.ne_rb
  have ht := h.tk_ne
  obtain ⟨S, h⟩ := h
  have ho := (Only.refl (fun k => k = sb) w).setCell (p := ⟨sb, 1036, none⟩) (fun _ => rfl) (.int .i64 n)
  exact ⟨upd S 1036 (.int .i64 n), { blk := h.blk.set 1036 _, low := h.low, rdr := h.rdr.only ho (fun e => hne e.symm), tb := (h.tb.only ho (fun k hk e => ht k hk e)).congr (fun i _ _ => upd_other _ _ (by omega)), s0 := (upd_other _ _ (by decide)).trans h.s0, sbuf := fun i hi => (upd_other _ _ (by omega)).trans (h.sbuf i hi), s1026 := (upd_other _ _ (by decide)).trans h.s1026, s1027 := (upd_other _ _ (by decide)).trans h.s1027, s1028 := (upd_other _ _ (by decide)).trans h.s1028, s1029 := (upd_other _ _ (by decide)).trans h.s1029, s1030 := (upd_other _ _ (by decide)).trans h.s1030, s1031 := (upd_other _ _ (by decide)).trans h.s1031, s1032 := (upd_other _ _ (by decide)).trans h.s1032, s1036 := upd_same _ _ _, s1037 := (upd_other _ _ (by decide)).trans h.s1037, s1038 := (upd_other _ _ (by decide)).trans h.s1038, s1040 := (upd_other _ _ (by decide)).trans h.s1040, s1045 := (upd_other _ _ (by decide)).trans h.s1045, s1046 := (upd_other _ _ (by decide)).trans h.s1046, s1047 := (upd_other _ _ (by decide)).trans h.s1047, s1039 := (upd_other _ _ (by decide)).trans h.s1039, s1041 := (upd_other _ _ (by decide)).trans h.s1041, s1042 := (upd_other _ _ (by decide)).trans h.s1042, s1043 := (upd_other _ _ (by decide)).trans h.s1043, s1044 := (upd_other _ _ (by decide)).trans h.s1044 }⟩
theorem SM.set1037 (h : SM w B sb rb rv tk N) (n : Int) : SM (w.setCell ⟨sb, 1037, none⟩ (.int .i64 n)) B sb rb rv tk { N with te := n } := by
  have hne := h.ne_rb
  have ht := h.tk_ne
  obtain ⟨S, h⟩ := h
  have ho := (Only.refl (fun k => k = sb) w).setCell (p := ⟨sb, 1037, none⟩) (fun _ => rfl) (.int .i64 n)
  exact ⟨upd S 1037 (.int .i64 n), { blk := h.blk.set 1037 _, low := h.low, rdr := h.rdr.only ho (fun e => hne e.symm), tb := (h.tb.only ho (fun k hk e => ht k hk e)).congr (fun i _ _ => upd_other _ _ (by omega)), s0 := (upd_other _ _ (by decide)).trans h.s0, sbuf := fun i hi => (upd_other _ _ (by omega)).trans (h.sbuf i hi), s1026 := (upd_other _ _ (by decide)).trans h.s1026, s1027 := (upd_other _ _ (by decide)).trans h.s1027, s1028 := (upd_other _ _ (by decide)).trans h.s1028, s1029 := (upd_other _ _ (by decide)).trans h.s1029, s1030 := (upd_other _ _ (by decide)).trans h.s1030, s1031 := (upd_other _ _ (by decide)).trans h.s1031, s1032 := (upd_other _ _ (by decide)).trans h.s1032, s1036 := (upd_other _ _ (by decide)).trans h.s1036, s1037 := upd_same _ _ _, s1038 := (upd_other _ _ (by decide)).trans h.s1038, s1040 := (upd_other _ _ (by decide)).trans h.s1040, s1045 := (upd_other _ _ (by decide)).trans h.s1045, s1046 := (upd_other _ _ (by decide)).trans h.s1046, s1047 := (upd_other _ _ (by decide)).trans h.s1047, s1039 := (upd_other _ _ (by decide)).trans h.s1039, s1041 := (upd_other _ _ (by decide)).trans h.s1041, s1042 := (upd_other _ _ (by decide)).trans h.s1042, s1043 := (upd_other _ _ (by decide)).trans h.s1043, s1044 := (upd_other _ _ (by decide)).trans h.s1044 }⟩
theorem SM.set1038 (h : SM w B sb rb rv tk N) (n : Int) : SM (w.setCell ⟨sb, 1038, none⟩ (.int .i32 n)) B sb rb rv tk { N with ch := n } := by
  have hne := h.ne_rb
  have ht := h.tk_ne
  obtain ⟨S, h⟩ := h
  have ho := (Only.refl (fun k => k = sb) w).setCell (p := ⟨sb, 1038, none⟩) (fun _ => rfl) (.int .i32 n)
  exact ⟨upd S 1038 (.int .i32 n), { blk := h.blk.set 1038 _, low := h.low, rdr := h.rdr.only ho (fun e => hne e.symm), tb := (h.tb.only ho (fun k hk e => ht k hk e)).congr (fun i _ _ => upd_other _ _ (by omega)), s0 := (upd_other _ _ (by decide)).trans h.s0, sbuf := fun i hi => (upd_other _ _ (by omega)).trans (h.sbuf i hi), s1026 := (upd_other _ _ (by decide)).trans h.s1026, s1027 := (upd_other _ _ (by decide)).trans h.s1027, s1028 := (upd_other _ _ (by decide)).trans h.s1028, s1029 := (upd_other _ _ (by decide)).trans h.s1029, s1030 := (upd_other _ _ (by decide)).trans h.s1030, s1031 := (upd_other _ _ (by decide)).trans h.s1031, s1032 := (upd_other _ _ (by decide)).trans h.s1032, s1036 := (upd_other _ _ (by decide)).trans h.s1036, s1037 := (upd_other _ _ (by decide)).trans h.s1037, s1038 := upd_same _ _ _, s1040 := (upd_other _ _ (by decide)).trans h.s1040, s1045 := (upd_other _ _ (by decide)).trans h.s1045, s1046 := (upd_other _ _ (by decide)).trans h.s1046, s1047 := (upd_other _ _ (by decide)).trans h.s1047, s1039 := (upd_other _ _ (by decide)).trans h.s1039, s1041 := (upd_other _ _ (by decide)).trans h.s1041, s1042 := (upd_other _ _ (by decide)).trans h.s1042, s1043 := (upd_other _ _ (by decide)).trans h.s1043, s1044 := (upd_other _ _ (by decide)).trans h.s1044 }⟩
theorem SM.set1040 (h : SM w B sb rb rv tk N) (n : Int) : SM (w.setCell ⟨sb, 1040, none⟩ (.int .i64 n)) B sb rb rv tk { N with errs := n } := by
  have hne := h.ne_rb
  have ht := h.tk_ne
  obtain ⟨S, h⟩ := h
  have ho := (Only.refl (fun k => k = sb) w).setCell (p := ⟨sb, 1040, none⟩) (fun _ => rfl) (.int .i64 n)
  exact ⟨upd S 1040 (.int .i64 n), { blk := h.blk.set 1040 _, low := h.low, rdr := h.rdr.only ho (fun e => hne e.symm), tb := (h.tb.only ho (fun k hk e => ht k hk e)).congr (fun i _ _ => upd_other _ _ (by omega)), s0 := (upd_other _ _ (by decide)).trans h.s0, sbuf := fun i hi => (upd_other _ _ (by omega)).trans (h.sbuf i hi), s1026 := (upd_other _ _ (by decide)).trans h.s1026, s1027 := (upd_other _ _ (by decide)).trans h.s1027, s1028 := (upd_other _ _ (by decide)).trans h.s1028, s1029 := (upd_other _ _ (by decide)).trans h.s1029, s1030 := (upd_other _ _ (by decide)).trans h.s1030, s1031 := (upd_other _ _ (by decide)).trans h.s1031, s1032 := (upd_other _ _ (by decide)).trans h.s1032, s1036 := (upd_other _ _ (by decide)).trans h.s1036, s1037 := (upd_other _ _ (by decide)).trans h.s1037, s1038 := (upd_other _ _ (by decide)).trans h.s1038, s1040 := upd_same _ _ _, s1045 := (upd_other _ _ (by decide)).trans h.s1045, s1046 := (upd_other _ _ (by decide)).trans h.s1046, s1047 := (upd_other _ _ (by decide)).trans h.s1047, s1039 := (upd_other _ _ (by decide)).trans h.s1039, s1041 := (upd_other _ _ (by decide)).trans h.s1041, s1042 := (upd_other _ _ (by decide)).trans h.s1042, s1043 := (upd_other _ _ (by decide)).trans h.s1043, s1044 := (upd_other _ _ (by decide)).trans h.s1044 }⟩
theorem SM.set1045 (h : SM w B sb rb rv tk N) (n : Int) : SM (w.setCell ⟨sb, 1045, none⟩ (.int .i64 n)) B sb rb rv tk { N with p45 := n } := by
  have hne := h.ne_rb
  have ht := h.tk_ne
  obtain ⟨S, h⟩ := h
  have ho := (Only.refl (fun k => k = sb) w).setCell (p := ⟨sb, 1045, none⟩) (fun _ => rfl) (.int .i64 n)
  exact ⟨upd S 1045 (.int .i64 n), { blk := h.blk.set 1045 _, low := h.low, rdr := h.rdr.only ho (fun e => hne e.symm), tb := (h.tb.only ho (fun k hk e => ht k hk e)).congr (fun i _ _ => upd_other _ _ (by omega)), s0 := (upd_other _ _ (by decide)).trans h.s0, sbuf := fun i hi => (upd_other _ _ (by omega)).trans (h.sbuf i hi), s1026 := (upd_other _ _ (by decide)).trans h.s1026, s1027 := (upd_other _ _ (by decide)).trans h.s1027, s1028 := (upd_other _ _ (by decide)).trans h.s1028, s1029 := (upd_other _ _ (by decide)).trans h.s1029, s1030 := (upd_other _ _ (by decide)).trans h.s1030, s1031 := (upd_other _ _ (by decide)).trans h.s1031, s1032 := (upd_other _ _ (by decide)).trans h.s1032, s1036 := (upd_other _ _ (by decide)).trans h.s1036, s1037 := (upd_other _ _ (by decide)).trans h.s1037, s1038 := (upd_other _ _ (by decide)).trans h.s1038, s1040 := (upd_other _ _ (by decide)).trans h.s1040, s1045 := upd_same _ _ _, s1046 := (upd_other _ _ (by decide)).trans h.s1046, s1047 := (upd_other _ _ (by decide)).trans h.s1047, s1039 := (upd_other _ _ (by decide)).trans h.s1039, s1041 := (upd_other _ _ (by decide)).trans h.s1041, s1042 := (upd_other _ _ (by decide)).trans h.s1042, s1043 := (upd_other _ _ (by decide)).trans h.s1043, s1044 := (upd_other _ _ (by decide)).trans h.s1044 }⟩
theorem SM.set1046 (h : SM w B sb rb rv tk N) (n : Int) : SM (w.setCell ⟨sb, 1046, none⟩ (.int .i64 n)) B sb rb rv tk { N with p46 := n } := by
  have hne := h.ne_rb
  have ht := h.tk_ne
  obtain ⟨S, h⟩ := h
  have ho := (Only.refl (fun k => k = sb) w).setCell (p := ⟨sb, 1046, none⟩) (fun _ => rfl) (.int .i64 n)
  exact ⟨upd S 1046 (.int .i64 n), { blk := h.blk.set 1046 _, low := h.low, rdr := h.rdr.only ho (fun e => hne e.symm), tb := (h.tb.only ho (fun k hk e => ht k hk e)).congr (fun i _ _ => upd_other _ _ (by omega)), s0 := (upd_other _ _ (by decide)).trans h.s0, sbuf := fun i hi => (upd_other _ _ (by omega)).trans (h.sbuf i hi), s1026 := (upd_other _ _ (by decide)).trans h.s1026, s1027 := (upd_other _ _ (by decide)).trans h.s1027, s1028 := (upd_other _ _ (by decide)).trans h.s1028, s1029 := (upd_other _ _ (by decide)).trans h.s1029, s1030 := (upd_other _ _ (by decide)).trans h.s1030, s1031 := (upd_other _ _ (by decide)).trans h.s1031, s1032 := (upd_other _ _ (by decide)).trans h.s1032, s1036 := (upd_other _ _ (by decide)).trans h.s1036, s1037 := (upd_other _ _ (by decide)).trans h.s1037, s1038 := (upd_other _ _ (by decide)).trans h.s1038, s1040 := (upd_other _ _ (by decide)).trans h.s1040, s1045 := (upd_other _ _ (by decide)).trans h.s1045, s1046 := upd_same _ _ _, s1047 := (upd_other _ _ (by decide)).trans h.s1047, s1039 := (upd_other _ _ (by decide)).trans h.s1039, s1041 := (upd_other _ _ (by decide)).trans h.s1041, s1042 := (upd_other _ _ (by decide)).trans h.s1042, s1043 := (upd_other _ _ (by decide)).trans h.s1043, s1044 := (upd_other _ _ (by decide)).trans h.s1044 }⟩
theorem SM.set1047 (h : SM w B sb rb rv tk N) (n : Int) : SM (w.setCell ⟨sb, 1047, none⟩ (.int .i64 n)) B sb rb rv tk { N with p47 := n } := by
  have hne := h.ne_rb
  have ht := h.tk_ne
  obtain ⟨S, h⟩ := h
  have ho := (Only.refl (fun k => k = sb) w).setCell (p := ⟨sb, 1047, none⟩) (fun _ => rfl) (.int .i64 n)
  exact ⟨upd S 1047 (.int .i64 n), { blk := h.blk.set 1047 _, low := h.low, rdr := h.rdr.only ho (fun e => hne e.symm), tb := (h.tb.only ho (fun k hk e => ht k hk e)).congr (fun i _ _ => upd_other _ _ (by omega)), s0 := (upd_other _ _ (by decide)).trans h.s0, sbuf := fun i hi => (upd_other _ _ (by omega)).trans (h.sbuf i hi), s1026 := (upd_other _ _ (by decide)).trans h.s1026, s1027 := (upd_other _ _ (by decide)).trans h.s1027, s1028 := (upd_other _ _ (by decide)).trans h.s1028, s1029 := (upd_other _ _ (by decide)).trans h.s1029, s1030 := (upd_other _ _ (by decide)).trans h.s1030, s1031 := (upd_other _ _ (by decide)).trans h.s1031, s1032 := (upd_other _ _ (by decide)).trans h.s1032, s1036 := (upd_other _ _ (by decide)).trans h.s1036, s1037 := (upd_other _ _ (by decide)).trans h.s1037, s1038 := (upd_other _ _ (by decide)).trans h.s1038, s1040 := (upd_other _ _ (by decide)).trans h.s1040, s1045 := (upd_other _ _ (by decide)).trans h.s1045, s1046 := (upd_other _ _ (by decide)).trans h.s1046, s1047 := upd_same _ _ _, s1039 := (upd_other _ _ (by decide)).trans h.s1039, s1041 := (upd_other _ _ (by decide)).trans h.s1041, s1042 := (upd_other _ _ (by decide)).trans h.s1042, s1043 := (upd_other _ _ (by decide)).trans h.s1043, s1044 := (upd_other _ _ (by decide)).trans h.s1044 }⟩
end
end Go.Proofs.YtpoimmpdncickaaGreatDoor
