/- The input: what it holds, its methods on the stack, macros laid down and taken away, conditions, files that are included, its directives. -/
import Derived.Test.YtmkehbjpnajilaaGreatDoorJ7
import Derived.Test.YtmkehbjpnajilaaGreatDoorJ4
import Derived.OwnWalk
import Derived.BigQuiet
import Derived.Test.YtmkehbjpnajilaaGreatDoorJ6
/- The input: its block in memory, what it holds; what changes leave it as it is. -/
namespace Go.Proofs.YtmkehbjpnajilaaGreatDoor
open Go Go.RowKit Lex
set_option linter.unusedVariables false
set_option linter.unusedSimpArgs false

/-- A macro: its arguments (none: it takes none), its tokens. -/
structure Mc where
  args : Option (List Bs)
  toks : List (Int × Bs)

/-- v is a slice of these strings. -/
def Strs (w : World) (v : Value) (l : List ByteArray) : Prop := w.ownsRow 0 9 1 v l.length (l.map Value.string)

/-- The macro's block (it and its rows lie below L). -/
def MacAt (w : World) (L b : Nat) (x : Bs) (m : Mc) : Prop :=
  ∃ S, Blk w b 129 3 S ∧ (b < L ∧ (∀ k, (S 1).ownBlock = some k → k < L) ∧ ∀ k, (S 2).ownBlock = some k → k < L) ∧ S 0 = .string (mkS x) ∧ Toki w (S 2) m.toks ∧ (match m.args with | none => S 1 = .slice none 0 0 | some l => (∃ a n c, S 1 = .slice (some a) n c) ∧ Strs w (S 1) (l.map mkS))

/-- The macros that are there. -/
def Macs (w : World) (L b n : Nat) (mac : Bs → Option Mc) : Prop :=
  ∃ f : Bs → Option Nat, SMap w b n (fun x => (f x).map fun b => .pointer (some ⟨b, 0, none⟩)) ∧ (∀ x, mac x = none → f x = none) ∧ ∀ x m, mac x = some m → ∃ b, f x = some b ∧ MacAt w L b x m

/-- The blocks of the input that stay: the maps of macros and of files; what is told of macros lies below lim; bl: conditions may be opened. -/
structure Cfg where
  lim : Nat
  bl : Bool
  mb : Nat
  fb : Nat
  F : Bs → Option ByteArray
  inc : List ByteArray

/-- What stands beside the stack. -/
structure Env (w : World) (B : Nat) (S : Nat → Value) (C : Cfg) (mn : Nat) (mac : Bs → Option Mc) (ifs : List Bool) : Prop where
  ifr : w.ownsRow B 4 1 (S 4) ifs.length (ifs.map Value.bool)
  mcv : S 5 = .map (some C.mb)
  mcs : Macs w C.lim C.mb mn mac
  mlow : B ≤ C.mb
  fiv : S 2 = .map (some C.fb)
  fis : ∃ n, SMap w C.fb n (fun x => (C.F x).map Value.string)
  ne : C.mb ≠ C.fb
  inv : Strs w (S 1) C.inc
  inl : ∀ k, (S 1).ownBlock = some k → k < C.lim

/-- The types of the blocks that the stack writes. -/
def MT (T : TypeId) : Prop := RT T ∨ T = 82 ∨ T = 88
theorem mt_not {T : TypeId} (h : T = 4 ∨ T = 125 ∨ T = 129 ∨ T = 9 ∨ T = 138) : ¬ MT T := by
  rintro ((e | e | e | e | e | e) | e | e) <;> subst e <;> revert h <;> decide

section
variable {w w' : World} {B : Nat} {E : Nat → Prop}

theorem row_only {e : TypeId} {size : Nat} {v : Value} {n : Nat} {xs : List Value} {b : Nat} (h : w.ownsRow b e size v n xs) (ho : Only E w w') (hE : ∀ k, E k → k < w.heap.size → ¬ Typed w k (· = e)) : w'.ownsRow b e size v n xs :=
  ownsRow_only h (fun k hk => by
    have ht := (ownBlock_row h k hk).2
    exact ho.block k ht.lt (fun e => hE k e ht.lt ht))
theorem not_typed {k : Nat} {P : TypeId → Prop} {T : TypeId} (h : Typed w k P) (hp : ¬ P T) : ¬ Typed w k (· = T) := fun h' => typed_ne h h' (fun U a b => hp (b ▸ a)) rfl

theorem MacAt.only {L b : Nat} {x : Bs} {m : Mc} (h : MacAt w L b x m) (ho : Only E w w') (hE : ∀ k, E k → k < w.heap.size → ¬ Typed w k (· = 129) ∧ ¬ Typed w k (· = 125) ∧ ¬ Typed w k (· = 9)) : MacAt w' L b x m := by
  obtain ⟨S, hb, hL, h0, h2, h1⟩ := h
  refine ⟨S, hb.only ho (fun e => (hE b e hb.lt).1 (hb.typed rfl)), hL, h0, row_only h2 ho (fun k e hk => (hE k e hk).2.1), ?_⟩
  cases ha : m.args with
  | none => rw [ha] at h1; exact h1
  | some l => rw [ha] at h1; exact ⟨h1.1, row_only h1.2 ho (fun k e hk => (hE k e hk).2.2)⟩

theorem Env.only {S S' : Nat → Value} {C : Cfg} {mn : Nat} {mac : Bs → Option Mc} {ifs : List Bool} (h : Env w B S C mn mac ifs) (ho : Only E w w') (hE : ∀ k, E k → k < w.heap.size → Typed w k MT)
    (h1 : S' 1 = S 1) (h2 : S' 2 = S 2) (h4 : S' 4 = S 4) (h5 : S' 5 = S 5) : Env w' B S' C mn mac ifs := by
  obtain ⟨nf, hf⟩ := h.fis
  obtain ⟨f, m1, m2, m3⟩ := h.mcs
  refine { ifr := ?_, mcv := h5.trans h.mcv, mcs := ⟨f, m1.only ho hE, m2, fun x m hx => ?_⟩, mlow := h.mlow, fiv := h2.trans h.fiv, fis := ⟨nf, hf.only ho hE⟩, ne := h.ne, inv := ?_, inl := by rw [h1]; exact h.inl }
  · rw [h4]; exact row_only h.ifr ho (fun k e hk => not_typed (hE k e hk) (mt_not (.inl rfl)))
  · obtain ⟨b, hb, hm⟩ := m3 x m hx
    exact ⟨b, hb, hm.only ho (fun k e hk => ⟨not_typed (hE k e hk) (mt_not (.inr (.inr (.inl rfl)))), not_typed (hE k e hk) (mt_not (.inr (.inl rfl))), not_typed (hE k e hk) (mt_not (.inr (.inr (.inr (.inl rfl)))))⟩)⟩
  · rw [h1]; exact row_only h.inv ho (fun k e hk => not_typed (hE k e hk) (mt_not (.inr (.inr (.inr (.inl rfl))))))
end

/-- A reader, told without memory. -/
structure Ab where
  istz : Bool
  nm : ByteArray
  cur : Tok
  ts : List Tok

def RS.ab (r : RS) (t : Bool) : Ab := ⟨t, r.nm, r.cur, r.ts⟩
def RS.is (r : RS) (a : Ab) : Prop := r.nm = a.nm ∧ r.cur = a.cur ∧ r.ts = a.ts ∧ (a.istz = true → isTz r.v)

inductive All2 : List RS → List Ab → Prop
  | nil : All2 [] []
  | cons {r a rs ab} : r.is a → All2 rs ab → All2 (r :: rs) (a :: ab)
theorem All2.len : ∀ {rs : List RS} {ab : List Ab}, All2 rs ab → rs.length = ab.length
  | _, _, .nil => rfl
  | _, _, .cons _ h => by simp [h.len]
theorem All2.split : ∀ {xs : List Ab} {rs : List RS} {a : Ab} {ys : List Ab}, All2 rs (xs ++ a :: ys) → ∃ rx r ry, rs = rx ++ r :: ry ∧ All2 rx xs ∧ r.is a ∧ All2 ry ys
  | [], _, _, _, .cons h1 h2 => ⟨[], _, _, rfl, .nil, h1, h2⟩
  | x :: xs, _, _, _, .cons h1 h2 => by
    obtain ⟨rx, r, ry, rfl, h3, h4, h5⟩ := h2.split (xs := xs)
    exact ⟨_ :: rx, r, ry, rfl, .cons h1 h3, h4, h5⟩
theorem All2.dead : ∀ {rs : List RS} {ab : List Ab}, All2 rs ab → (∀ d ∈ ab, d.ts = []) → ∀ d ∈ rs, d.ts = []
  | _, _, .nil, _, _, h => by cases h
  | _, _, .cons h1 h2, hd, d, h => by
    rcases List.mem_cons.1 h with rfl | h
    · exact h1.2.2.1.trans (hd _ (by simp))
    · exact h2.dead (fun q hq => hd q (by simp [hq])) d h

/-- THE INPUT in block ib: its readers (the top one first), its macros, its open conditions (the outermost first), whether a line begins, its text. -/
structure In (w : World) (B ib : Nat) (C : Cfg) (ab : List Ab) (mn : Nat) (mac : Bs → Option Mc) (ifs : List Bool) (bol : Bool) (text : Bs) (S : Nat → Value) (rs : List RS) : Prop where
  stk : Stk w B ib S rs
  abs : All2 rs ab
  nms : ∀ r ∈ rs, PB w r.bb r.nm
  env : Env w B S C mn mac ifs
  s3 : S 3 = .bool bol
  s6 : S 6 = .string (mkS text)
  s7 : S 7 = .bool false
  s8 : ∃ n, S 8 = .int .i32 n
  s9 : ∃ s, S 9 = .string s

/-- .. the place of its readers hidden. -/
def Inp (w : World) (B ib : Nat) (C : Cfg) (ab : List Ab) (mn : Nat) (mac : Bs → Option Mc) (ifs : List Bool) (bol : Bool) (text : Bs) : Prop := ∃ S rs, In w B ib C ab mn mac ifs bol text S rs

/-- What the input's functions may write: blocks from B on, of some types, and maps. -/
def MT2 (bl : Bool) (T : TypeId) : Prop := MT T ∨ (bl = true ∧ T = 4)
theorem mt2_not {bl : Bool} {T : TypeId} (h : T = 125 ∨ T = 129 ∨ T = 9 ∨ T = 138) : ¬ MT2 bl T := by
  rintro (e | ⟨_, e⟩)
  · exact mt_not (.inr h) e
  · subst e; revert h; decide
def Mut (bl : Bool) (w : World) (k : Nat) : Prop := Typed w k (MT2 bl) ∨ ∃ es c, w.heap[k]? = some (.map es c)
def Soft (B : Nat) (bl : Bool) (w w' : World) : Prop := Only (fun k => B ≤ k ∧ Mut bl w k) w w'

section
variable {B : Nat} {bl : Bool} {w w1 w2 : World}
theorem mut_back {k : Nat} (h : w1.heap[k]? = w.heap[k]?) (hm : Mut bl w1 k) : Mut bl w k := by
  rcases hm with ⟨c, T, h1, h2⟩ | ⟨es, c, h1⟩
  · exact .inl ⟨c, T, h ▸ h1, h2⟩
  · exact .inr ⟨es, c, h ▸ h1⟩
theorem Soft.refl (B : Nat) (bl : Bool) (w : World) : Soft B bl w w := Only.refl _ w
theorem Soft.trans (h : Soft B bl w w1) (k : Soft B bl w1 w2) : Soft B bl w w2 :=
  Only.trans h k (fun i hi ⟨hb, hm⟩ => by
    by_cases hd : B ≤ i ∧ Mut bl w i
    · exact hd
    · exact ⟨hb, mut_back (h.block i hi hd) hm⟩)
theorem Soft.of {E : Nat → Prop} (ho : Only E w w1) (hE : ∀ k, E k → k < w.heap.size → B ≤ k ∧ Mut bl w k) : Soft B bl w w1 := ho.mono (fun k hk e => hE k e hk)
theorem Soft.below (h : Soft B bl w w1) (hB : B ≤ w.heap.size) : Below B w w1 := Only.below h hB (fun k hk e => by omega)
theorem Soft.ofBelow (h : Below w.heap.size w w1) : Soft B bl w w1 := (Only.ofBelow h).mono (fun k hk e => absurd hk (by omega))
/-- A row of another type stays. -/
theorem Soft.row {e : TypeId} {size : Nat} {v : Value} {n : Nat} {xs : List Value} {b : Nat} (h : Soft B bl w w1) (hr : w.ownsRow b e size v n xs) (he : ¬ MT2 bl e) : w1.ownsRow b e size v n xs :=
  row_only hr h (fun k hk hlt ht => by
    rcases hk.2 with hm | ⟨es, c, hm⟩
    · exact not_typed hm he ht
    · obtain ⟨c', T, h1, _⟩ := ht
      rw [h1] at hm; cases hm)
theorem Soft.blk {b : Nat} {T : TypeId} {n : Nat} {S : Nat → Value} (h : Soft B bl w w1) (hr : Blk w b T n S) (he : ¬ MT2 bl T) : Blk w1 b T n S :=
  hr.only h (fun hk => by
    rcases hk.2 with hm | ⟨es, c, hm⟩
    · exact not_typed hm he (hr.typed rfl)
    · obtain ⟨c', h1, _⟩ := hr
      rw [h1] at hm; cases hm)
theorem Soft.glob {ev : Value} (h : Soft B bl w w1) (hg : Glob w ev) (hB : 21 ≤ B) : Glob w1 ev := hg.only h (fun k hk e => by omega)
end
/-- What a stack's method leaves. -/
def InQ (B ib : Nat) (C : Cfg) (ab : List Ab) (mn : Nat) (mac : Bs → Option Mc) (ifs : List Bool) (bol : Bool) (text : Bs) (val : Value) (w : World) (e : Ending) (w' : World) : Prop :=
  e = .returned val ∧ Inp w' B ib C ab mn mac ifs bol text ∧ Soft B C.bl w w'

section
variable {w w' : World} {B ib : Nat} {C : Cfg} {ab ab' : List Ab} {mn : Nat} {mac : Bs → Option Mc} {ifs : List Bool} {bol : Bool} {text : Bs} {S S' : Nat → Value} {rs rs' : List RS} {ev : Value}

theorem stk_typed (h : Stk w B ib S rs) : ∀ k, (k = ib ∨ (∃ q ∈ rs, q.D k) ∨ (S 0).ownBlock = some k) → B ≤ k ∧ Typed w k MT := by
  rintro k (e | ⟨q, hq, e⟩ | e)
  · exact ⟨e ▸ h.low, e ▸ h.blk.typed (.inr (.inl rfl))⟩
  · obtain ⟨h1, c, T, h2, h3⟩ := Rd.foot (h.rds q hq) k e
    exact ⟨h1, c, T, h2, .inl h3⟩
  · obtain ⟨h1, c, T, h2, h3⟩ := ownBlock_row h.row k e
    exact ⟨h1, c, T, h2, .inr (.inr h3)⟩

/-- The stack has moved. -/
theorem In.move (h : In w B ib C ab mn mac ifs bol text S rs) (hs : Stk w' B ib S' rs') (ha : All2 rs' ab') (hn : ∀ r ∈ rs', PB w' r.bb r.nm) (hS : ∀ i, i ≠ 0 → S' i = S i)
    (ho : Only (fun k => k = ib ∨ (∃ q ∈ rs, q.D k) ∨ (S 0).ownBlock = some k) w w') : In w' B ib C ab' mn mac ifs bol text S' rs' ∧ Soft B C.bl w w' := by
  have ht := stk_typed h.stk
  refine ⟨{ stk := hs, abs := ha, nms := hn, env := h.env.only ho (fun k e _ => (ht k e).2) (hS 1 (by omega)) (hS 2 (by omega)) (hS 4 (by omega)) (hS 5 (by omega)), s3 := (hS 3 (by omega)).trans h.s3, s6 := (hS 6 (by omega)).trans h.s6, s7 := (hS 7 (by omega)).trans h.s7, s8 := by rw [hS 8 (by omega)]; exact h.s8, s9 := by rw [hS 9 (by omega)]; exact h.s9 }, ?_⟩
  exact Soft.of ho (fun k e _ => ⟨(ht k e).1, by obtain ⟨c, T, h1, h2⟩ := (ht k e).2; exact .inl ⟨c, T, h1, .inl h2⟩⟩)

theorem pb_keep (h : In w B ib C ab mn mac ifs bol text S rs) (ho : Only (fun k => k = ib ∨ (∃ q ∈ rs, q.D k) ∨ (S 0).ownBlock = some k) w w') {r : RS} (hr : r ∈ rs) : PB w' r.bb r.nm := by
  have hp := h.nms r hr
  refine hp.only ho (fun e => ?_)
  obtain ⟨S2, hb, _⟩ := hp
  exact not_typed (stk_typed h.stk _ e).2 (mt_not (.inr (.inr (.inr (.inr rfl))))) (hb.typed rfl)

theorem inNext {dead rest : List Ab} {a : Ab} {t : Tok} {ts : List Tok} (h : Inp w B ib C (dead ++ a :: rest) mn mac ifs bol text) (hd : ∀ d ∈ dead, d.ts = []) (hts : a.ts = t :: ts) (hg : Glob w ev) (hB : 21 ≤ B) (hl : (dead ++ a :: rest).length < 500) :
    Calls Tryz.prog 58 #[.pointer (some ⟨ib, 0, none⟩)] w (InQ B ib C ({ a with cur := t, ts := ts } :: rest) mn mac ifs bol text (.int .i32 t.k) w) := by
  obtain ⟨S, rs, h⟩ := h
  obtain ⟨rx, r, ry, rfl, a1, a2, a3⟩ := h.abs.split
  have hlen := h.abs.len
  have hk : t.k ≠ -1 := by
    have := h.stk.rds r (by simp)
    unfold RS.ok at this
    rw [a2.2.2.1, hts] at this
    exact this.not_eof
  refine (stNext hB (a2.2.2.1.trans hts) hk rx h.stk (a1.dead hd) hg (by omega)).mono ?_
  rintro e w' ⟨rfl, S', D', hs, hS, ho, hgr⟩
  have ho' : Only (fun k => k = ib ∨ (∃ q ∈ rx ++ r :: ry, q.D k) ∨ (S 0).ownBlock = some k) w w' := ho.mono (fun k _ h => h.imp id (fun ⟨q, hq, e⟩ => .inl ⟨q, by simp at hq ⊢; rcases hq with hq | hq; exact .inl hq; exact .inr (.inl hq), e⟩))
  obtain ⟨h1, h2⟩ := h.move hs (ab' := { a with cur := t, ts := ts } :: rest) (.cons ⟨a2.1, rfl, rfl, a2.2.2.2⟩ a3) (fun q hq => by
    rcases List.mem_cons.1 hq with rfl | hq
    · exact pb_keep h ho' (r := r) (by simp)
    · exact pb_keep h ho' (r := q) (by simp [hq])) hS ho'
  exact ⟨rfl, ⟨_, _, h1⟩, h2⟩

theorem inEof {dead : List Ab} {a : Ab} (h : Inp w B ib C (dead ++ [a]) mn mac ifs bol text) (hd : ∀ d ∈ dead, d.ts = []) (hts : a.ts = []) (htz : a.istz = true) (hg : Glob w ev) (hB : 21 ≤ B) (hl : (dead ++ [a]).length < 500) :
    Calls Tryz.prog 58 #[.pointer (some ⟨ib, 0, none⟩)] w (fun e w' => ∃ c, InQ B ib C [{ a with cur := ⟨-1, [], a.cur.line, c⟩, ts := [] }] mn mac ifs bol text (.int .i32 (-1)) w e w') := by
  obtain ⟨S, rs, h⟩ := h
  obtain ⟨rx, r, ry, rfl, a1, a2, a3⟩ := h.abs.split
  have hlen := h.abs.len
  cases a3
  obtain ⟨tz, hv⟩ := a2.2.2.2 htz
  refine (stEof hB (a2.2.2.1.trans hts) hv rx h.stk (a1.dead hd) hg (by omega)).mono ?_
  rintro e w' ⟨rfl, S', D', c, hs, hS, ho, hgr⟩
  have ho' : Only (fun k => k = ib ∨ (∃ q ∈ rx ++ r :: [], q.D k) ∨ (S 0).ownBlock = some k) w w' := ho.mono (fun k _ h => h.imp id (fun ⟨q, hq, e⟩ => .inl ⟨q, hq, e⟩))
  obtain ⟨h1, h2⟩ := h.move hs (ab' := [{ a with cur := ⟨-1, [], a.cur.line, c⟩, ts := [] }]) (.cons ⟨a2.1, by show (⟨-1, [], r.cur.line, c⟩ : Tok) = _; rw [a2.2.1], rfl, a2.2.2.2⟩ .nil) (fun q hq => by
    rcases List.mem_cons.1 hq with rfl | hq
    · exact pb_keep h ho' (r := r) (by simp)
    · cases hq) hS ho'
  exact ⟨c, rfl, ⟨_, _, h1⟩, h2⟩

theorem inText {rest : List Ab} {a : Ab} (h : Inp w B ib C (a :: rest) mn mac ifs bol text) (hk : a.cur.k ≠ 0) (hl : (a :: rest).length < 500) :
    Calls Tryz.prog 60 #[.pointer (some ⟨ib, 0, none⟩)] w (InQ B ib C (a :: rest) mn mac ifs bol text (.string (mkS a.cur.x)) w) := by
  obtain ⟨S, rs, h⟩ := h
  have hlen := h.abs.len
  have hab := h.abs
  cases hab with
  | @cons r _ ry _ a2 a3 =>
    have hc := a2.2.1
    refine (stkText h.stk (by rw [hc]; exact hk) (by simp at hlen hl; omega)).mono ?_
    rintro e w' ⟨rfl, D', hs, ho, hgr⟩
    have ho' : Only (fun k => k = ib ∨ (∃ q ∈ r :: ry, q.D k) ∨ (S 0).ownBlock = some k) w w' := ho.mono (fun k _ h => .inr (.inl ⟨r, by simp, h⟩))
    obtain ⟨h1, h2⟩ := h.move hs (ab' := a :: rest) (.cons ⟨a2.1, a2.2.1, a2.2.2.1, a2.2.2.2⟩ a3) (fun q hq => by
      rcases List.mem_cons.1 hq with rfl | hq
      · exact pb_keep h ho' (r := r) (by simp)
      · exact pb_keep h ho' (r := q) (by simp [hq])) (fun _ _ => rfl) ho'
    exact ⟨by rw [hc], ⟨_, _, h1⟩, h2⟩

theorem Inp.drewN (h : Inp w B ib C ab mn mac ifs bol text) (m : Nat) : Inp (w.drewN m) B ib C ab mn mac ifs bol text := by
  obtain ⟨S, rs, h⟩ := h
  have ho := (Only.refl (fun k => k = ib ∨ (∃ q ∈ rs, q.D k) ∨ (S 0).ownBlock = some k) w).drewN m
  exact ⟨S, rs, (h.move (h.stk.drewN m) h.abs (fun r hr => pb_keep h ho hr) (fun _ _ => rfl) ho).1⟩

theorem inLine {rest : List Ab} {a : Ab} (h : Inp w B ib C (a :: rest) mn mac ifs bol text) (hl : (a :: rest).length < 500) :
    Calls Tryz.prog 47 #[.pointer (some ⟨ib, 0, none⟩)] w (fun e w' => e = .returned (.int .i64 a.cur.line) ∧ ∃ m, w' = w.drewN m) := by
  obtain ⟨S, rs, h⟩ := h
  have hlen := h.abs.len
  have hab := h.abs
  cases hab with
  | @cons r _ ry _ a2 a3 =>
    rw [← a2.2.1]
    exact stkLine h.stk (by simp at hlen hl; omega)
theorem inFile {rest : List Ab} {a : Ab} (h : Inp w B ib C (a :: rest) mn mac ifs bol text) (hl : (a :: rest).length < 500) :
    Calls Tryz.prog 46 #[.pointer (some ⟨ib, 0, none⟩)] w (fun e w' => e = .returned (.string a.nm) ∧ ∃ m, w' = w.drewN m) := by
  obtain ⟨S, rs, h⟩ := h
  have hlen := h.abs.len
  have hab := h.abs
  cases hab with
  | @cons r _ ry _ a2 a3 =>
    rw [← a2.1]
    exact stkFile h.stk (by simp at hlen hl; omega) (h.nms r (by simp))
end
section
variable {w w' : World} {B ib : Nat} {C : Cfg} {ab ab' : List Ab} {mn : Nat} {mac : Bs → Option Mc} {ifs : List Bool} {bol : Bool} {text : Bs} {S S' : Nat → Value} {rs rs' : List RS} {ev : Value}

theorem Toki.drewN {w : World} {v : Value} {ts : List (Int × Bs)} (h : Toki w v ts) (m : Nat) : Toki (w.drewN m) v ts := ownsRow_only h (fun _ _ => rfl)
theorem Inp.low (h : Inp w B ib C ab mn mac ifs bol text) : B ≤ ib ∧ ib < w.heap.size := by
  obtain ⟨S, rs, h⟩ := h
  exact ⟨h.stk.low, h.stk.blk.lt⟩

theorem inBase {rest : List Ab} {a : Ab} (h : Inp w B ib C (a :: rest) mn mac ifs bol text) (hl : (a :: rest).length < 500) :
    Calls Tryz.prog 63 #[.pointer (some ⟨ib, 0, none⟩)] w (fun e w' => ∃ bb m, e = .returned (.pointer (some ⟨bb, 0, none⟩)) ∧ PB w bb a.nm ∧ w' = w.drewN m) := by
  obtain ⟨S, rs, h⟩ := h
  have hlen := h.abs.len
  have hab := h.abs
  cases hab with
  | @cons r _ ry _ a2 a3 =>
    refine (stkBase h.stk (by simp at hlen hl; omega)).mono ?_
    rintro e w' ⟨rfl, m, rfl⟩
    exact ⟨r.bb, m, rfl, a2.1 ▸ h.nms r (by simp), rfl⟩

/-- New blocks are made. -/
theorem Inp.below (h : Inp w B ib C ab mn mac ifs bol text) (hb : Below w.heap.size w w') : Inp w' B ib C ab mn mac ifs bol text := by
  obtain ⟨S, rs, h⟩ := h
  have ho : Only (fun k => k = ib ∨ (∃ q ∈ rs, q.D k) ∨ (S 0).ownBlock = some k) w w' := (Only.ofBelow hb).mono (fun k hk e => by omega)
  exact ⟨S, rs, (h.move (h.stk.below hb) h.abs (fun r hr => pb_keep h ho hr) (fun _ _ => rfl) ho).1⟩

/-- A new reader is pushed: its blocks are newer than the input's. -/
theorem inPushS {w0 : World} {r : RS} {a : Ab} (h0 : Inp w0 B ib C ab mn mac ifs bol text) (hb : Below w0.heap.size w0 w) (hr : r.ok w B) (hn : ∀ k, r.D k → w0.heap.size ≤ k) (hp : PB w r.bb r.nm) (ha : r.is a) (hl : ab.length < 500) :
    Calls Tryz.prog 54 #[.pointer (some ⟨ib, 0, none⟩), r.v] w (InQ B ib C (a :: ab) mn mac ifs bol text (.tuple #[]) w) := by
  obtain ⟨S, rs, h0⟩ := h0
  have hold : ∀ q ∈ rs, ∀ k, q.D k → k < w0.heap.size := fun q hq k hk => (Rd.foot (h0.stk.rds q hq) k hk).2.lt
  have ho0 : Only (fun k => k = ib ∨ (∃ q ∈ rs, q.D k) ∨ (S 0).ownBlock = some k) w0 w := (Only.ofBelow hb).mono (fun k hk e => by omega)
  have h := (h0.move (h0.stk.below hb) h0.abs (fun r hr => pb_keep h0 ho0 hr) (fun _ _ => rfl) ho0).1
  have hlen := h.abs.len
  refine (stkPush h.stk hr (fun q hq k k1 k2 => by have := hold q hq k k2; have := hn k k1; omega) (by omega)).mono ?_
  rintro e w' ⟨rfl, S', hs, hS, ho⟩
  have ho' : Only (fun k => k = ib ∨ (∃ q ∈ rs, q.D k) ∨ (S 0).ownBlock = some k) w w' := ho.mono (fun k _ h => h.imp id .inr)
  obtain ⟨h1, h2⟩ := h.move hs (ab' := a :: ab) (.cons ha h.abs) (fun q hq => by
    rcases List.mem_cons.1 hq with rfl | hq
    · refine hp.only ho' (fun e => ?_)
      obtain ⟨S2, hb2, _⟩ := hp
      exact not_typed (stk_typed h.stk _ e).2 (mt_not (.inr (.inr (.inr (.inr rfl))))) (hb2.typed rfl)
    · exact pb_keep h ho' hq) hS ho'
  exact ⟨rfl, ⟨_, _, h1⟩, h2⟩

set_option maxRecDepth 100000 in
set_option maxHeartbeats 1000000 in
theorem inPush {w0 : World} {r : RS} {a : Ab} (h0 : Inp w0 B ib C ab mn mac ifs bol text) (hb : Below w0.heap.size w0 w) (hr : r.ok w B) (hn : ∀ k, r.D k → w0.heap.size ≤ k) (hp : PB w r.bb r.nm) (ha : r.is a) (hl : ab.length ≤ 100) :
    Calls Tryz.prog 41 #[.pointer (some ⟨ib, 0, none⟩), r.v] w (InQ B ib C (a :: ab) mn mac ifs bol text (.tuple #[]) w) := by
  have Hpush := Lib.hid (inPushS h0 hb hr hn hp ha (by omega))
  obtain ⟨S, rs, hi⟩ := h0.below hb
  have hlen := hi.abs.len
  obtain ⟨n, cap, ad, hS, hnl⟩ : ∃ n cap ad, S 0 = .slice ad n cap ∧ n ≤ 100 := by
    obtain ⟨_, ⟨e, e0⟩ | ⟨g, cap, cur, e, _⟩⟩ := hi.stk.row
    · exact ⟨0, 0, none, e, by omega⟩
    · exact ⟨rs.length, cap, _, e, by omega⟩
  have c0 := hi.stk.blk.cell_eq (i := 0) (by decide) hS
  have n1 : ¬ (100 : Int) < (n : Int) := by omega
  obtain ⟨T, A, hv⟩ : ∃ T A, r.v = .iface T (.pointer (some A)) := by
    rcases Rd.kinds hr with ⟨tz, e⟩ | ⟨tz, e⟩ <;> exact ⟨_, _, e⟩
  rw [hv] at Hpush ⊢
  clear hi hS hlen hl h0 hb hr hn hp ha hv
  go_enter Tryz.func41, Tryz.ntmps41
  go_wp2_with fail
  refine Hpush.out.mono ?_
  rintro e w1 hq
  have Hq := Lib.hid hq
  obtain ⟨rfl, _⟩ := hq
  go_wp2
  go_end0
  exact Hq.out

def InvQ (B ib : Nat) (C : Cfg) (ab : List Ab) (mn : Nat) (mac : Bs → Option Mc) (ifs : List Bool) (bol : Bool) (text : Bs) (w : World) (e : Ending) (w' : World) : Prop := InQ B ib C ab mn mac ifs bol text (.tuple #[]) w e w'

/-- A reader of tokens, told without memory. -/
def slAb (nm : ByteArray) (line : Nat) (ts : List (Int × Bs)) : Ab := ⟨false, nm, ⟨0, [], line, 0⟩, ts.map (sTok line)⟩

/-- A new list of tokens is pushed. -/
theorem inPush_sl {w0 : World} {sl bb line : Nat} {tv : Value} {nm : ByteArray} {ts : List (Int × Bs)} (h0 : Inp w0 B ib C ab mn mac ifs bol text) (hb : Below w0.heap.size w0 w) (hs : Sl w B sl tv (.pointer (some ⟨bb, 0, none⟩)) line ts 0) (hsl : w0.heap.size ≤ sl)
    (htl : ts.length < 1000000) (htk : ∀ t ∈ ts, t.1 ≠ -1) (hp : PB w0 bb nm) (hl : ab.length ≤ 100) :
    Calls Tryz.prog 41 #[.pointer (some ⟨ib, 0, none⟩), .iface 141 (.pointer (some ⟨sl, 0, none⟩))] w (InQ B ib C (slAb nm line ts :: ab) mn mac ifs bol text (.tuple #[]) w) :=
  inPush (r := ⟨.iface 141 (.pointer (some ⟨sl, 0, none⟩)), fun k => k = sl, bb, nm, ⟨0, [], line, 0⟩, ts.map (sTok line)⟩) h0 hb (by
    have := Rd.sl (bb := bb) (cur := ⟨0, [], line, 0⟩) hs (Nat.zero_le _) htl htk rfl (.inl rfl)
    exact this) (fun k hk => by cases hk; exact hsl) (by
      obtain ⟨S, hb2, hn⟩ := hp
      exact ⟨S, hb2.of_heap (hb.block _ hb2.lt), hn⟩) ⟨rfl, rfl, rfl, fun h => by cases h⟩ hl

set_option maxRecDepth 100000 in
set_option maxHeartbeats 2000000 in
theorem invoke_plain {rest : List Ab} {a : Ab} {b : Nat} {x : Bs} {m : Mc} (h : Inp w B ib C (a :: rest) mn mac ifs bol text) (hm : MacAt w C.lim b x m) (hargs : m.args = none) (hl : (a :: rest).length ≤ 100) (htl : m.toks.length < 1000000) (htk : ∀ t ∈ m.toks, t.1 ≠ -1) :
    Calls Tryz.prog 61 #[.pointer (some ⟨ib, 0, none⟩), .pointer (some ⟨b, 0, none⟩)] w (InvQ B ib C (slAb a.nm a.cur.line m.toks :: a :: rest) mn mac ifs bol text w) := by
  obtain ⟨S, hb, _, h0, ht, h1⟩ := hm
  rw [hargs] at h1
  have c1 := hb.cell_eq (i := 1) (by decide) h1
  obtain ⟨ta, tl, tc, hS2⟩ : ∃ ta tl tc, S 2 = .slice ta tl tc := by
    obtain ⟨_, ⟨e, e0⟩ | ⟨g, cap, cur, e, _⟩⟩ := ht
    · exact ⟨_, _, _, e⟩
    · exact ⟨_, _, _, e⟩
  rw [hS2] at ht
  have c2 := hb.cell_eq (i := 2) (by decide) hS2
  have H := Lib.hid h
  have Ht := Lib.hid ht
  have HB := Lib.hid hb
  have HS2 := Lib.hid hS2
  have hsn := Lib.run_eql_slice_nil (P := Tryz.prog)
  have hBw : B ≤ w.heap.size := Nat.le_trans h.low.1 (Nat.le_of_lt h.low.2)
  have hbw : b < w.heap.size := hb.lt
  clear hb h0 ht h1 hS2 h
  go_enter Tryz.func61, Tryz.ntmps61
  go_wp2_with fail
  go_region_held3 (fun w' => w'.cell? ⟨b, 2, none⟩ = some (.slice ta tl tc)) (first | exact c2 | assumption)
    (first
      | (go_at_call 63; refine (inBase (H.out.drewN 1) (by omega)).mono ?_; rintro e w1 ⟨bb, m1, rfl, hpb, rfl⟩; have HPB := Lib.hid hpb; clear hpb)
      | (go_at_call 47; refine (inLine (H.out.drewN _) (by omega)).mono ?_; rintro e w1 ⟨rfl, m2, rfl⟩)
      | (go_at_call 81; refine (newSlice_any (w := w.drewN _) (B := B) hBw (Ht.out.drewN _)).mono ?_; rintro e w1 ⟨sl, rfl, hsl, hle, hbel⟩; have hc2 : w1.cell? ⟨b, 2, none⟩ = some (.slice ta tl tc) := (hbel.cell (p := ⟨b, 2, none⟩) hbw).trans c2; have HW1 : Hid (Below w.heap.size w w1) := Lib.hid ⟨hbel.os, hbel.tape, hbel.output, hbel.size, hbel.block⟩; have HSL := Lib.hid hsl; have HBEL := Lib.hid hbel; have HLE := Lib.hid hle; clear hsl hbel hle)
      | (go_at_call 41; refine (inPush_sl (H.out.drewN _) HBEL.out HSL.out HLE.out htl htk HPB.out hl).mono ?_; rintro e w2 hq; have hc3 := ((hq.2.2.blk (HB.out.of_heap (HW1.out.block _ hbw)) (mt2_not (by decide))).cell_eq (i := 2) (by decide) HS2.out); have Hq : Hid (InvQ B ib C (slAb a.nm a.cur.line m.toks :: a :: rest) mn mac ifs bol text w e w2) := Lib.hid ⟨hq.1, hq.2.1, (Soft.ofBelow HW1.out).trans hq.2.2⟩; obtain ⟨rfl, _⟩ := hq))
  go_wp2
  go_end0
  exact Hq.out

/-- The stack's Col at the input: the top reader is a tokenizer that has something left. -/
theorem inCol {rest : List Ab} {a : Ab} (h : Inp w B ib C (a :: rest) mn mac ifs bol text) (htz : a.istz = true) (hk : a.cur.k ≠ 0) (hts : a.ts ≠ []) (hl : (a :: rest).length < 500) :
    Calls Tryz.prog 118 #[.pointer (some ⟨ib, 0, none⟩)] w (InQ B ib C (a :: rest) mn mac ifs bol text (.int .i64 a.cur.col) w) := by
  have h' := h
  obtain ⟨S, rs, h⟩ := h
  have hlen := h.abs.len
  have hab := h.abs
  cases hab with
  | @cons r _ ry _ a2 a3 =>
    obtain ⟨tz, hv⟩ := a2.2.2.2 htz
    refine (stkCol h.stk hv (by rw [a2.2.1]; exact hk) (by rw [a2.2.2.1]; exact hts) (by simp at hlen hl; omega)).mono ?_
    rintro e w' ⟨rfl, _, hb⟩
    exact ⟨by rw [a2.2.1], h'.below hb, Soft.ofBelow hb⟩

/-- What enabled says. -/
def onB (ifs : List Bool) : Bool := match ifs.getLast? with | none => true | some b => b

set_option maxRecDepth 100000 in
set_option maxHeartbeats 1000000 in
theorem inEnabled (h : Inp w B ib C ab mn mac ifs bol text) (hl : ifs.length < 1000) :
    Calls Tryz.prog 62 #[.pointer (some ⟨ib, 0, none⟩)] w (fun e w' => e = .returned (.bool (onB ifs)) ∧ ∃ m, w' = w.drewN m) := by
  obtain ⟨S, rs, h⟩ := h
  have hrow := h.env.ifr
  rcases List.eq_nil_or_concat ifs with rfl | ⟨l, b, rfl⟩
  · have hS : S 4 = .slice none 0 0 ∨ ∃ g c, S 4 = .slice (some ⟨g, 0, none⟩) 0 c := by
      obtain ⟨_, ⟨e, e0⟩ | ⟨g, cap, cur, e, _⟩⟩ := hrow
      · exact .inl e
      · exact .inr ⟨g, cap, e⟩
    obtain ⟨ad, c, hS⟩ : ∃ ad c, S 4 = .slice ad 0 c := by
      rcases hS with e | ⟨g, c, e⟩
      · exact ⟨_, _, e⟩
      · exact ⟨_, _, e⟩
    have c4 := h.stk.blk.cell_eq (i := 4) (by decide) hS
    clear h hrow hS
    go_enter Tryz.func62, Tryz.ntmps62
    go_wp2
    go_quiet (fail)
    go_wp2
    go_ret
    exact ⟨rfl, _, rfl⟩
  · obtain ⟨h1, ⟨_, h0⟩ | ⟨g, cap, cur, hv, ha, hb, hc, hd, he, hf⟩⟩ := h.env.ifr
    · simp at h0
    · rw [hv] at hrow
      have hcell := hrow.cells (g := g) rfl l.length (.bool b) (by simp)
      rw [Addr.add_lit, Nat.zero_add] at hcell
      have hlen : (l.concat b).length = l.length + 1 := by simp
      rw [hlen] at hv hc hl
      have c4 := h.stk.blk.cell_eq (i := 4) (by decide) hv
      have hon : onB (l.concat b) = b := by simp [onB]
      rw [hon]
      unfold maxLen at hd
      clear h hrow hv hlen hon h1 ha hb he hf
      obtain ⟨L, hL⟩ : ∃ L, L = l.length := ⟨_, rfl⟩
      rw [← hL] at hcell c4 hc hl
      clear hL
      have e1 : IntKind.i64.wrap (L : Int) = (L : Int) := IntWalk.i64_in _ (by omega)
      have e2 : (L : Int) < (L : Int) + 1 := by omega
      have e3 : (((L + 1 : Nat) : Int) == 0) = false := by simp; omega
      have e4 : ((L : Int) + 1 == 0) = false := by simp; omega
      go_enter Tryz.func62, Tryz.ntmps62
      go_wp2
      go_quiet (fail)
      go_wp2
      go_ret
      exact ⟨rfl, _, rfl⟩
end
section
variable {w w' : World} {B ib : Nat} {C : Cfg} {ab ab' : List Ab} {mn : Nat} {mac : Bs → Option Mc} {ifs : List Bool} {bol : Bool} {text : Bs} {S S' : Nat → Value} {rs rs' : List RS} {ev : Value}

def NameQ (B ib : Nat) (C : Cfg) (ab : List Ab) (mn : Nat) (mac : Bs → Option Mc) (ifs : List Bool) (bol : Bool) (text : Bs) (val : Value) (w : World) (e : Ending) (w' : World) : Prop := InQ B ib C ab mn mac ifs bol text val w e w'

theorem InQ.soft {w0 : World} {val : Value} {e : Ending} (h : InQ B ib C ab mn mac ifs bol text val w e w') (hs : Soft B C.bl w0 w) : InQ B ib C ab mn mac ifs bol text val w0 e w' := ⟨h.1, h.2.1, hs.trans h.2.2⟩

set_option maxRecDepth 100000 in
set_option maxHeartbeats 1000000 in
theorem inMacroName {dead rest : List Ab} {a : Ab} {t : Tok} {ts : List Tok} (h : Inp w B ib C (dead ++ a :: rest) mn mac ifs bol text) (hd : ∀ d ∈ dead, d.ts = []) (hts : a.ts = t :: ts) (hk : t.k = -2) (hg : Glob w ev) (hB : 21 ≤ B) (hl : (dead ++ a :: rest).length < 500) :
    Calls Tryz.prog 95 #[.pointer (some ⟨ib, 0, none⟩)] w (InQ B ib C ({ a with cur := t, ts := ts } :: rest) mn mac ifs bol text (.string (mkS t.x)) w) := by
  have Hn := Lib.hid (inNext h hd hts hg hB hl)
  have hl2 : ({ a with cur := t, ts := ts } :: rest : List Ab).length < 500 := by simp at hl ⊢; omega
  rw [hk] at Hn
  clear h hd hts hg hl
  go_enter Tryz.func95, Tryz.ntmps95
  go_wp2_with fail
  refine Hn.out.mono ?_
  rintro e w1 ⟨rfl, h1, s1⟩
  have Ht := Lib.hid (inText h1 (by show t.k ≠ 0; rw [hk]; decide) hl2)
  have S1 := Lib.hid s1
  clear h1 s1 Hn
  go_wp2_with fail
  refine Ht.out.mono ?_
  rintro e w2 hq
  have Hq := Lib.hid (hq.soft S1.out)
  obtain ⟨rfl, _⟩ := hq
  go_wp2
  go_ret
  exact Hq.out

theorem MacAt.mono {L L' b : Nat} {x : Bs} {m : Mc} (h : MacAt w L b x m) (hL : L ≤ L') : MacAt w L' b x m := by
  obtain ⟨S, hb, ⟨l1, l2, l3⟩, h⟩ := h
  exact ⟨S, hb, ⟨by omega, fun k hk => by have := l2 k hk; omega, fun k hk => by have := l3 k hk; omega⟩, h⟩
/-- The bound is raised. -/
theorem In.mono {L : Nat} (h : In w B ib C ab mn mac ifs bol text S rs) (hL : C.lim ≤ L) : In w B ib { C with lim := L } ab mn mac ifs bol text S rs := by
  obtain ⟨f, m1, m2, m3⟩ := h.env.mcs
  have hen : Env w B S { C with lim := L } mn mac ifs := ⟨h.env.ifr, h.env.mcv, ⟨f, m1, m2, fun x m hx => by obtain ⟨b, hb, hm⟩ := m3 x m hx; exact ⟨b, hb, hm.mono hL⟩⟩, h.env.mlow, h.env.fiv, h.env.fis, h.env.ne, h.env.inv, fun k hk => Nat.lt_of_lt_of_le (h.env.inl k hk) hL⟩
  exact ⟨h.stk, h.abs, h.nms, hen, h.s3, h.s6, h.s7, h.s8, h.s9⟩
theorem Inp.mono {L : Nat} (h : Inp w B ib C ab mn mac ifs bol text) (hL : C.lim ≤ L) : Inp w B ib { C with lim := L } ab mn mac ifs bol text := by
  obtain ⟨S, rs, h⟩ := h
  exact ⟨S, rs, h.mono hL⟩

/-- A reader of a text asks nothing of lists of tokens. -/
theorem Rd.only_tz {E : Nat → Prop} {v : Value} {D : Nat → Prop} {bb : Nat} {cur : Tok} {ts : List Tok} (h : Rd w B v D bb cur ts) (hv : isTz v) (ho : Only E w w') (hd : ∀ k, D k → ¬ E k) : Rd w' B v D bb cur ts := by
  obtain ⟨tz, rfl⟩ := hv
  generalize hq : Value.iface 70 (.pointer (some ⟨tz, 0, none⟩)) = q at h
  cases h with
  | tz h1 h2 h3 h4 => exact .tz (h1.only ho hd) h2 h3 h4
  | sl => injection hq with e; exact absurd e (by decide)

theorem All2.mem : ∀ {rs : List RS} {ab : List Ab}, All2 rs ab → ∀ r ∈ rs, ∃ a ∈ ab, r.is a
  | _, _, .nil, _, h => by cases h
  | _, _, .cons h1 h2, r, h => by
    rcases List.mem_cons.1 h with rfl | h
    · exact ⟨_, by simp, h1⟩
    · obtain ⟨a, ha, hr⟩ := h2.mem r h
      exact ⟨a, by simp [ha], hr⟩

/-- A list that is being made is written: of tokens, of strings. -/
theorem Inp.rowed {E : Nat → Prop} (h : Inp w B ib C ab mn mac ifs bol text) (htz : ∀ a ∈ ab, a.istz = true) (ho : Only E w w') (hE : ∀ k, E k → k < w.heap.size → C.lim ≤ k ∧ (Typed w k (· = 125) ∨ Typed w k (· = 9))) : Inp w' B ib C ab mn mac ifs bol text := by
  obtain ⟨S, rs, h⟩ := h
  have hty : ∀ {k : Nat} {P : TypeId → Prop}, Typed w k P → (¬ P 125) → (¬ P 9) → ¬ E k := fun {k P} ht h1 h2 e => by
    rcases (hE k e ht.lt).2 with h | h
    · exact typed_ne ht h (fun T a b => h1 (b ▸ a)) rfl
    · exact typed_ne ht h (fun T a b => h2 (b ▸ a)) rfl
  have hlim : ∀ k, k < C.lim → k < w.heap.size → ¬ E k := fun k h1 h2 e => by have := (hE k e h2).1; omega
  have hb0 : Blk w' ib 82 10 S := h.stk.blk.only ho (hty (h.stk.blk.typed (P := (· = 82)) rfl) (by decide) (by decide))
  have rowk : ∀ {e : TypeId} {size : Nat} {v : Value} {n : Nat} {xs : List Value} {b : Nat}, w.ownsRow b e size v n xs → (∀ k, v.ownBlock = some k → k < w.heap.size → ¬ E k) → w'.ownsRow b e size v n xs := fun hr hk => ownsRow_only hr (fun k e => by
    have ht := (ownBlock_row hr k e).2
    exact ho.block k ht.lt (hk k e ht.lt))
  have rowt : ∀ {e : TypeId} {size : Nat} {v : Value} {n : Nat} {xs : List Value} {b : Nat}, w.ownsRow b e size v n xs → e ≠ 125 → e ≠ 9 → w'.ownsRow b e size v n xs := fun hr h1 h2 => rowk hr (fun k hk _ => hty (ownBlock_row hr k hk).2 (fun e => h1 e.symm) (fun e => h2 e.symm))
  have hr0 : ∀ r ∈ rs, r.ok w' B := fun r hr => by
    obtain ⟨a, ha, hra⟩ := h.abs.mem r hr
    exact Rd.only_tz (h.stk.rds r hr) (hra.2.2.2 (htz a ha)) ho (fun k hk => hty (Rd.foot (h.stk.rds r hr) k hk).2 (by unfold RT; decide) (by unfold RT; decide))
  have hs : Stk w' B ib S rs := ⟨hb0, h.stk.low, rowt h.stk.row (by decide) (by decide), hr0, h.stk.apart⟩
  obtain ⟨f, m1, m2, m3⟩ := h.env.mcs
  have hmap : ∀ {b n : Nat} {f : Bs → Option Value}, SMap w b n f → SMap w' b n f := fun hm => hm.of_heap (ho.block _ hm.lt (fun e => by
    rcases (hE _ e hm.lt).2 with h | h
    · exact hm.not_typed h
    · exact hm.not_typed h))
  obtain ⟨nf, hf⟩ := h.env.fis
  have hen : Env w' B S C mn mac ifs := ⟨rowt h.env.ifr (by decide) (by decide), h.env.mcv, ⟨f, hmap m1, m2, fun x m hx => by
      obtain ⟨b, hb, S2, hb2, ⟨l1, l2, l3⟩, h0, h2, h1⟩ := m3 x m hx
      refine ⟨b, hb, S2, hb2.only ho (hlim b l1 hb2.lt), ⟨l1, l2, l3⟩, h0, rowk h2 (fun k hk hlt => hlim k (l3 k hk) hlt), ?_⟩
      cases hma : m.args with
      | none => rw [hma] at h1; exact h1
      | some l => rw [hma] at h1; exact ⟨h1.1, rowk h1.2 (fun k hk hlt => hlim k (l2 k hk) hlt)⟩⟩, h.env.mlow, h.env.fiv, ⟨nf, hmap hf⟩, h.env.ne, rowk h.env.inv (fun k hk hlt => hlim k (h.env.inl k hk) hlt), h.env.inl⟩
  refine ⟨S, rs, ⟨hs, h.abs, fun r hr => ?_, hen, h.s3, h.s6, h.s7, h.s8, h.s9⟩⟩
  obtain ⟨S2, hb, hn⟩ := h.nms r hr
  exact ⟨S2, hb.only ho (hty (hb.typed (P := (· = 138)) rfl) (by decide) (by decide)), hn⟩

/-- The map of macros is written. -/
theorem In.mapd {mn' : Nat} {mac' : Bs → Option Mc} (h : In w B ib C ab mn mac ifs bol text S rs) (ho : Only (fun k => k = C.mb) w w') (hm : Macs w' C.lim C.mb mn' mac') : In w' B ib C ab mn' mac' ifs bol text S rs ∧ Soft B C.bl w w' := by
  obtain ⟨f, m1, m2, m3⟩ := h.env.mcs
  have hnt : ∀ {k : Nat} {P : TypeId → Prop}, Typed w k P → k ≠ C.mb := fun ht e => m1.not_typed (e ▸ ht)
  obtain ⟨nf, hf⟩ := h.env.fis
  have hb0 : Blk w' ib 82 10 S := h.stk.blk.only ho (hnt (h.stk.blk.typed (P := fun _ => True) trivial))
  have hr0 : ∀ r ∈ rs, r.ok w' B := fun r hr => Rd.only (h.stk.rds r hr) ho (fun k hk => hnt (Rd.foot (h.stk.rds r hr) k hk).2) (fun k e _ ht => hnt ht e)
  have hs : Stk w' B ib S rs := ⟨hb0, h.stk.low, row_only h.stk.row ho (fun k e _ ht => hnt ht e), hr0, h.stk.apart⟩
  have hen : Env w' B S C mn' mac' ifs := ⟨row_only h.env.ifr ho (fun k e _ ht => hnt ht e), h.env.mcv, hm, h.env.mlow, h.env.fiv, ⟨nf, hf.of_heap (ho.block _ hf.lt (fun e => h.env.ne e.symm))⟩, h.env.ne, row_only h.env.inv ho (fun k e _ ht => hnt ht e), h.env.inl⟩
  refine ⟨⟨hs, h.abs, fun r hr => ?_, hen, h.s3, h.s6, h.s7, h.s8, h.s9⟩, ?_⟩
  · have hp := h.nms r hr
    obtain ⟨S2, hb, hn⟩ := hp
    exact ⟨S2, hb.only ho (hnt (hb.typed (P := fun _ => True) trivial)), hn⟩
  · refine Soft.of ho (fun k e _ => ?_)
    subst e
    obtain ⟨D, ⟨es, clock, hb, _⟩, _⟩ := m1
    exact ⟨h.env.mlow, .inr ⟨es, clock, hb⟩⟩

/-- The macro's arguments as a value. -/
def ArgsV (w : World) (v : Value) (args : Option (List Bs)) : Prop := match args with | none => v = .slice none 0 0 | some l => (∃ a n c, v = .slice (some a) n c) ∧ Strs w v (l.map mkS)

def DefQ (B ib : Nat) (C : Cfg) (ab : List Ab) (mn : Nat) (mac : Bs → Option Mc) (ifs : List Bool) (bol : Bool) (text : Bs) (x : Bs) (m : Mc) (w : World) (e : Ending) (w' : World) : Prop := ∃ L, InQ B ib { C with lim := L } ab (mn + 1) (fun y => if y = x then some m else mac y) ifs bol text (.tuple #[]) w e w' ∧ L = w'.heap.size

theorem zero_ptr_macro : ∀ w : World, (zeroValue 115).run Tryz.prog w = .ok (.pointer none) w := fun w => by kernel_rfl

theorem ArgsV.alloc {v : Value} {args : Option (List Bs)} (h : ArgsV w v args) (o : Obj) : ArgsV (w.alloc o) v args := by
  cases args with
  | none => exact h
  | some l => exact ⟨h.1, ownsRow_only h.2 (fun k hk => Below.heap_alloc w o k (ownBlock_row h.2 k hk).2.lt)⟩

theorem ArgsV.lt {v : Value} {args : Option (List Bs)} (h : ArgsV w v args) : ∀ k, v.ownBlock = some k → k < w.heap.size := by
  intro k hk
  cases args with
  | none => have h' : v = .slice none 0 0 := h; rw [h'] at hk; cases hk
  | some l => exact (ownBlock_row h.2 k hk).2.lt

set_option maxRecDepth 100000 in
set_option maxHeartbeats 1000000 in
theorem defineMacro_new {x : Bs} {m : Mc} {aa ta : Option Addr} {al ac tl tc : Nat} (h : Inp w B ib C ab mn mac ifs bol text) (hx : mac x = none) (hxl : x.length ≤ 1000000) (hmn : mn < 1000000) (hCl : C.lim ≤ w.heap.size) (ha : ArgsV w (.slice aa al ac) m.args) (ht : Toki w (.slice ta tl tc) m.toks) :
    Calls Tryz.prog 97 #[.pointer (some ⟨ib, 0, none⟩), .string (mkS x), .slice aa al ac, .slice ta tl tc] w (DefQ B ib C ab mn mac ifs bol text x m w) := by
  have h' := h
  obtain ⟨S, rs, h⟩ := h
  obtain ⟨f, m1, m2, m3⟩ := h.env.mcs
  have c5 := h.stk.blk.cell_eq (i := 5) (by decide) h.env.mcv
  have hlook := m1.look Tryz.underlying80 zero_ptr_macro x hxl
  rw [m2 x hx] at hlook
  simp only [Option.map_none, Option.getD_none] at hlook
  obtain ⟨w2, hup, m1', ho2⟩ := (m1.of_heap (w' := w.alloc (.cells #[.string (mkS x), .slice aa al ac, .slice ta tl tc] 129)) (Below.heap_alloc w _ _ m1.lt)).update Tryz.underlying80 hmn x hxl (.pointer (some ⟨w.heap.size, 0, none⟩))
  have hfin : DefQ B ib C ab mn mac ifs bol text x m w (.returned (.tuple #[])) w2 := by
    have hb1 : Below w.heap.size w (w.alloc (.cells #[.string (mkS x), .slice aa al ac, .slice ta tl tc] 129)) := (Below.refl _ _).alloc (Nat.le_refl _) _
    have ho : Only (fun k => k = ib ∨ (∃ q ∈ rs, q.D k) ∨ (S 0).ownBlock = some k) w (w.alloc (.cells #[.string (mkS x), .slice aa al ac, .slice ta tl tc] 129)) := (Only.ofBelow hb1).mono (fun k hk e => by omega)
    have h1 := (h.move (h.stk.below hb1) h.abs (fun r hr => pb_keep h ho hr) (fun _ _ => rfl) ho).1
    have hmlt := m1.lt
    have hne : w.heap.size ≠ C.mb := by omega
    have hE : ∀ k, k = C.mb → k < (w.alloc (.cells #[.string (mkS x), .slice aa al ac, .slice ta tl tc] 129)).heap.size → ∀ T : TypeId, ¬ Typed (w.alloc (.cells #[.string (mkS x), .slice aa al ac, .slice ta tl tc] 129)) k (· = T) := fun k e _ T ht =>
      (m1.of_heap (Below.heap_alloc w _ _ m1.lt)).not_typed (e ▸ ht)
    have hB1 := Blk.lit w #[.string (mkS x), .slice aa al ac, .slice ta tl tc] 129
    have hlim : C.lim ≤ w2.heap.size := Nat.le_trans hCl (Nat.le_trans (by simp) ho2.size)
    have h1 := h1.mono hlim
    have hlt2 : w.heap.size < w2.heap.size := by have := ho2.size; simp at this; omega
    have hmacs : Macs w2 w2.heap.size C.mb (mn + 1) (fun y => if y = x then some m else mac y) := by
      refine ⟨fun y => if y = x then some w.heap.size else f y, ?_, fun y hy => ?_, fun y m' hy => ?_⟩
      · have e1 : (fun y => if y = x then some (Value.pointer (some ⟨w.heap.size, 0, none⟩)) else (f y).map fun b => Value.pointer (some ⟨b, 0, none⟩)) = fun y => ((if y = x then some w.heap.size else f y).map fun b => Value.pointer (some ⟨b, 0, none⟩)) := by
          funext y; split <;> rfl
        rw [← e1]; exact m1'
      · by_cases e : y = x
        · simp [e] at hy
        · simp only [e, if_false] at hy ⊢; exact m2 y hy
      · by_cases e : y = x
        · simp only [e, if_true, Option.some.injEq] at hy
          subst hy
          refine ⟨w.heap.size, by simp [e], ⟨_, hB1.only ho2 hne, ⟨hlt2, fun k hk => ?_, fun k hk => ?_⟩, by rw [e]; rfl, ?_, ?_⟩⟩
          · exact Nat.lt_trans (ArgsV.lt ha k hk) hlt2
          · exact Nat.lt_trans (ownBlock_row ht k hk).2.lt hlt2
          · exact row_only (ownsRow_only ht (fun k hk => Below.heap_alloc w _ k (ownBlock_row ht k hk).2.lt)) ho2 (fun k e hk => hE k e hk _)
          · have ha1 := ha.alloc (.cells #[.string (mkS x), .slice aa al ac, .slice ta tl tc] 129)
            cases hm : m.args with
            | none => rw [hm] at ha1; exact ha1
            | some l => rw [hm] at ha1; exact ⟨ha1.1, row_only ha1.2 ho2 (fun k e hk => hE k e hk _)⟩
        · simp only [e, if_false] at hy
          obtain ⟨b, hb, hma⟩ := m3 y m' hy
          refine ⟨b, by simp [e, hb], ?_⟩
          have hma1 : MacAt (w.alloc (.cells #[.string (mkS x), .slice aa al ac, .slice ta tl tc] 129)) w2.heap.size b y m' := (hma.mono hlim).only (Only.ofBelow hb1) (fun k e hk => by omega)
          exact hma1.only ho2 (fun k e hk => ⟨hE k e hk _, hE k e hk _, hE k e hk _⟩)
    obtain ⟨h2, s2⟩ := h1.mapd ho2 hmacs
    exact ⟨_, ⟨rfl, ⟨_, _, h2⟩, (Soft.ofBelow hb1).trans s2⟩, rfl⟩
  have Hfin := Lib.hid hfin
  have Hup := Lib.hid hup
  clear h' h m1 m2 m3 m1' ho2 hfin ha ht hup
  go_enter Tryz.func97, Tryz.ntmps97
  go_wp2
  rw [Hup.out]
  go_wp2
  go_end0
  exact Hfin.out
end
theorem infoTok : (Tryz.prog.info? 125).map (fun i => (i.zero, i.size, i.bytes)) = some (some (.agg #[.int .i32 0, .string ⟨#[]⟩]), 2, 24) := by kernel_rfl

def Tok.kx (t : Tok) : Int × Bs := (t.k, t.x)

/-- A token whose text Make leaves as it is. -/
def okTok (t : Tok) : Prop := ascii t.x ∧ t.x ≠ [] ∧ t.x.length ≤ 1000

theorem Soft.new {B : Nat} {bl : Bool} {w w1 w2 : World} {E : Nat → Prop} (h : Soft B bl w w1) (k : Only E w1 w2) (hE : ∀ k, E k → w.heap.size ≤ k) : Soft B bl w w2 :=
  Only.trans h k (fun i hi e => absurd (hE i e) (by omega))

section
variable {w w' : World} {B ib : Nat} {C : Cfg} {ab ab' : List Ab} {mn : Nat} {mac : Bs → Option Mc} {ifs : List Bool} {bol : Bool} {text : Bs} {S S' : Nat → Value} {rs rs' : List RS} {ev : Value}

/-- In the loop: 'done' has been taken; t is the token at hand. -/
def MDLoop (B ib : Nat) (C : Cfg) (a : Ab) (rest : List Ab) (mn : Nat) (mac : Bs → Option Mc) (ifs : List Bool) (bol : Bool) (text : Bs) (L : List Tok) (ts : List Tok) (w : World) (n : Nat) (v7 v11 : Value) (wr : World) : Prop :=
  ∃ done t todo, L = done ++ t :: todo ∧ n = todo.length ∧ v7 = .int .i32 t.k ∧ wr.ownsRow w.heap.size 125 2 v11 done.length (cellsT (done.map Tok.kx)) ∧
    Inp wr B ib C ({ a with cur := t, ts := todo ++ ts } :: rest) mn mac ifs bol text ∧ Soft B C.bl w wr

def MDQ (B ib : Nat) (C : Cfg) (ab : List Ab) (mn : Nat) (mac : Bs → Option Mc) (ifs : List Bool) (bol : Bool) (text : Bs) (args : Option (List Bs)) (body : List (Int × Bs)) (w : World) (e : Ending) (w' : World) : Prop :=
  ∃ aa al ac ta tl tc, e = .returned (.tuple #[.slice aa al ac, .slice ta tl tc]) ∧ ArgsV w' (.slice aa al ac) args ∧ Toki w' (.slice ta tl tc) body ∧ Inp w' B ib C ab mn mac ifs bol text ∧ Soft B C.bl w w'

theorem cellsT_snoc (l : List (Int × Bs)) (t : Int × Bs) : cellsT (l ++ [t]) = cellsT l ++ [.int .i32 t.1, .string (mkS t.2)] := by
  simp [cellsT, List.flatMap_append]

theorem ownsRow_low {b b' : Nat} {e : TypeId} {size : Nat} {v : Value} {n : Nat} {xs : List Value} (h : w.ownsRow b e size v n xs) (hb : b' ≤ b) : w.ownsRow b' e size v n xs := by
  obtain ⟨h1, h2⟩ := h
  refine ⟨h1, h2.imp id ?_⟩
  rintro ⟨g, cap, cur, rfl, a, r⟩
  exact ⟨g, cap, cur, rfl, by omega, r⟩

theorem tz_mem {a : Ab} {rest : List Ab} {c : Tok} {l : List Tok} (h : ∀ q ∈ a :: rest, q.istz = true) : ∀ q ∈ ({ a with cur := c, ts := l } :: rest : List Ab), q.istz = true := fun q hq => by
  rcases List.mem_cons.1 hq with rfl | hq
  · exact h a (by simp)
  · exact h q (by simp [hq])

theorem cellTwo (w : World) (x y : Value) (T : TypeId) : ∀ j u, [x, y][j]? = some u → (w.alloc (.cells #[x, y] T)).cell? ((⟨w.heap.size, 0, none⟩ : Addr).add j) = some u := by
  intro j u h
  have hB := Blk.lit w #[x, y] T
  rw [Addr.add_lit, Nat.zero_add]
  have hj := (List.getElem?_eq_some_iff.1 h).1
  have hj2 : j < 2 := hj
  obtain rfl | rfl : j = 0 ∨ j = 1 := by omega
  · exact hB.cell_eq (i := 0) (by simp) (by simpa using h)
  · exact hB.cell_eq (i := 1) (by simp) (by simpa using h)

set_option maxRecDepth 100000 in
set_option maxHeartbeats 4000000 in
theorem macroDef_plain {a : Ab} {rest : List Ab} {t0 : Tok} {body : List Tok} {nl : Tok} {ts : List Tok} {nm : ByteArray} (h : Inp w B ib C (a :: rest) mn mac ifs bol text) (htz : ∀ q ∈ a :: rest, q.istz = true) (hak : a.cur.k ≠ 0) (hats : a.ts = t0 :: body ++ nl :: ts)
    (h0 : t0.k ≠ 40) (hb : ∀ t ∈ t0 :: body, okTok t ∧ t.k ≠ 10 ∧ t.k ≠ 92 ∧ t.k ≠ -1 ∧ t.k ≠ 0) (hnl : nl.k = 10) (hbl : body.length ≤ 1000) (hC : C.lim ≤ w.heap.size) (hg : Glob w ev) (hB : 21 ≤ B) (hl : (a :: rest).length < 500) :
    Calls Tryz.prog 96 #[.pointer (some ⟨ib, 0, none⟩), .string nm] w (MDQ B ib C ({ a with cur := nl, ts := ts } :: rest) mn mac ifs bol text none ((t0 :: body).map Tok.kx) w) := by
  obtain ⟨i0, hi, hz0, hz1, hz2⟩ := info_parts infoTok
  have Hcol := Lib.hid (inCol h (htz a (by simp)) hak (by rw [hats]; simp) hl)
  have Htz := Lib.hid htz
  have Hats := Lib.hid hats
  have Hb := Lib.hid hb
  have Hnl := Lib.hid hnl
  have Hg := Lib.hid hg
  have Hlow := Lib.hid h.low
  have hl2 : ∀ q : Ab, (q :: rest).length < 500 := fun q => by simpa using hl
  have Hl2 := Lib.hid hl2
  have Hl := Lib.hid hl
  have hne := hb t0 (by simp)
  obtain ⟨_, g1, g2, g3, g4⟩ := hne
  have b1 : (t0.k == 10) = false := by simp [g1]
  have b2 : (t0.k == -1) = false := by simp [g3]
  have b3 : (t0.k == 40) = false := by simp [h0]
  clear h htz hats hb hnl hg hl hl2 g1 g2 g3 g4
  go_enter Tryz.func96, Tryz.ntmps96
  go_wp2_with fail
  refine Hcol.out.mono ?_
  rintro e w1 ⟨rfl, h1, s1⟩
  have Hn := Lib.hid (inNext (dead := []) (t := t0) (ts := body ++ nl :: ts) h1 (fun _ h => by cases h) (by rw [Hats.out]; rfl) (s1.glob Hg.out hB) hB Hl.out)
  have S1 := Lib.hid s1
  clear h1 s1
  go_wp2_with fail
  refine Hn.out.mono ?_
  rintro e w2 ⟨rfl, h2, s2⟩
  have H2 := Lib.hid h2
  have S2 := Lib.hid (S1.out.trans s2)
  clear h2 s2
  go_wp2
  go_loopg [7, 11] (body.length + 1) (fun n v7 v11 wr => MDLoop B ib C a rest mn mac ifs bol text (t0 :: body ++ [nl]) ts w n v7 v11 wr)
  case atStart => exact ⟨[], t0, body ++ [nl], rfl, by simp, rfl, World.ownsRow_nil _ _ _ _, by have := H2.out; simpa using this, S2.out⟩
  case round =>
    obtain ⟨done, t, todo, hL, rfl, rfl, hown, hI, hS⟩ := hrel
    cases todo with
    | nil =>
      obtain ⟨hd, ht⟩ := List.append_inj' hL rfl
      obtain rfl : nl = t := by simpa using ht
      have hown' := ownsRow_low hown (Nat.zero_le _)
      rw [← hd] at hown'
      obtain ⟨ta, tl, tc, rfl⟩ : ∃ ta tl tc, u11 = .slice ta tl tc := by
        obtain ⟨_, ⟨e, e0⟩ | ⟨g, cap, cur, e, _⟩⟩ := hown
        · exact ⟨_, _, _, e⟩
        · exact ⟨_, _, _, e⟩
      have Hfin : Hid (MDQ B ib C ({ a with cur := nl, ts := ts } :: rest) mn mac ifs bol text none ((t0 :: body).map Tok.kx) w (.returned (.tuple #[.slice none 0 0, .slice ta tl tc])) wr) :=
        Lib.hid ⟨_, _, _, _, _, _, rfl, rfl, by unfold Toki; rw [List.length_map]; exact hown', hI, hS⟩
      have hk10 := Hnl.out
      clear hL hd ht hown hown' hI hS
      rw [hk10]
      go_wp2
      go_ret2
      exact Hfin.out
    | cons t1 todo =>
      have hmem : t ∈ t0 :: body := by
        have h1 := congrArg List.dropLast hL
        rw [List.dropLast_concat] at h1
        rw [h1, List.dropLast_append_of_ne_nil (by simp)]
        simp
      obtain ⟨hok, g1, g2, g3, g4⟩ := Hb.out t hmem
      have b1 : (t.k == 10) = false := by simp [g1]
      have b1' : (t.k != 10) = true := by simp [g1]
      have b2 : (t.k == -1) = false := by simp [g3]
      have b3 : (t.k == 92) = false := by simp [g2]
      have hlen : done.length + (t1 :: todo).length = (t0 :: body).length := by
        have := congrArg List.length hL
        simp at this ⊢; omega
      have hdl : done.length ≤ 1001 := by simp at hlen; omega
      have htx := inText hI (by exact g4) (Hl2.out _)
      have Htx := Lib.hid htx
      have Hown := Lib.hid hown
      have HL := Lib.hid hL
      have HS := Lib.hid hS
      have Hok := Lib.hid hok
      have hwr : w.heap.size ≤ wr.heap.size := hS.size
      have Hwr := Lib.hid hwr
      obtain ⟨tk, htk⟩ : ∃ tk, tk = t.k := ⟨_, rfl⟩
      rw [← htk] at b1 b1' b2 b3 ⊢
      have Htk := Lib.hid htk
      clear hmem g1 g2 g3 g4 hlen htx hown hL hI hS hok hwr htk
      go_wp2_with fail
      refine Htx.out.mono ?_
      rintro e w3 ⟨rfl, hI3, hS3⟩
      have HI3 := Lib.hid hI3
      have Hown3 := Lib.hid (hS3.row Hown.out (mt2_not (by decide)))
      have HS3 := Lib.hid (HS.out.trans hS3)
      have Hsz3 := Lib.hid (Nat.le_trans Hwr.out hS3.size)
      have Hmk := Lib.hid (make_any tk t.x w3 Hok.out.1 Hok.out.2.1 Hok.out.2.2)
      clear hI3 hS3
      go_wp2_with fail
      refine Hmk.out.mono ?_
      rintro e w4 ⟨rfl, hb4⟩
      have HI4 := Lib.hid (HI3.out.below hb4)
      have Hown4 := Lib.hid (ownsRow_only Hown3.out (fun k hk => hb4.block k (Hown3.out.lt k hk).2))
      have HS4 := Lib.hid (HS3.out.trans (Soft.ofBelow hb4))
      have Hsz4 := Lib.hid (Nat.le_trans Hsz3.out hb4.size)
      clear hb4
      go_wp2_with (at_builtin; refine wpList_append_own _ rfl _ _ 122 rfl w.heap.size 125 i0 (.agg #[.int .i32 0, .string ⟨#[]⟩]) 2 24 Tryz.underlying122 hi hz0 hz1 hz2 rfl (by decide) _ _ _ rfl (Hown4.out.alloc _) ⟨w4.heap.size, 0, none⟩ 1 1 [.int .i32 tk, .string (mkS t.x)] rfl rfl ?c1 ?c2 ?c3 ?c4 ?c5 ?_)
      case c1 => exact cellTwo _ _ _ _
      case c2 => intro u hu; simp at hu; rcases hu with rfl | rfl <;> rfl
      case c3 => unfold maxLen; omega
      case c4 => omega
      case c5 => have := Hsz4.out; simp; omega
      intro v' w5 hown5 hgrow _
      have HI5 : Hid (Inp w5 B ib C ({ a with cur := t, ts := (t1 :: todo) ++ ts } :: rest) mn mac ifs bol text) := Lib.hid (by
        have h1 := HI4.out.below ((Below.refl w4.heap.size w4).alloc (Nat.le_refl _) (.cells #[.int .i32 tk, .string (mkS t.x)] 125))
        refine h1.rowed (fun q hq => tz_mem Htz.out q hq) ((Only.refl (fun k => u11.ownBlock = some k) _).grown hgrow (fun k hk _ => hk)) (fun k hk _ => ?_)
        have hr := ownBlock_row (Hown4.out.alloc (.cells #[.int .i32 tk, .string (mkS t.x)] 125)) k hk
        exact ⟨by have := hr.1; omega, .inl hr.2⟩)
      have HS5 : Hid (Soft B C.bl w w5) := Lib.hid ((HS4.out.trans (Soft.ofBelow ((Below.refl w4.heap.size w4).alloc (Nat.le_refl _) (.cells #[.int .i32 tk, .string (mkS t.x)] 125)))).new ((Only.refl (fun k => u11.ownBlock = some k) _).grown hgrow (fun k hk _ => hk)) (fun k hk => (Hown4.out.lt k hk).1))
      have hown5' : w5.ownsRow w.heap.size 125 2 v' (done ++ [t]).length (cellsT ((done ++ [t]).map Tok.kx)) := by
        rw [List.length_append, List.map_append, List.map_cons, List.map_nil, cellsT_snoc]
        show w5.ownsRow w.heap.size 125 2 v' (done.length + 1) (cellsT (done.map Tok.kx) ++ [.int .i32 t.k, .string (mkS t.x)])
        rw [← Htk.out]
        exact hown5
      have Hown5 := Lib.hid hown5'
      have Hn := Lib.hid (inNext (dead := []) (t := t1) (ts := todo ++ ts) HI5.out (fun _ h => by cases h) rfl (HS5.out.glob Hg.out hB) hB (Hl2.out _))
      clear hown5 hgrow hown5'
      go_wp2_with fail
      refine Hn.out.mono ?_
      rintro e w6 ⟨rfl, h6, s6⟩
      have H6 := Lib.hid h6
      have HS6 := Lib.hid (HS5.out.trans s6)
      have Hown6 := Lib.hid (s6.row Hown5.out (mt2_not (by decide)))
      clear h6 s6
      go_wp2
      go_roundg todo.length
      case measure => simp
      case rel => exact ⟨done ++ [t], t1, todo, by rw [HL.out]; simp, rfl, rfl, Hown6.out, H6.out, HS6.out⟩
end
section
variable {w w' : World} {B ib : Nat} {C : Cfg} {ab ab' : List Ab} {mn : Nat} {mac : Bs → Option Mc} {ifs : List Bool} {bol : Bool} {text : Bs} {S S' : Nat → Value} {rs rs' : List RS} {ev : Value}

/-- A macro has been made. -/
def MadeQ (B ib : Nat) (C : Cfg) (ab : List Ab) (mn : Nat) (mac : Bs → Option Mc) (ifs : List Bool) (bol : Bool) (text : Bs) (x : Bs) (m : Mc) (val : Value) (w : World) (e : Ending) (w' : World) : Prop :=
  e = .returned val ∧ (∃ L, L ≤ w'.heap.size ∧ Inp w' B ib { C with lim := L } ab (mn + 1) (fun y => if y = x then some m else mac y) ifs bol text) ∧ Soft B C.bl w w'

set_option maxRecDepth 100000 in
set_option maxHeartbeats 1000000 in
theorem define_plain {dead rest : List Ab} {a : Ab} {nt t0 : Tok} {body : List Tok} {nl : Tok} {ts : List Tok} (h : Inp w B ib C (dead ++ a :: rest) mn mac ifs bol text) (hd : ∀ d ∈ dead, d.ts = []) (htz : ∀ q ∈ a :: rest, q.istz = true) (hats : a.ts = nt :: t0 :: body ++ nl :: ts)
    (hnk : nt.k = -2) (hnx : nt.x.length ≤ 1000) (hmac : mac nt.x = none) (hmn : mn < 1000000)
    (h0 : t0.k ≠ 40) (hb : ∀ t ∈ t0 :: body, okTok t ∧ t.k ≠ 10 ∧ t.k ≠ 92 ∧ t.k ≠ -1 ∧ t.k ≠ 0) (hnl : nl.k = 10) (hbl : body.length ≤ 1000) (hC : C.lim ≤ w.heap.size) (hg : Glob w ev) (hB : 21 ≤ B) (hl : (dead ++ a :: rest).length < 500) :
    Calls Tryz.prog 74 #[.pointer (some ⟨ib, 0, none⟩)] w (MadeQ B ib C ({ a with cur := nl, ts := ts } :: rest) mn mac ifs bol text nt.x ⟨none, (t0 :: body).map Tok.kx⟩ (.tuple #[]) w) := by
  have Hn := Lib.hid (inMacroName h hd (t := nt) (ts := t0 :: body ++ nl :: ts) hats hnk hg hB hl)
  have hl2 : ({ a with cur := nt, ts := t0 :: body ++ nl :: ts } :: rest : List Ab).length < 500 := by simp at hl ⊢; omega
  have Hdef := Lib.hid (fun (w1 : World) (h1 : Inp w1 B ib C ({ a with cur := nt, ts := t0 :: body ++ nl :: ts } :: rest) mn mac ifs bol text) (hC1 : C.lim ≤ w1.heap.size) (hg1 : Glob w1 ev) => macroDef_plain (nm := mkS nt.x) h1 (tz_mem htz) (by show nt.k ≠ 0; rw [hnk]; decide) rfl h0 hb hnl hbl hC1 hg1 hB hl2)
  have Hg := Lib.hid hg
  have Hmac := Lib.hid hmac
  clear h hd htz hats hnk hmac h0 hb hnl hbl hg hl hl2
  go_enter Tryz.func74, Tryz.ntmps74
  go_wp2_with fail
  refine Hn.out.mono ?_
  rintro e w1 ⟨rfl, h1, s1⟩
  have Hd1 := Lib.hid (Hdef.out w1 h1 (Nat.le_trans hC s1.size) (s1.glob Hg.out hB))
  have S1 := Lib.hid s1
  clear h1 s1
  go_wp2_with fail
  refine Hd1.out.mono ?_
  rintro e w2 ⟨aa, al, ac, ta, tl, tc, rfl, ha2, ht2, h2, s2⟩
  have Hdm := Lib.hid (defineMacro_new (m := ⟨none, (t0 :: body).map Tok.kx⟩) h2 Hmac.out (by omega) hmn (Nat.le_trans hC (Nat.le_trans S1.out.size s2.size)) ha2 ht2)
  have S2 := Lib.hid (S1.out.trans s2)
  clear ha2 ht2 h2 s2
  go_wp2_with fail
  refine Hdm.out.mono ?_
  rintro e w3 ⟨L, ⟨rfl, h3, s3⟩, hL⟩
  have Hfin : Hid (MadeQ B ib C ({ a with cur := nl, ts := ts } :: rest) mn mac ifs bol text nt.x ⟨none, (t0 :: body).map Tok.kx⟩ (.tuple #[]) w (.returned (.tuple #[])) w3) := Lib.hid ⟨rfl, ⟨L, by omega, h3⟩, S2.out.trans s3⟩
  clear h3 s3 hL
  go_wp2
  go_end0
  exact Hfin.out

def kwDefine : Bs := [100, 101, 102, 105, 110, 101]
theorem onB_nil : onB [] = true := rfl

end
def kwUndef : Bs := [117, 110, 100, 101, 102]
def kwIfdef : Bs := [105, 102, 100, 101, 102]
def kwIfndef : Bs := [105, 102, 110, 100, 101, 102]
def kwElse : Bs := [101, 108, 115, 101]
def kwEndif : Bs := [101, 110, 100, 105, 102]
def kwInclude : Bs := [105, 110, 99, 108, 117, 100, 101]

/-- What a directive leaves. -/
def HZ (B : Nat) (bl : Bool) (v : Value) (Z : World → Prop) (w : World) (e : Ending) (w' : World) : Prop := e = .returned v ∧ Z w' ∧ Soft B bl w w'

section
variable {w w' : World} {B ib : Nat} {C : Cfg} {mn : Nat} {mac : Bs → Option Mc} {ifs : List Bool} {bol : Bool} {text : Bs} {ev : Value} {Z : World → Prop}

set_option maxRecDepth 100000 in
set_option maxHeartbeats 2000000 in
theorem hash_undef_on {dead rest : List Ab} {a : Ab} {kt : Tok} {R : List Tok} (h : Inp w B ib C (dead ++ a :: rest) mn mac ifs bol text) (hon : onB ifs = true) (hil : ifs.length < 1000) (hd : ∀ d ∈ dead, d.ts = []) (hats : a.ts = kt :: R) (hkk : kt.k = -2) (hkx : kt.x = kwUndef) (hC : C.lim ≤ w.heap.size) (hg : Glob w ev) (hB : 21 ≤ B) (hl : (dead ++ a :: rest).length < 500)
    (hcall : ∀ w1, Inp w1 B ib C ({ a with cur := kt, ts := R } :: rest) mn mac ifs bol text → C.lim ≤ w1.heap.size → Glob w1 ev → Calls Tryz.prog 80 #[.pointer (some ⟨ib, 0, none⟩)] w1 (HZ B C.bl (.tuple #[]) Z w1)) :
    Calls Tryz.prog 59 #[.pointer (some ⟨ib, 0, none⟩)] w (HZ B C.bl (.bool true) Z w) := by
  have Hn := Lib.hid (inNext h hd (t := kt) (ts := R) hats hg hB hl)
  rw [hkk] at Hn
  have hl2 : ({ a with cur := kt, ts := R } :: rest : List Ab).length < 500 := by simp at hl ⊢; omega
  have Htx := Lib.hid (fun (w1 : World) (h1 : Inp w1 B ib C ({ a with cur := kt, ts := R } :: rest) mn mac ifs bol text) => inText h1 (by show kt.k ≠ 0; rw [hkk]; decide) hl2)
  simp only [hkx] at Htx
  have Hen := Lib.hid (fun (w1 : World) (h1 : Inp w1 B ib C ({ a with cur := kt, ts := R } :: rest) mn mac ifs bol text) => inEnabled h1 hil)
  rw [hon] at Hen
  have Hcall := Lib.hid hcall
  have Hg := Lib.hid hg
  clear h hd hats hkk hkx hg hl hl2 hon hil hcall
  have q_define : ((mkS kwUndef).toList == [100, 101, 102, 105, 110, 101]) = false := by rw [mkS_toList]; decide
  have q_else : ((mkS kwUndef).toList == [101, 108, 115, 101]) = false := by rw [mkS_toList]; decide
  have q_endif : ((mkS kwUndef).toList == [101, 110, 100, 105, 102]) = false := by rw [mkS_toList]; decide
  have q_ifdef : ((mkS kwUndef).toList == [105, 102, 100, 101, 102]) = false := by rw [mkS_toList]; decide
  have q_ifndef : ((mkS kwUndef).toList == [105, 102, 110, 100, 101, 102]) = false := by rw [mkS_toList]; decide
  have q_include : ((mkS kwUndef).toList == [105, 110, 99, 108, 117, 100, 101]) = false := by rw [mkS_toList]; decide
  have q_line : ((mkS kwUndef).toList == [108, 105, 110, 101]) = false := by rw [mkS_toList]; decide
  have q_undef : ((mkS kwUndef).toList == [117, 110, 100, 101, 102]) = true := by rw [mkS_toList]; decide
  go_enter Tryz.func59, Tryz.ntmps59
  go_wp2_with fail
  refine Hn.out.mono ?_
  rintro e w1 ⟨rfl, h1, s1⟩
  have He1 := Lib.hid (Hen.out w1 h1)
  have H1 := Lib.hid h1
  have S1 := Lib.hid s1
  clear h1 s1
  go_wp2_with fail
  refine He1.out.mono ?_
  rintro e w2 ⟨rfl, m2, rfl⟩
  have Ht2 := Lib.hid (Htx.out _ (H1.out.drewN m2))
  have S2 := Lib.hid (S1.out.trans ((Soft.refl B C.bl w1).drewN m2))
  go_wp2_with fail
  refine Ht2.out.mono ?_
  rintro e w3 ⟨rfl, h3, s3⟩
  have Hd3 := Lib.hid (Hcall.out w3 h3 (Nat.le_trans hC (S2.out.trans s3).size) ((S2.out.trans s3).glob Hg.out hB))
  have S3 := Lib.hid (S2.out.trans s3)
  clear h3 s3
  go_wp2_with fail
  refine Hd3.out.mono ?_
  rintro e w4 ⟨rfl, h4, s4⟩
  have Hfin : Hid (HZ B C.bl (.bool true) Z w (.returned (.bool true)) w4) := Lib.hid ⟨rfl, h4, S3.out.trans s4⟩
  clear h4 s4
  go_wp2
  go_ret
  exact Hfin.out

set_option maxRecDepth 100000 in
set_option maxHeartbeats 2000000 in
theorem hash_ifdef_on {dead rest : List Ab} {a : Ab} {kt : Tok} {R : List Tok} (h : Inp w B ib C (dead ++ a :: rest) mn mac ifs bol text) (hon : onB ifs = true) (hil : ifs.length < 1000) (hd : ∀ d ∈ dead, d.ts = []) (hats : a.ts = kt :: R) (hkk : kt.k = -2) (hkx : kt.x = kwIfdef) (hC : C.lim ≤ w.heap.size) (hg : Glob w ev) (hB : 21 ≤ B) (hl : (dead ++ a :: rest).length < 500)
    (hcall : ∀ w1, Inp w1 B ib C ({ a with cur := kt, ts := R } :: rest) mn mac ifs bol text → C.lim ≤ w1.heap.size → Glob w1 ev → Calls Tryz.prog 77 #[.pointer (some ⟨ib, 0, none⟩), .bool true] w1 (HZ B C.bl (.tuple #[]) Z w1)) :
    Calls Tryz.prog 59 #[.pointer (some ⟨ib, 0, none⟩)] w (HZ B C.bl (.bool true) Z w) := by
  have Hn := Lib.hid (inNext h hd (t := kt) (ts := R) hats hg hB hl)
  rw [hkk] at Hn
  have hl2 : ({ a with cur := kt, ts := R } :: rest : List Ab).length < 500 := by simp at hl ⊢; omega
  have Htx := Lib.hid (fun (w1 : World) (h1 : Inp w1 B ib C ({ a with cur := kt, ts := R } :: rest) mn mac ifs bol text) => inText h1 (by show kt.k ≠ 0; rw [hkk]; decide) hl2)
  simp only [hkx] at Htx
  have Hen := Lib.hid (fun (w1 : World) (h1 : Inp w1 B ib C ({ a with cur := kt, ts := R } :: rest) mn mac ifs bol text) => inEnabled h1 hil)
  rw [hon] at Hen
  have Hcall := Lib.hid hcall
  have Hg := Lib.hid hg
  clear h hd hats hkk hkx hg hl hl2 hon hil hcall
  have q_define : ((mkS kwIfdef).toList == [100, 101, 102, 105, 110, 101]) = false := by rw [mkS_toList]; decide
  have q_else : ((mkS kwIfdef).toList == [101, 108, 115, 101]) = false := by rw [mkS_toList]; decide
  have q_endif : ((mkS kwIfdef).toList == [101, 110, 100, 105, 102]) = false := by rw [mkS_toList]; decide
  have q_ifdef : ((mkS kwIfdef).toList == [105, 102, 100, 101, 102]) = true := by rw [mkS_toList]; decide
  have q_ifndef : ((mkS kwIfdef).toList == [105, 102, 110, 100, 101, 102]) = false := by rw [mkS_toList]; decide
  have q_include : ((mkS kwIfdef).toList == [105, 110, 99, 108, 117, 100, 101]) = false := by rw [mkS_toList]; decide
  have q_line : ((mkS kwIfdef).toList == [108, 105, 110, 101]) = false := by rw [mkS_toList]; decide
  have q_undef : ((mkS kwIfdef).toList == [117, 110, 100, 101, 102]) = false := by rw [mkS_toList]; decide
  go_enter Tryz.func59, Tryz.ntmps59
  go_wp2_with fail
  refine Hn.out.mono ?_
  rintro e w1 ⟨rfl, h1, s1⟩
  have He1 := Lib.hid (Hen.out w1 h1)
  have H1 := Lib.hid h1
  have S1 := Lib.hid s1
  clear h1 s1
  go_wp2_with fail
  refine He1.out.mono ?_
  rintro e w2 ⟨rfl, m2, rfl⟩
  have Ht2 := Lib.hid (Htx.out _ (H1.out.drewN m2))
  have S2 := Lib.hid (S1.out.trans ((Soft.refl B C.bl w1).drewN m2))
  go_wp2_with fail
  refine Ht2.out.mono ?_
  rintro e w3 ⟨rfl, h3, s3⟩
  have Hd3 := Lib.hid (Hcall.out w3 h3 (Nat.le_trans hC (S2.out.trans s3).size) ((S2.out.trans s3).glob Hg.out hB))
  have S3 := Lib.hid (S2.out.trans s3)
  clear h3 s3
  go_wp2_with fail
  refine Hd3.out.mono ?_
  rintro e w4 ⟨rfl, h4, s4⟩
  have Hfin : Hid (HZ B C.bl (.bool true) Z w (.returned (.bool true)) w4) := Lib.hid ⟨rfl, h4, S3.out.trans s4⟩
  clear h4 s4
  go_wp2
  go_ret
  exact Hfin.out

set_option maxRecDepth 100000 in
set_option maxHeartbeats 2000000 in
theorem hash_ifndef_on {dead rest : List Ab} {a : Ab} {kt : Tok} {R : List Tok} (h : Inp w B ib C (dead ++ a :: rest) mn mac ifs bol text) (hon : onB ifs = true) (hil : ifs.length < 1000) (hd : ∀ d ∈ dead, d.ts = []) (hats : a.ts = kt :: R) (hkk : kt.k = -2) (hkx : kt.x = kwIfndef) (hC : C.lim ≤ w.heap.size) (hg : Glob w ev) (hB : 21 ≤ B) (hl : (dead ++ a :: rest).length < 500)
    (hcall : ∀ w1, Inp w1 B ib C ({ a with cur := kt, ts := R } :: rest) mn mac ifs bol text → C.lim ≤ w1.heap.size → Glob w1 ev → Calls Tryz.prog 77 #[.pointer (some ⟨ib, 0, none⟩), .bool false] w1 (HZ B C.bl (.tuple #[]) Z w1)) :
    Calls Tryz.prog 59 #[.pointer (some ⟨ib, 0, none⟩)] w (HZ B C.bl (.bool true) Z w) := by
  have Hn := Lib.hid (inNext h hd (t := kt) (ts := R) hats hg hB hl)
  rw [hkk] at Hn
  have hl2 : ({ a with cur := kt, ts := R } :: rest : List Ab).length < 500 := by simp at hl ⊢; omega
  have Htx := Lib.hid (fun (w1 : World) (h1 : Inp w1 B ib C ({ a with cur := kt, ts := R } :: rest) mn mac ifs bol text) => inText h1 (by show kt.k ≠ 0; rw [hkk]; decide) hl2)
  simp only [hkx] at Htx
  have Hen := Lib.hid (fun (w1 : World) (h1 : Inp w1 B ib C ({ a with cur := kt, ts := R } :: rest) mn mac ifs bol text) => inEnabled h1 hil)
  rw [hon] at Hen
  have Hcall := Lib.hid hcall
  have Hg := Lib.hid hg
  clear h hd hats hkk hkx hg hl hl2 hon hil hcall
  have q_define : ((mkS kwIfndef).toList == [100, 101, 102, 105, 110, 101]) = false := by rw [mkS_toList]; decide
  have q_else : ((mkS kwIfndef).toList == [101, 108, 115, 101]) = false := by rw [mkS_toList]; decide
  have q_endif : ((mkS kwIfndef).toList == [101, 110, 100, 105, 102]) = false := by rw [mkS_toList]; decide
  have q_ifdef : ((mkS kwIfndef).toList == [105, 102, 100, 101, 102]) = false := by rw [mkS_toList]; decide
  have q_ifndef : ((mkS kwIfndef).toList == [105, 102, 110, 100, 101, 102]) = true := by rw [mkS_toList]; decide
  have q_include : ((mkS kwIfndef).toList == [105, 110, 99, 108, 117, 100, 101]) = false := by rw [mkS_toList]; decide
  have q_line : ((mkS kwIfndef).toList == [108, 105, 110, 101]) = false := by rw [mkS_toList]; decide
  have q_undef : ((mkS kwIfndef).toList == [117, 110, 100, 101, 102]) = false := by rw [mkS_toList]; decide
  go_enter Tryz.func59, Tryz.ntmps59
  go_wp2_with fail
  refine Hn.out.mono ?_
  rintro e w1 ⟨rfl, h1, s1⟩
  have He1 := Lib.hid (Hen.out w1 h1)
  have H1 := Lib.hid h1
  have S1 := Lib.hid s1
  clear h1 s1
  go_wp2_with fail
  refine He1.out.mono ?_
  rintro e w2 ⟨rfl, m2, rfl⟩
  have Ht2 := Lib.hid (Htx.out _ (H1.out.drewN m2))
  have S2 := Lib.hid (S1.out.trans ((Soft.refl B C.bl w1).drewN m2))
  go_wp2_with fail
  refine Ht2.out.mono ?_
  rintro e w3 ⟨rfl, h3, s3⟩
  have Hd3 := Lib.hid (Hcall.out w3 h3 (Nat.le_trans hC (S2.out.trans s3).size) ((S2.out.trans s3).glob Hg.out hB))
  have S3 := Lib.hid (S2.out.trans s3)
  clear h3 s3
  go_wp2_with fail
  refine Hd3.out.mono ?_
  rintro e w4 ⟨rfl, h4, s4⟩
  have Hfin : Hid (HZ B C.bl (.bool true) Z w (.returned (.bool true)) w4) := Lib.hid ⟨rfl, h4, S3.out.trans s4⟩
  clear h4 s4
  go_wp2
  go_ret
  exact Hfin.out

set_option maxRecDepth 100000 in
set_option maxHeartbeats 2000000 in
theorem hash_else_on {dead rest : List Ab} {a : Ab} {kt : Tok} {R : List Tok} (h : Inp w B ib C (dead ++ a :: rest) mn mac ifs bol text) (hon : onB ifs = true) (hil : ifs.length < 1000) (hd : ∀ d ∈ dead, d.ts = []) (hats : a.ts = kt :: R) (hkk : kt.k = -2) (hkx : kt.x = kwElse) (hC : C.lim ≤ w.heap.size) (hg : Glob w ev) (hB : 21 ≤ B) (hl : (dead ++ a :: rest).length < 500)
    (hcall : ∀ w1, Inp w1 B ib C ({ a with cur := kt, ts := R } :: rest) mn mac ifs bol text → C.lim ≤ w1.heap.size → Glob w1 ev → Calls Tryz.prog 75 #[.pointer (some ⟨ib, 0, none⟩)] w1 (HZ B C.bl (.tuple #[]) Z w1)) :
    Calls Tryz.prog 59 #[.pointer (some ⟨ib, 0, none⟩)] w (HZ B C.bl (.bool true) Z w) := by
  have Hn := Lib.hid (inNext h hd (t := kt) (ts := R) hats hg hB hl)
  rw [hkk] at Hn
  have hl2 : ({ a with cur := kt, ts := R } :: rest : List Ab).length < 500 := by simp at hl ⊢; omega
  have Htx := Lib.hid (fun (w1 : World) (h1 : Inp w1 B ib C ({ a with cur := kt, ts := R } :: rest) mn mac ifs bol text) => inText h1 (by show kt.k ≠ 0; rw [hkk]; decide) hl2)
  simp only [hkx] at Htx
  have Hen := Lib.hid (fun (w1 : World) (h1 : Inp w1 B ib C ({ a with cur := kt, ts := R } :: rest) mn mac ifs bol text) => inEnabled h1 hil)
  rw [hon] at Hen
  have Hcall := Lib.hid hcall
  have Hg := Lib.hid hg
  clear h hd hats hkk hkx hg hl hl2 hon hil hcall
  have q_define : ((mkS kwElse).toList == [100, 101, 102, 105, 110, 101]) = false := by rw [mkS_toList]; decide
  have q_else : ((mkS kwElse).toList == [101, 108, 115, 101]) = true := by rw [mkS_toList]; decide
  have q_endif : ((mkS kwElse).toList == [101, 110, 100, 105, 102]) = false := by rw [mkS_toList]; decide
  have q_ifdef : ((mkS kwElse).toList == [105, 102, 100, 101, 102]) = false := by rw [mkS_toList]; decide
  have q_ifndef : ((mkS kwElse).toList == [105, 102, 110, 100, 101, 102]) = false := by rw [mkS_toList]; decide
  have q_include : ((mkS kwElse).toList == [105, 110, 99, 108, 117, 100, 101]) = false := by rw [mkS_toList]; decide
  have q_line : ((mkS kwElse).toList == [108, 105, 110, 101]) = false := by rw [mkS_toList]; decide
  have q_undef : ((mkS kwElse).toList == [117, 110, 100, 101, 102]) = false := by rw [mkS_toList]; decide
  go_enter Tryz.func59, Tryz.ntmps59
  go_wp2_with fail
  refine Hn.out.mono ?_
  rintro e w1 ⟨rfl, h1, s1⟩
  have He1 := Lib.hid (Hen.out w1 h1)
  have H1 := Lib.hid h1
  have S1 := Lib.hid s1
  clear h1 s1
  go_wp2_with fail
  refine He1.out.mono ?_
  rintro e w2 ⟨rfl, m2, rfl⟩
  have Ht2 := Lib.hid (Htx.out _ (H1.out.drewN m2))
  have S2 := Lib.hid (S1.out.trans ((Soft.refl B C.bl w1).drewN m2))
  go_wp2_with fail
  refine Ht2.out.mono ?_
  rintro e w3 ⟨rfl, h3, s3⟩
  have Hd3 := Lib.hid (Hcall.out w3 h3 (Nat.le_trans hC (S2.out.trans s3).size) ((S2.out.trans s3).glob Hg.out hB))
  have S3 := Lib.hid (S2.out.trans s3)
  clear h3 s3
  go_wp2_with fail
  refine Hd3.out.mono ?_
  rintro e w4 ⟨rfl, h4, s4⟩
  have Hfin : Hid (HZ B C.bl (.bool true) Z w (.returned (.bool true)) w4) := Lib.hid ⟨rfl, h4, S3.out.trans s4⟩
  clear h4 s4
  go_wp2
  go_ret
  exact Hfin.out

set_option maxRecDepth 100000 in
set_option maxHeartbeats 2000000 in
theorem hash_endif_on {dead rest : List Ab} {a : Ab} {kt : Tok} {R : List Tok} (h : Inp w B ib C (dead ++ a :: rest) mn mac ifs bol text) (hon : onB ifs = true) (hil : ifs.length < 1000) (hd : ∀ d ∈ dead, d.ts = []) (hats : a.ts = kt :: R) (hkk : kt.k = -2) (hkx : kt.x = kwEndif) (hC : C.lim ≤ w.heap.size) (hg : Glob w ev) (hB : 21 ≤ B) (hl : (dead ++ a :: rest).length < 500)
    (hcall : ∀ w1, Inp w1 B ib C ({ a with cur := kt, ts := R } :: rest) mn mac ifs bol text → C.lim ≤ w1.heap.size → Glob w1 ev → Calls Tryz.prog 76 #[.pointer (some ⟨ib, 0, none⟩)] w1 (HZ B C.bl (.tuple #[]) Z w1)) :
    Calls Tryz.prog 59 #[.pointer (some ⟨ib, 0, none⟩)] w (HZ B C.bl (.bool true) Z w) := by
  have Hn := Lib.hid (inNext h hd (t := kt) (ts := R) hats hg hB hl)
  rw [hkk] at Hn
  have hl2 : ({ a with cur := kt, ts := R } :: rest : List Ab).length < 500 := by simp at hl ⊢; omega
  have Htx := Lib.hid (fun (w1 : World) (h1 : Inp w1 B ib C ({ a with cur := kt, ts := R } :: rest) mn mac ifs bol text) => inText h1 (by show kt.k ≠ 0; rw [hkk]; decide) hl2)
  simp only [hkx] at Htx
  have Hen := Lib.hid (fun (w1 : World) (h1 : Inp w1 B ib C ({ a with cur := kt, ts := R } :: rest) mn mac ifs bol text) => inEnabled h1 hil)
  rw [hon] at Hen
  have Hcall := Lib.hid hcall
  have Hg := Lib.hid hg
  clear h hd hats hkk hkx hg hl hl2 hon hil hcall
  have q_define : ((mkS kwEndif).toList == [100, 101, 102, 105, 110, 101]) = false := by rw [mkS_toList]; decide
  have q_else : ((mkS kwEndif).toList == [101, 108, 115, 101]) = false := by rw [mkS_toList]; decide
  have q_endif : ((mkS kwEndif).toList == [101, 110, 100, 105, 102]) = true := by rw [mkS_toList]; decide
  have q_ifdef : ((mkS kwEndif).toList == [105, 102, 100, 101, 102]) = false := by rw [mkS_toList]; decide
  have q_ifndef : ((mkS kwEndif).toList == [105, 102, 110, 100, 101, 102]) = false := by rw [mkS_toList]; decide
  have q_include : ((mkS kwEndif).toList == [105, 110, 99, 108, 117, 100, 101]) = false := by rw [mkS_toList]; decide
  have q_line : ((mkS kwEndif).toList == [108, 105, 110, 101]) = false := by rw [mkS_toList]; decide
  have q_undef : ((mkS kwEndif).toList == [117, 110, 100, 101, 102]) = false := by rw [mkS_toList]; decide
  go_enter Tryz.func59, Tryz.ntmps59
  go_wp2_with fail
  refine Hn.out.mono ?_
  rintro e w1 ⟨rfl, h1, s1⟩
  have He1 := Lib.hid (Hen.out w1 h1)
  have H1 := Lib.hid h1
  have S1 := Lib.hid s1
  clear h1 s1
  go_wp2_with fail
  refine He1.out.mono ?_
  rintro e w2 ⟨rfl, m2, rfl⟩
  have Ht2 := Lib.hid (Htx.out _ (H1.out.drewN m2))
  have S2 := Lib.hid (S1.out.trans ((Soft.refl B C.bl w1).drewN m2))
  go_wp2_with fail
  refine Ht2.out.mono ?_
  rintro e w3 ⟨rfl, h3, s3⟩
  have Hd3 := Lib.hid (Hcall.out w3 h3 (Nat.le_trans hC (S2.out.trans s3).size) ((S2.out.trans s3).glob Hg.out hB))
  have S3 := Lib.hid (S2.out.trans s3)
  clear h3 s3
  go_wp2_with fail
  refine Hd3.out.mono ?_
  rintro e w4 ⟨rfl, h4, s4⟩
  have Hfin : Hid (HZ B C.bl (.bool true) Z w (.returned (.bool true)) w4) := Lib.hid ⟨rfl, h4, S3.out.trans s4⟩
  clear h4 s4
  go_wp2
  go_ret
  exact Hfin.out

set_option maxRecDepth 100000 in
set_option maxHeartbeats 2000000 in
theorem hash_include_on {dead rest : List Ab} {a : Ab} {kt : Tok} {R : List Tok} (h : Inp w B ib C (dead ++ a :: rest) mn mac ifs bol text) (hon : onB ifs = true) (hil : ifs.length < 1000) (hd : ∀ d ∈ dead, d.ts = []) (hats : a.ts = kt :: R) (hkk : kt.k = -2) (hkx : kt.x = kwInclude) (hC : C.lim ≤ w.heap.size) (hg : Glob w ev) (hB : 21 ≤ B) (hl : (dead ++ a :: rest).length < 500)
    (hcall : ∀ w1, Inp w1 B ib C ({ a with cur := kt, ts := R } :: rest) mn mac ifs bol text → C.lim ≤ w1.heap.size → Glob w1 ev → Calls Tryz.prog 78 #[.pointer (some ⟨ib, 0, none⟩)] w1 (HZ B C.bl (.tuple #[]) Z w1)) :
    Calls Tryz.prog 59 #[.pointer (some ⟨ib, 0, none⟩)] w (HZ B C.bl (.bool true) Z w) := by
  have Hn := Lib.hid (inNext h hd (t := kt) (ts := R) hats hg hB hl)
  rw [hkk] at Hn
  have hl2 : ({ a with cur := kt, ts := R } :: rest : List Ab).length < 500 := by simp at hl ⊢; omega
  have Htx := Lib.hid (fun (w1 : World) (h1 : Inp w1 B ib C ({ a with cur := kt, ts := R } :: rest) mn mac ifs bol text) => inText h1 (by show kt.k ≠ 0; rw [hkk]; decide) hl2)
  simp only [hkx] at Htx
  have Hen := Lib.hid (fun (w1 : World) (h1 : Inp w1 B ib C ({ a with cur := kt, ts := R } :: rest) mn mac ifs bol text) => inEnabled h1 hil)
  rw [hon] at Hen
  have Hcall := Lib.hid hcall
  have Hg := Lib.hid hg
  clear h hd hats hkk hkx hg hl hl2 hon hil hcall
  have q_define : ((mkS kwInclude).toList == [100, 101, 102, 105, 110, 101]) = false := by rw [mkS_toList]; decide
  have q_else : ((mkS kwInclude).toList == [101, 108, 115, 101]) = false := by rw [mkS_toList]; decide
  have q_endif : ((mkS kwInclude).toList == [101, 110, 100, 105, 102]) = false := by rw [mkS_toList]; decide
  have q_ifdef : ((mkS kwInclude).toList == [105, 102, 100, 101, 102]) = false := by rw [mkS_toList]; decide
  have q_ifndef : ((mkS kwInclude).toList == [105, 102, 110, 100, 101, 102]) = false := by rw [mkS_toList]; decide
  have q_include : ((mkS kwInclude).toList == [105, 110, 99, 108, 117, 100, 101]) = true := by rw [mkS_toList]; decide
  have q_line : ((mkS kwInclude).toList == [108, 105, 110, 101]) = false := by rw [mkS_toList]; decide
  have q_undef : ((mkS kwInclude).toList == [117, 110, 100, 101, 102]) = false := by rw [mkS_toList]; decide
  go_enter Tryz.func59, Tryz.ntmps59
  go_wp2_with fail
  refine Hn.out.mono ?_
  rintro e w1 ⟨rfl, h1, s1⟩
  have He1 := Lib.hid (Hen.out w1 h1)
  have H1 := Lib.hid h1
  have S1 := Lib.hid s1
  clear h1 s1
  go_wp2_with fail
  refine He1.out.mono ?_
  rintro e w2 ⟨rfl, m2, rfl⟩
  have Ht2 := Lib.hid (Htx.out _ (H1.out.drewN m2))
  have S2 := Lib.hid (S1.out.trans ((Soft.refl B C.bl w1).drewN m2))
  go_wp2_with fail
  refine Ht2.out.mono ?_
  rintro e w3 ⟨rfl, h3, s3⟩
  have Hd3 := Lib.hid (Hcall.out w3 h3 (Nat.le_trans hC (S2.out.trans s3).size) ((S2.out.trans s3).glob Hg.out hB))
  have S3 := Lib.hid (S2.out.trans s3)
  clear h3 s3
  go_wp2_with fail
  refine Hd3.out.mono ?_
  rintro e w4 ⟨rfl, h4, s4⟩
  have Hfin : Hid (HZ B C.bl (.bool true) Z w (.returned (.bool true)) w4) := Lib.hid ⟨rfl, h4, S3.out.trans s4⟩
  clear h4 s4
  go_wp2
  go_ret
  exact Hfin.out

set_option maxRecDepth 100000 in
set_option maxHeartbeats 2000000 in
theorem hash_define_on {dead rest : List Ab} {a : Ab} {kt : Tok} {R : List Tok} (h : Inp w B ib C (dead ++ a :: rest) mn mac ifs bol text) (hon : onB ifs = true) (hil : ifs.length < 1000) (hd : ∀ d ∈ dead, d.ts = []) (hats : a.ts = kt :: R) (hkk : kt.k = -2) (hkx : kt.x = kwDefine) (hC : C.lim ≤ w.heap.size) (hg : Glob w ev) (hB : 21 ≤ B) (hl : (dead ++ a :: rest).length < 500)
    (hcall : ∀ w1, Inp w1 B ib C ({ a with cur := kt, ts := R } :: rest) mn mac ifs bol text → C.lim ≤ w1.heap.size → Glob w1 ev → Calls Tryz.prog 74 #[.pointer (some ⟨ib, 0, none⟩)] w1 (HZ B C.bl (.tuple #[]) Z w1)) :
    Calls Tryz.prog 59 #[.pointer (some ⟨ib, 0, none⟩)] w (HZ B C.bl (.bool true) Z w) := by
  have Hn := Lib.hid (inNext h hd (t := kt) (ts := R) hats hg hB hl)
  rw [hkk] at Hn
  have hl2 : ({ a with cur := kt, ts := R } :: rest : List Ab).length < 500 := by simp at hl ⊢; omega
  have Htx := Lib.hid (fun (w1 : World) (h1 : Inp w1 B ib C ({ a with cur := kt, ts := R } :: rest) mn mac ifs bol text) => inText h1 (by show kt.k ≠ 0; rw [hkk]; decide) hl2)
  simp only [hkx] at Htx
  have Hen := Lib.hid (fun (w1 : World) (h1 : Inp w1 B ib C ({ a with cur := kt, ts := R } :: rest) mn mac ifs bol text) => inEnabled h1 hil)
  rw [hon] at Hen
  have Hcall := Lib.hid hcall
  have Hg := Lib.hid hg
  clear h hd hats hkk hkx hg hl hl2 hon hil hcall
  have q_define : ((mkS kwDefine).toList == [100, 101, 102, 105, 110, 101]) = true := by rw [mkS_toList]; decide
  have q_else : ((mkS kwDefine).toList == [101, 108, 115, 101]) = false := by rw [mkS_toList]; decide
  have q_endif : ((mkS kwDefine).toList == [101, 110, 100, 105, 102]) = false := by rw [mkS_toList]; decide
  have q_ifdef : ((mkS kwDefine).toList == [105, 102, 100, 101, 102]) = false := by rw [mkS_toList]; decide
  have q_ifndef : ((mkS kwDefine).toList == [105, 102, 110, 100, 101, 102]) = false := by rw [mkS_toList]; decide
  have q_include : ((mkS kwDefine).toList == [105, 110, 99, 108, 117, 100, 101]) = false := by rw [mkS_toList]; decide
  have q_line : ((mkS kwDefine).toList == [108, 105, 110, 101]) = false := by rw [mkS_toList]; decide
  have q_undef : ((mkS kwDefine).toList == [117, 110, 100, 101, 102]) = false := by rw [mkS_toList]; decide
  go_enter Tryz.func59, Tryz.ntmps59
  go_wp2_with fail
  refine Hn.out.mono ?_
  rintro e w1 ⟨rfl, h1, s1⟩
  have He1 := Lib.hid (Hen.out w1 h1)
  have H1 := Lib.hid h1
  have S1 := Lib.hid s1
  clear h1 s1
  go_wp2_with fail
  refine He1.out.mono ?_
  rintro e w2 ⟨rfl, m2, rfl⟩
  have Ht2 := Lib.hid (Htx.out _ (H1.out.drewN m2))
  have S2 := Lib.hid (S1.out.trans ((Soft.refl B C.bl w1).drewN m2))
  go_wp2_with fail
  refine Ht2.out.mono ?_
  rintro e w3 ⟨rfl, h3, s3⟩
  have Hd3 := Lib.hid (Hcall.out w3 h3 (Nat.le_trans hC (S2.out.trans s3).size) ((S2.out.trans s3).glob Hg.out hB))
  have S3 := Lib.hid (S2.out.trans s3)
  clear h3 s3
  go_wp2_with fail
  refine Hd3.out.mono ?_
  rintro e w4 ⟨rfl, h4, s4⟩
  have Hfin : Hid (HZ B C.bl (.bool true) Z w (.returned (.bool true)) w4) := Lib.hid ⟨rfl, h4, S3.out.trans s4⟩
  clear h4 s4
  go_wp2
  go_ret
  exact Hfin.out

set_option maxRecDepth 100000 in
set_option maxHeartbeats 2000000 in
theorem hash_else_off {dead rest : List Ab} {a : Ab} {kt : Tok} {R : List Tok} (h : Inp w B ib C (dead ++ a :: rest) mn mac ifs bol text) (hon : onB ifs = false) (hil : ifs.length < 1000) (hd : ∀ d ∈ dead, d.ts = []) (hats : a.ts = kt :: R) (hkk : kt.k = -2) (hkx : kt.x = kwElse) (hC : C.lim ≤ w.heap.size) (hg : Glob w ev) (hB : 21 ≤ B) (hl : (dead ++ a :: rest).length < 500)
    (hcall : ∀ w1, Inp w1 B ib C ({ a with cur := kt, ts := R } :: rest) mn mac ifs bol text → C.lim ≤ w1.heap.size → Glob w1 ev → Calls Tryz.prog 75 #[.pointer (some ⟨ib, 0, none⟩)] w1 (HZ B C.bl (.tuple #[]) Z w1)) :
    Calls Tryz.prog 59 #[.pointer (some ⟨ib, 0, none⟩)] w (HZ B C.bl (.bool true) Z w) := by
  have Hn := Lib.hid (inNext h hd (t := kt) (ts := R) hats hg hB hl)
  rw [hkk] at Hn
  have hl2 : ({ a with cur := kt, ts := R } :: rest : List Ab).length < 500 := by simp at hl ⊢; omega
  have Htx := Lib.hid (fun (w1 : World) (h1 : Inp w1 B ib C ({ a with cur := kt, ts := R } :: rest) mn mac ifs bol text) => inText h1 (by show kt.k ≠ 0; rw [hkk]; decide) hl2)
  simp only [hkx] at Htx
  have Hen := Lib.hid (fun (w1 : World) (h1 : Inp w1 B ib C ({ a with cur := kt, ts := R } :: rest) mn mac ifs bol text) => inEnabled h1 hil)
  rw [hon] at Hen
  have Hcall := Lib.hid hcall
  have Hg := Lib.hid hg
  clear h hd hats hkk hkx hg hl hl2 hon hil hcall
  have q_define : ((mkS kwElse).toList == [100, 101, 102, 105, 110, 101]) = false := by rw [mkS_toList]; decide
  have q_else : ((mkS kwElse).toList == [101, 108, 115, 101]) = true := by rw [mkS_toList]; decide
  have q_endif : ((mkS kwElse).toList == [101, 110, 100, 105, 102]) = false := by rw [mkS_toList]; decide
  have q_ifdef : ((mkS kwElse).toList == [105, 102, 100, 101, 102]) = false := by rw [mkS_toList]; decide
  have q_ifndef : ((mkS kwElse).toList == [105, 102, 110, 100, 101, 102]) = false := by rw [mkS_toList]; decide
  have q_include : ((mkS kwElse).toList == [105, 110, 99, 108, 117, 100, 101]) = false := by rw [mkS_toList]; decide
  have q_line : ((mkS kwElse).toList == [108, 105, 110, 101]) = false := by rw [mkS_toList]; decide
  have q_undef : ((mkS kwElse).toList == [117, 110, 100, 101, 102]) = false := by rw [mkS_toList]; decide
  go_enter Tryz.func59, Tryz.ntmps59
  go_wp2_with fail
  refine Hn.out.mono ?_
  rintro e w1 ⟨rfl, h1, s1⟩
  have He1 := Lib.hid (Hen.out w1 h1)
  have H1 := Lib.hid h1
  have S1 := Lib.hid s1
  clear h1 s1
  go_wp2_with fail
  refine He1.out.mono ?_
  rintro e w2 ⟨rfl, m2, rfl⟩
  have Ht2 := Lib.hid (Htx.out _ (H1.out.drewN m2))
  have S2 := Lib.hid (S1.out.trans ((Soft.refl B C.bl w1).drewN m2))
  go_wp2_with fail
  refine Ht2.out.mono ?_
  rintro e w9 ⟨rfl, h9, s9⟩
  have Ht2 := Lib.hid (Htx.out _ h9)
  have S2 := Lib.hid (S2.out.trans s9)
  clear h9 s9
  go_wp2_with fail
  refine Ht2.out.mono ?_
  rintro e w3 ⟨rfl, h3, s3⟩
  have Hd3 := Lib.hid (Hcall.out w3 h3 (Nat.le_trans hC (S2.out.trans s3).size) ((S2.out.trans s3).glob Hg.out hB))
  have S3 := Lib.hid (S2.out.trans s3)
  clear h3 s3
  go_wp2_with fail
  refine Hd3.out.mono ?_
  rintro e w4 ⟨rfl, h4, s4⟩
  have Hfin : Hid (HZ B C.bl (.bool true) Z w (.returned (.bool true)) w4) := Lib.hid ⟨rfl, h4, S3.out.trans s4⟩
  clear h4 s4
  go_wp2
  go_ret
  exact Hfin.out

set_option maxRecDepth 100000 in
set_option maxHeartbeats 2000000 in
theorem hash_endif_off {dead rest : List Ab} {a : Ab} {kt : Tok} {R : List Tok} (h : Inp w B ib C (dead ++ a :: rest) mn mac ifs bol text) (hon : onB ifs = false) (hil : ifs.length < 1000) (hd : ∀ d ∈ dead, d.ts = []) (hats : a.ts = kt :: R) (hkk : kt.k = -2) (hkx : kt.x = kwEndif) (hC : C.lim ≤ w.heap.size) (hg : Glob w ev) (hB : 21 ≤ B) (hl : (dead ++ a :: rest).length < 500)
    (hcall : ∀ w1, Inp w1 B ib C ({ a with cur := kt, ts := R } :: rest) mn mac ifs bol text → C.lim ≤ w1.heap.size → Glob w1 ev → Calls Tryz.prog 76 #[.pointer (some ⟨ib, 0, none⟩)] w1 (HZ B C.bl (.tuple #[]) Z w1)) :
    Calls Tryz.prog 59 #[.pointer (some ⟨ib, 0, none⟩)] w (HZ B C.bl (.bool true) Z w) := by
  have Hn := Lib.hid (inNext h hd (t := kt) (ts := R) hats hg hB hl)
  rw [hkk] at Hn
  have hl2 : ({ a with cur := kt, ts := R } :: rest : List Ab).length < 500 := by simp at hl ⊢; omega
  have Htx := Lib.hid (fun (w1 : World) (h1 : Inp w1 B ib C ({ a with cur := kt, ts := R } :: rest) mn mac ifs bol text) => inText h1 (by show kt.k ≠ 0; rw [hkk]; decide) hl2)
  simp only [hkx] at Htx
  have Hen := Lib.hid (fun (w1 : World) (h1 : Inp w1 B ib C ({ a with cur := kt, ts := R } :: rest) mn mac ifs bol text) => inEnabled h1 hil)
  rw [hon] at Hen
  have Hcall := Lib.hid hcall
  have Hg := Lib.hid hg
  clear h hd hats hkk hkx hg hl hl2 hon hil hcall
  have q_define : ((mkS kwEndif).toList == [100, 101, 102, 105, 110, 101]) = false := by rw [mkS_toList]; decide
  have q_else : ((mkS kwEndif).toList == [101, 108, 115, 101]) = false := by rw [mkS_toList]; decide
  have q_endif : ((mkS kwEndif).toList == [101, 110, 100, 105, 102]) = true := by rw [mkS_toList]; decide
  have q_ifdef : ((mkS kwEndif).toList == [105, 102, 100, 101, 102]) = false := by rw [mkS_toList]; decide
  have q_ifndef : ((mkS kwEndif).toList == [105, 102, 110, 100, 101, 102]) = false := by rw [mkS_toList]; decide
  have q_include : ((mkS kwEndif).toList == [105, 110, 99, 108, 117, 100, 101]) = false := by rw [mkS_toList]; decide
  have q_line : ((mkS kwEndif).toList == [108, 105, 110, 101]) = false := by rw [mkS_toList]; decide
  have q_undef : ((mkS kwEndif).toList == [117, 110, 100, 101, 102]) = false := by rw [mkS_toList]; decide
  go_enter Tryz.func59, Tryz.ntmps59
  go_wp2_with fail
  refine Hn.out.mono ?_
  rintro e w1 ⟨rfl, h1, s1⟩
  have He1 := Lib.hid (Hen.out w1 h1)
  have H1 := Lib.hid h1
  have S1 := Lib.hid s1
  clear h1 s1
  go_wp2_with fail
  refine He1.out.mono ?_
  rintro e w2 ⟨rfl, m2, rfl⟩
  have Ht2 := Lib.hid (Htx.out _ (H1.out.drewN m2))
  have S2 := Lib.hid (S1.out.trans ((Soft.refl B C.bl w1).drewN m2))
  go_wp2_with fail
  refine Ht2.out.mono ?_
  rintro e w9 ⟨rfl, h9, s9⟩
  have Ht2 := Lib.hid (Htx.out _ h9)
  have S2 := Lib.hid (S2.out.trans s9)
  clear h9 s9
  go_wp2_with fail
  refine Ht2.out.mono ?_
  rintro e w3 ⟨rfl, h3, s3⟩
  have Hd3 := Lib.hid (Hcall.out w3 h3 (Nat.le_trans hC (S2.out.trans s3).size) ((S2.out.trans s3).glob Hg.out hB))
  have S3 := Lib.hid (S2.out.trans s3)
  clear h3 s3
  go_wp2_with fail
  refine Hd3.out.mono ?_
  rintro e w4 ⟨rfl, h4, s4⟩
  have Hfin : Hid (HZ B C.bl (.bool true) Z w (.returned (.bool true)) w4) := Lib.hid ⟨rfl, h4, S3.out.trans s4⟩
  clear h4 s4
  go_wp2
  go_ret
  exact Hfin.out

set_option maxRecDepth 100000 in
set_option maxHeartbeats 2000000 in
/-- A definition that is not read. -/
theorem hash_define_off {dead rest : List Ab} {a : Ab} {kt : Tok} {R : List Tok} (h : Inp w B ib C (dead ++ a :: rest) mn mac ifs bol text) (hon : onB ifs = false) (hil : ifs.length < 1000) (hd : ∀ d ∈ dead, d.ts = []) (hats : a.ts = kt :: R) (hkk : kt.k = -2) (hkx : kt.x = kwDefine) (hC : C.lim ≤ w.heap.size) (hg : Glob w ev) (hB : 21 ≤ B) (hl : (dead ++ a :: rest).length < 500) :
    Calls Tryz.prog 59 #[.pointer (some ⟨ib, 0, none⟩)] w (HZ B C.bl (.bool false) (fun w1 => Inp w1 B ib C ({ a with cur := kt, ts := R } :: rest) mn mac ifs bol text) w) := by
  have Hn := Lib.hid (inNext h hd (t := kt) (ts := R) hats hg hB hl)
  rw [hkk] at Hn
  have hl2 : ({ a with cur := kt, ts := R } :: rest : List Ab).length < 500 := by simp at hl ⊢; omega
  have Htx := Lib.hid (fun (w1 : World) (h1 : Inp w1 B ib C ({ a with cur := kt, ts := R } :: rest) mn mac ifs bol text) => inText h1 (by show kt.k ≠ 0; rw [hkk]; decide) hl2)
  simp only [hkx] at Htx
  have Hen := Lib.hid (fun (w1 : World) (h1 : Inp w1 B ib C ({ a with cur := kt, ts := R } :: rest) mn mac ifs bol text) => inEnabled h1 hil)
  rw [hon] at Hen
  have Hg := Lib.hid hg
  clear h hd hats hkk hkx hg hl hl2 hon hil
  have q_define : ((mkS kwDefine).toList == [100, 101, 102, 105, 110, 101]) = true := by rw [mkS_toList]; decide
  have q_else : ((mkS kwDefine).toList == [101, 108, 115, 101]) = false := by rw [mkS_toList]; decide
  have q_endif : ((mkS kwDefine).toList == [101, 110, 100, 105, 102]) = false := by rw [mkS_toList]; decide
  have q_ifdef : ((mkS kwDefine).toList == [105, 102, 100, 101, 102]) = false := by rw [mkS_toList]; decide
  have q_ifndef : ((mkS kwDefine).toList == [105, 102, 110, 100, 101, 102]) = false := by rw [mkS_toList]; decide
  have q_include : ((mkS kwDefine).toList == [105, 110, 99, 108, 117, 100, 101]) = false := by rw [mkS_toList]; decide
  have q_line : ((mkS kwDefine).toList == [108, 105, 110, 101]) = false := by rw [mkS_toList]; decide
  have q_undef : ((mkS kwDefine).toList == [117, 110, 100, 101, 102]) = false := by rw [mkS_toList]; decide
  go_enter Tryz.func59, Tryz.ntmps59
  go_wp2_with fail
  refine Hn.out.mono ?_
  rintro e w1 ⟨rfl, h1, s1⟩
  have He1 := Lib.hid (Hen.out w1 h1)
  have H1 := Lib.hid h1
  have S1 := Lib.hid s1
  clear h1 s1
  go_wp2_with fail
  refine He1.out.mono ?_
  rintro e w2 ⟨rfl, m2, rfl⟩
  have Ht2 := Lib.hid (Htx.out _ (H1.out.drewN m2))
  have S2 := Lib.hid (S1.out.trans ((Soft.refl B C.bl w1).drewN m2))
  go_wp2_with fail
  refine Ht2.out.mono ?_
  rintro e w3 ⟨rfl, h3, s3⟩
  have Hfin : Hid (HZ B C.bl (.bool false) (fun w1 => Inp w1 B ib C ({ a with cur := kt, ts := R } :: rest) mn mac ifs bol text) w (.returned (.bool false)) w3) := Lib.hid ⟨rfl, h3, S2.out.trans s3⟩
  clear h3 s3
  go_wp2
  go_ret
  exact Hfin.out

end
section
variable {w w' : World} {B ib : Nat} {C : Cfg} {ab ab' : List Ab} {mn : Nat} {mac : Bs → Option Mc} {ifs : List Bool} {bol : Bool} {text : Bs} {S S' : Nat → Value} {rs rs' : List RS} {ev : Value}

/-- A macro is gone. -/
def GoneQ (B ib : Nat) (C : Cfg) (ab : List Ab) (mn : Nat) (mac : Bs → Option Mc) (ifs : List Bool) (bol : Bool) (text : Bs) (x : Bs) (val : Value) (w : World) (e : Ending) (w' : World) : Prop :=
  InQ B ib C ab mn (fun y => if y = x then none else mac y) ifs bol text val w e w'

/-- The macro's entry is dropped. -/
theorem Inp.drop (h : Inp w B ib C ab mn mac ifs bol text) {x : Bs} (hx : x.length ≤ 1000000) (ty : TypeId) :
    ∃ w', (Builtin.delete_ #[80, 9] ty #[.map (some C.mb), .string (mkS x)]).run Tryz.prog w = .ok (.tuple #[]) w' ∧ Inp w' B ib C ab mn (fun y => if y = x then none else mac y) ifs bol text ∧ Soft B C.bl w w' := by
  obtain ⟨S, rs, h⟩ := h
  obtain ⟨f, m1, m2, m3⟩ := h.env.mcs
  obtain ⟨w', hr, m1', ho⟩ := m1.drop Tryz.underlying80 x hx ty
  have hE : ∀ k, k = C.mb → k < w.heap.size → ∀ T : TypeId, ¬ Typed w k (· = T) := fun k e _ T ht => m1.not_typed (e ▸ ht)
  have hmacs : Macs w' C.lim C.mb mn (fun y => if y = x then none else mac y) := by
    refine ⟨fun y => if y = x then none else f y, ?_, fun y hy => ?_, fun y m' hy => ?_⟩
    · have e1 : (fun y => if y = x then none else (f y).map fun b => Value.pointer (some ⟨b, 0, none⟩)) = fun y => ((if y = x then none else f y).map fun b => Value.pointer (some ⟨b, 0, none⟩)) := by
        funext y; split <;> rfl
      rw [← e1]; exact m1'
    · by_cases e : y = x
      · simp [e]
      · simp only [e, if_false] at hy ⊢; exact m2 y hy
    · by_cases e : y = x
      · simp [e] at hy
      · simp only [e, if_false] at hy
        obtain ⟨b, hb, hma⟩ := m3 y m' hy
        exact ⟨b, by simp [e, hb], hma.only ho (fun k e hk => ⟨hE k e hk _, hE k e hk _, hE k e hk _⟩)⟩
  obtain ⟨h2, s2⟩ := h.mapd ho hmacs
  exact ⟨w', hr, ⟨_, _, h2⟩, s2⟩

theorem Inp.mac_at (h : Inp w B ib C ab mn mac ifs bol text) {x : Bs} {m : Mc} (hx : mac x = some m) (hl : x.length ≤ 1000000) :
    ∃ b, w.cell? ⟨ib, 5, none⟩ = some (.map (some C.mb)) ∧ (Instr.lookup 80 (.map (some C.mb)) (.string (mkS x)) false).run Tryz.prog w = .ok (.pointer (some ⟨b, 0, none⟩)) w := by
  obtain ⟨S, rs, h⟩ := h
  obtain ⟨f, m1, m2, m3⟩ := h.env.mcs
  obtain ⟨b, hb, hm⟩ := m3 x m hx
  refine ⟨b, h.stk.blk.cell_eq (by decide) h.env.mcv, ?_⟩
  have := m1.look Tryz.underlying80 zero_ptr_macro x hl
  rw [hb] at this
  exact this
theorem Inp.c5 (h : Inp w B ib C ab mn mac ifs bol text) : w.cell? ⟨ib, 5, none⟩ = some (.map (some C.mb)) := by
  obtain ⟨S, rs, h⟩ := h; exact h.stk.blk.cell_eq (by decide) h.env.mcv

set_option maxRecDepth 100000 in
set_option maxHeartbeats 1000000 in
theorem undef_plain {dead rest : List Ab} {a : Ab} {nt nl : Tok} {ts : List Tok} {m : Mc} (h : Inp w B ib C (dead ++ a :: rest) mn mac ifs bol text) (hd : ∀ d ∈ dead, d.ts = []) (hats : a.ts = nt :: nl :: ts)
    (hnk : nt.k = -2) (hnx : nt.x.length ≤ 1000) (hmac : mac nt.x = some m) (hnl : nl.k = 10) (hg : Glob w ev) (hB : 21 ≤ B) (hl : (dead ++ a :: rest).length < 500) :
    Calls Tryz.prog 80 #[.pointer (some ⟨ib, 0, none⟩)] w (GoneQ B ib C ({ a with cur := nl, ts := ts } :: rest) mn mac ifs bol text nt.x (.tuple #[]) w) := by
  have Hn := Lib.hid (inMacroName h hd (t := nt) (ts := nl :: ts) hats hnk hg hB hl)
  have hl2 : ({ a with cur := nt, ts := nl :: ts } :: rest : List Ab).length < 500 := by simp at hl ⊢; omega
  have Hnext := Lib.hid (fun (w1 : World) (h1 : Inp w1 B ib C ({ a with cur := nt, ts := nl :: ts } :: rest) mn mac ifs bol text) (hg1 : Glob w1 ev) => inNext (dead := []) h1 (fun _ h => by cases h) (t := nl) (ts := ts) rfl hg1 hB hl2)
  rw [hnl] at Hnext
  have Hg := Lib.hid hg
  have Hmac := Lib.hid hmac
  clear h hd hats hnk hmac hnl hg hl hl2
  go_enter Tryz.func80, Tryz.ntmps80
  go_wp2_with fail
  refine Hn.out.mono ?_
  rintro e w1 ⟨rfl, h1, s1⟩
  obtain ⟨b, c5, hlook⟩ := h1.mac_at Hmac.out (by omega)
  have hne : ∀ u : World, (binOp BinOp.eql 115 (.pointer (some ⟨b, 0, none⟩)) (.pointer none)).run Tryz.prog u = .ok (.bool false) u := fun u => by kernel_rfl
  have Hn1 := Lib.hid (Hnext.out w1 h1 (s1.glob Hg.out hB))
  have S1 := Lib.hid s1
  clear h1 s1
  go_wp2_with fail
  refine Hn1.out.mono ?_
  rintro e w2 ⟨rfl, h2, s2⟩
  obtain ⟨w3, hdel, h3, s3⟩ := h2.drop (x := nt.x) (by omega) 0
  have k5 := h2.c5
  have Hfin : Hid (GoneQ B ib C ({ a with cur := nl, ts := ts } :: rest) mn mac ifs bol text nt.x (.tuple #[]) w (.returned (.tuple #[])) w3) := Lib.hid ⟨rfl, h3, (S1.out.trans s2).trans s3⟩
  clear h2 s2 h3 s3 c5 hlook
  go_wp2
  go_end0
  exact Hfin.out

end
section
variable {w w' w1 : World} {B ib : Nat} {C : Cfg} {ab ab' : List Ab} {mn : Nat} {mac : Bs → Option Mc} {ifs l' : List Bool} {bol : Bool} {text : Bs} {S S' : Nat → Value} {rs rs' : List RS} {ev v : Value}

/-- The list of conditions has been turned, in its own block or a new one. -/
theorem In.ifs_any {w2 : World} (h : In w B ib C ab mn mac ifs bol text S rs) (hbl : C.bl = true) (ho2 : Only (fun k => k = ib ∨ (S 4).ownBlock = some k) w w2) (hblk : Blk w2 ib 82 10 S') (hS : ∀ i, i ≠ 4 → S' i = S i) (hrow2 : w2.ownsRow B 4 1 (S' 4) l'.length (l'.map Value.bool)) :
    Inp w2 B ib C ab mn mac l' bol text ∧ Soft B C.bl w w2 := by
  have hib : Typed w ib (· = 82) := h.stk.blk.typed rfl
  have hbt : ∀ k, (S 4).ownBlock = some k → B ≤ k ∧ Typed w k (· = 4) := fun k hk => ownBlock_row h.env.ifr k hk
  have hE : ∀ k, (k = ib ∨ (S 4).ownBlock = some k) → B ≤ k ∧ Typed w k (fun T => T = 82 ∨ T = 4) := fun k hk => by
    rcases hk with e | e
    · obtain ⟨c, T, h1, h2⟩ := hib
      exact ⟨e ▸ h.stk.low, e ▸ ⟨c, T, h1, .inl h2⟩⟩
    · obtain ⟨h0, c, T, h1, h2⟩ := hbt k e
      exact ⟨h0, c, T, h1, .inr h2⟩
  have hne : ∀ {k : Nat} {P : TypeId → Prop}, Typed w k P → ¬ P 82 → ¬ P 4 → ¬ (k = ib ∨ (S 4).ownBlock = some k) := fun ht h1 h2 e => typed_ne ht (hE _ e).2 (fun T a b => by rcases b with b | b; exact h1 (b ▸ a); exact h2 (b ▸ a)) rfl
  have hnt : ∀ k, (k = ib ∨ (S 4).ownBlock = some k) → k < w.heap.size → ∀ U : TypeId, U ≠ 82 → U ≠ 4 → ¬ Typed w k (· = U) := fun k e hk U h1 h2 ht => typed_ne ht (hE k e).2 (fun T a b => by rcases b with b | b; exact h1 (a.symm.trans b); exact h2 (a.symm.trans b)) rfl
  have hmap : ∀ {b n : Nat} {f : Bs → Option Value}, SMap w b n f → SMap w2 b n f := fun hm => hm.of_heap (ho2.block _ hm.lt (fun e => hm.not_typed (hE _ e).2))
  have hs : Stk w2 B ib S' rs := ⟨hblk, h.stk.low, by rw [hS 0 (by omega)]; exact row_only h.stk.row ho2 (fun k e hk => hnt k e hk _ (by decide) (by decide)),
    fun r hr => Rd.only (h.stk.rds r hr) ho2 (fun k hk => hne (Rd.foot (h.stk.rds r hr) k hk).2 (by unfold RT; decide) (by unfold RT; decide)) (fun k e hk => hnt k e hk _ (by decide) (by decide)), h.stk.apart⟩
  obtain ⟨f, m1, m2, m3⟩ := h.env.mcs
  obtain ⟨nf, hf⟩ := h.env.fis
  have hen : Env w2 B S' C mn mac l' := ⟨hrow2, (hS 5 (by omega)).trans h.env.mcv, ⟨f, hmap m1, m2, fun x m hx => by
      obtain ⟨b, hb, hm⟩ := m3 x m hx
      exact ⟨b, hb, hm.only ho2 (fun k e hk => ⟨hnt k e hk _ (by decide) (by decide), hnt k e hk _ (by decide) (by decide), hnt k e hk _ (by decide) (by decide)⟩)⟩⟩, h.env.mlow, (hS 2 (by omega)).trans h.env.fiv, ⟨nf, hmap hf⟩, h.env.ne, by rw [hS 1 (by omega)]; exact row_only h.env.inv ho2 (fun k e hk => hnt k e hk _ (by decide) (by decide)), by rw [hS 1 (by omega)]; exact h.env.inl⟩
  refine ⟨⟨_, rs, ⟨hs, h.abs, fun r hr => ?_, hen, (hS 3 (by omega)).trans h.s3, (hS 6 (by omega)).trans h.s6, (hS 7 (by omega)).trans h.s7, by rw [hS 8 (by omega)]; exact h.s8, by rw [hS 9 (by omega)]; exact h.s9⟩⟩, ?_⟩
  · obtain ⟨S2, hb, hn⟩ := h.nms r hr
    exact ⟨S2, hb.only ho2 (hne (hb.typed (P := (· = 138)) rfl) (by decide) (by decide)), hn⟩
  · refine Soft.of ho2 (fun k e _ => ⟨(hE k e).1, ?_⟩)
    obtain ⟨c, T, h1, h2⟩ := (hE k e).2
    rcases h2 with h2 | h2
    · exact .inl ⟨c, T, h1, .inl (.inr (.inl h2))⟩
    · exact .inl ⟨c, T, h1, .inr ⟨hbl, h2⟩⟩

theorem In.ifs_blk (h : In w B ib C ab mn mac ifs bol text S rs) (ho : Only (fun k => (S 4).ownBlock = some k) w w1) : Blk w1 ib 82 10 S :=
  h.stk.blk.only ho (fun e => typed_ne (ownBlock_row h.env.ifr _ e).2 (h.stk.blk.typed (P := (· = 82)) rfl) (fun T a b => by rw [a] at b; revert b; decide) rfl)

theorem In.ifs_put (h : In w B ib C ab mn mac ifs bol text S rs) (hbl : C.bl = true) (ho : Only (fun k => (S 4).ownBlock = some k) w w1) (hrow : w1.ownsRow B 4 1 v l'.length (l'.map Value.bool)) :
    Inp (w1.setCell ⟨ib, 4, none⟩ v) B ib C ab mn mac l' bol text ∧ Soft B C.bl w (w1.setCell ⟨ib, 4, none⟩ v) := by
  have hb1 := h.ifs_blk ho
  refine h.ifs_any (S' := upd S 4 v) hbl ((ho.mono (fun k _ e => .inr e)).setCell (p := ⟨ib, 4, none⟩) (fun _ => .inl rfl) v) (hb1.set 4 v) (fun i hi => upd_other _ _ hi) ?_
  rw [upd_same]
  exact ownsRow_only hrow (fun k hk => by
    have ht := (ownBlock_row hrow k hk).2
    have h1 : Typed w1 ib (· = 82) := hb1.typed rfl
    have hkn : k ≠ ib := fun e => typed_ne (e ▸ ht) h1 (fun T a b => by rw [a] at b; revert b; decide) rfl
    exact ((Only.refl (fun k => k = ib) w1).setCell (p := ⟨ib, 4, none⟩) (fun _ => rfl) v).block k ht.lt hkn)

/-- .. in place. -/
theorem In.ifs_turn (h : In w B ib C ab mn mac ifs bol text S rs) (hbl : C.bl = true) (ho : Only (fun k => (S 4).ownBlock = some k) w w1) (hrow : w1.ownsRow B 4 1 (S 4) l'.length (l'.map Value.bool)) :
    Inp w1 B ib C ab mn mac l' bol text ∧ Soft B C.bl w w1 :=
  h.ifs_any (S' := S) hbl (ho.mono (fun k _ e => .inr e)) (h.ifs_blk ho) (fun _ _ => rfl) hrow

set_option maxRecDepth 100000 in
set_option maxHeartbeats 1000000 in
theorem inExpectNl {rest : List Ab} {a : Ab} {nl : Tok} {ts : List Tok} {d : ByteArray} (h : Inp w B ib C (a :: rest) mn mac ifs bol text) (hts : a.ts = nl :: ts) (hnl : nl.k = 10) (hg : Glob w ev) (hB : 21 ≤ B) (hl : (a :: rest).length < 500) :
    Calls Tryz.prog 98 #[.pointer (some ⟨ib, 0, none⟩), .string d] w (InQ B ib C ({ a with cur := nl, ts := ts } :: rest) mn mac ifs bol text (.tuple #[]) w) := by
  have hn := inNext (dead := []) h (fun _ h => by cases h) hts hg hB hl
  rw [hnl] at hn
  have Hn := Lib.hid hn
  clear h hts hnl hg hl hn
  go_enter Tryz.func98, Tryz.ntmps98
  go_wp2_with fail
  refine Hn.out.mono ?_
  rintro e w1 hq
  have Hq := Lib.hid hq
  obtain ⟨rfl, _⟩ := hq
  go_wp2
  go_end0
  exact ⟨rfl, Hq.out.2⟩

/-- What the row of conditions looks like. -/
theorem In.c4 (h : In w B ib C ab mn mac ifs bol text S rs) : ∃ ad c, S 4 = .slice ad ifs.length c ∧ w.cell? ⟨ib, 4, none⟩ = some (.slice ad ifs.length c) ∧ w.frozen? ⟨ib, 4, none⟩ = false := by
  obtain ⟨ad, c, hS⟩ : ∃ ad c, S 4 = .slice ad ifs.length c := by
    obtain ⟨_, ⟨e, e0⟩ | ⟨g, cap, cur, e, _⟩⟩ := h.env.ifr
    · exact ⟨none, 0, by rw [e, e0]⟩
    · exact ⟨_, _, e⟩
  exact ⟨ad, c, hS, h.stk.blk.cell_eq (by decide) hS, h.stk.blk.frozen 4⟩

theorem Inp.mac_ok (h : Inp w B ib C ab mn mac ifs bol text) (x : Bs) (hl : x.length ≤ 1000000) :
    ∃ pv, (Instr.lookup 80 (.map (some C.mb)) (.string (mkS x)) true).run Tryz.prog w = .ok (.tuple #[pv, .bool (mac x).isSome]) w := by
  obtain ⟨S, rs, h⟩ := h
  obtain ⟨f, m1, m2, m3⟩ := h.env.mcs
  have := m1.look_ok Tryz.underlying80 zero_ptr_macro x hl
  refine ⟨((f x).map fun b => Value.pointer (some ⟨b, 0, none⟩)).getD (.pointer none), ?_⟩
  rw [this]
  cases hx : mac x with
  | none => rw [m2 x hx]; rfl
  | some m => obtain ⟨b, hb, _⟩ := m3 x m hx; rw [hb]; rfl

theorem infoBool : (Tryz.prog.info? 4).map (fun i => (i.zero, i.size, i.bytes)) = some (some (.bool false), 1, 1) := by kernel_rfl

theorem cellOneI (w : World) (x : Value) (T : TypeId) : ∀ j u, [x][j]? = some u → (w.alloc (.cells #[x] T)).cell? ((⟨w.heap.size, 0, none⟩ : Addr).add j) = some u := by
  intro j u h
  have hB := Blk.lit w #[x] T
  rw [Addr.add_lit, Nat.zero_add]
  have hj := (List.getElem?_eq_some_iff.1 h).1
  obtain rfl : j = 0 := by simp at hj; omega
  exact hB.cell_eq (i := 0) (by simp) (by simpa using h)

set_option maxRecDepth 100000 in
set_option maxHeartbeats 2000000 in
theorem ifdef_plain {dead rest : List Ab} {a : Ab} {nt nl : Tok} {ts : List Tok} {t : Bool} (h : Inp w B ib C (dead ++ a :: rest) mn mac ifs bol text) (hbl : C.bl = true) (hd : ∀ d ∈ dead, d.ts = []) (hats : a.ts = nt :: nl :: ts)
    (hnk : nt.k = -2) (hnx : nt.x.length ≤ 1000) (hnl : nl.k = 10) (hon : onB ifs = true) (hil : ifs.length < 900) (hg : Glob w ev) (hB : 21 ≤ B) (hl : (dead ++ a :: rest).length < 500) :
    Calls Tryz.prog 77 #[.pointer (some ⟨ib, 0, none⟩), .bool t] w (InQ B ib C ({ a with cur := nl, ts := ts } :: rest) mn mac (ifs ++ [(mac nt.x).isSome == t]) bol text (.tuple #[]) w) := by
  obtain ⟨i0, hi, hz0, hz1, hz2⟩ := info_parts infoBool
  have Hn := Lib.hid (inMacroName h hd (t := nt) (ts := nl :: ts) hats hnk hg hB hl)
  have hl2 : ({ a with cur := nt, ts := nl :: ts } :: rest : List Ab).length < 500 := by simp at hl ⊢; omega
  have Hnl := Lib.hid (fun (w1 : World) (d : ByteArray) (h1 : Inp w1 B ib C ({ a with cur := nt, ts := nl :: ts } :: rest) mn mac ifs bol text) (hg1 : Glob w1 ev) => inExpectNl (d := d) h1 (nl := nl) (ts := ts) rfl hnl hg1 hB hl2)
  have Hen := Lib.hid (fun (w1 : World) (h1 : Inp w1 B ib C ({ a with cur := nl, ts := ts } :: rest) mn mac ifs bol text) => inEnabled h1 (by omega))
  rw [hon] at Hen
  have Hg := Lib.hid hg
  have Hbl := Lib.hid hbl
  obtain ⟨dn, hdn⟩ : ∃ d, d = (mac nt.x).isSome := ⟨_, rfl⟩
  rw [← hdn]
  have Hdn := Lib.hid hdn
  clear h hd hats hnk hnl hg hl hl2 hon hbl hdn
  go_enter Tryz.func77, Tryz.ntmps77
  go_wp2_with fail
  refine Hn.out.mono ?_
  rintro e w1 ⟨rfl, h1, s1⟩
  have Hn1 := Lib.hid (fun d => Hnl.out w1 d h1 (s1.glob Hg.out hB))
  have S1 := Lib.hid s1
  clear h1 s1
  go_wp2_with fail
  refine (Hn1.out _).mono ?_
  rintro e w2 ⟨rfl, h2, s2⟩
  have He := Lib.hid (Hen.out w2 h2)
  have S2 := Lib.hid (S1.out.trans s2)
  have H2 := Lib.hid h2
  clear h2 s2 Hn1
  go_wp2_with fail
  refine He.out.mono ?_
  rintro e w3 ⟨rfl, m3, rfl⟩
  have h3 := H2.out.drewN m3
  have S3 : Hid (Soft B C.bl w (w2.drewN m3)) := Lib.hid (S2.out.trans ((Soft.refl B C.bl w2).drewN m3))
  clear He
  generalize w2.drewN m3 = w3 at h3 S3 ⊢
  have hlow := h3.low
  obtain ⟨pv, hlook⟩ := h3.mac_ok nt.x (by omega)
  obtain ⟨S, rs, h3⟩ := h3
  rw [← Hdn.out] at hlook
  have c5 : w3.cell? ⟨ib, 5, none⟩ = some (.map (some C.mb)) := h3.stk.blk.cell_eq (by decide) h3.env.mcv
  obtain ⟨ad, c, hS4, k4, f4⟩ := h3.c4
  obtain ⟨n, hn⟩ : ∃ n, n = ifs.length := ⟨_, rfl⟩
  rw [← hn] at hS4 k4
  have H3 := Lib.hid h3
  have HS4 := Lib.hid hS4
  have HN := Lib.hid hn
  have hn9 : n < 900 := by omega
  have hrow : w3.ownsRow B 4 1 (.slice ad n c) n (ifs.map Value.bool) := by have := h3.env.ifr; rwa [hS4, ← hn] at this
  have Hrow := Lib.hid hrow
  clear h3 hS4 hn hrow
  have fin : ∀ (b : Bool) (v' : Value) (w5 : World), b = (dn == t) → w5.ownsRow B 4 1 v' (n + 1) (ifs.map Value.bool ++ [.bool b]) → (w3.alloc (.cells #[.bool b] 4)).grownBy w5 (Value.slice ad n c).ownBlock →
      InQ B ib C ({ a with cur := nl, ts := ts } :: rest) mn mac (ifs ++ [dn == t]) bol text (.tuple #[]) w (.returned (.tuple #[])) (w5.setCell ⟨ib, 4, none⟩ v') ∧ w5.cell? ⟨ib, 4, none⟩ = some (.slice ad n c) ∧ w5.frozen? ⟨ib, 4, none⟩ = false := fun b v' w5 hb hown hgrow => by
    have ho : Only (fun k => (S 4).ownBlock = some k) w3 w5 := ((Only.ofBelow ((Below.refl w3.heap.size w3).alloc (Nat.le_refl _) (.cells #[.bool b] 4))).mono (fun k hk e => absurd hk (by omega))).grown hgrow (fun k hk _ => by rw [HS4.out]; exact hk)
    have hown2 : w5.ownsRow B 4 1 v' (ifs ++ [dn == t]).length ((ifs ++ [dn == t]).map Value.bool) := by
      rw [List.length_append, List.map_append, ← HN.out, ← hb]
      exact hown
    obtain ⟨q1, q2⟩ := H3.out.ifs_put (l' := ifs ++ [dn == t]) Hbl.out ho hown2
    have hib : Blk w5 ib 82 10 S := H3.out.stk.blk.only ho (fun e => typed_ne (ownBlock_row H3.out.env.ifr _ e).2 (H3.out.stk.blk.typed (P := (· = 82)) rfl) (fun T a b => by rw [a] at b; revert b; decide) rfl)
    exact ⟨⟨rfl, q1, S3.out.trans q2⟩, hib.cell_eq (by decide) HS4.out, hib.frozen 4⟩
  have Fin := Lib.hid fin
  clear fin
  cases dn with
  | true =>
    go_wp2_with (at_builtin; refine wpList_append_own _ rfl _ _ 79 rfl B 4 i0 (.bool false) 1 1 Tryz.underlying79 hi hz0 hz1 hz2 rfl (by decide) _ _ _ rfl (Hrow.out.alloc _) ⟨w3.heap.size, 0, none⟩ 1 1 [.bool t] rfl rfl ?c1 ?c2 ?c3 ?c4 ?c5 ?_)
    case c1 => exact cellOneI _ _ _
    case c2 => intro u hu; simp at hu; subst hu; rfl
    case c3 => unfold maxLen; omega
    case c4 => omega
    case c5 => simp; omega
    intro v' w5 hown hgrow _
    obtain ⟨g8, c8, rfl⟩ : ∃ g8 c8, v' = .slice (some ⟨g8, 0, none⟩) (n + 1) c8 := by
      obtain ⟨_, ⟨_, h0⟩ | ⟨g, cap, cur, e, _⟩⟩ := hown
      · omega
      · exact ⟨g, cap, e⟩
    obtain ⟨q1, q2, q3⟩ := Fin.out t _ w5 (by cases t <;> rfl) hown hgrow
    have Hq := Lib.hid q1
    clear q1 hown hgrow
    go_wp2
    go_end0
    have q := Hq.out
    rw [show (true == t) = t by cases t <;> rfl] at q
    exact q
  | false =>
    go_wp2_with (at_builtin; refine wpList_append_own _ rfl _ _ 79 rfl B 4 i0 (.bool false) 1 1 Tryz.underlying79 hi hz0 hz1 hz2 rfl (by decide) _ _ _ rfl (Hrow.out.alloc _) ⟨w3.heap.size, 0, none⟩ 1 1 [.bool (!t)] rfl rfl ?c1 ?c2 ?c3 ?c4 ?c5 ?_)
    case c1 => exact cellOneI _ _ _
    case c2 => intro u hu; simp at hu; subst hu; rfl
    case c3 => unfold maxLen; omega
    case c4 => omega
    case c5 => simp; omega
    intro v' w5 hown hgrow _
    obtain ⟨g8, c8, rfl⟩ : ∃ g8 c8, v' = .slice (some ⟨g8, 0, none⟩) (n + 1) c8 := by
      obtain ⟨_, ⟨_, h0⟩ | ⟨g, cap, cur, e, _⟩⟩ := hown
      · omega
      · exact ⟨g, cap, e⟩
    obtain ⟨q1, q2, q3⟩ := Fin.out (!t) _ w5 (by cases t <;> rfl) hown hgrow
    have Hq := Lib.hid q1
    clear q1 hown hgrow
    go_wp2
    go_end0
    have q := Hq.out
    rw [show (false == t) = !t by cases t <;> rfl] at q
    exact q

/-- The row of one condition: its cell; it is shortened; it is turned. -/
theorem one_row {b : Bool} {ad : Option Addr} {n c : Nat} (h : w.ownsRow B 4 1 (.slice ad n c) n [.bool b]) : ∃ g, ad = some ⟨g, 0, none⟩ ∧ n = 1 ∧ 1 ≤ c ∧ w.cell? ⟨g, 0, none⟩ = some (.bool b) ∧ w.frozen? ⟨g, 0, none⟩ = false ∧ w.ownsRow B 4 1 (.slice (some ⟨g, 0, none⟩) 0 c) 0 [] ∧
    ∀ d, (w.setCell ⟨g, 0, none⟩ (.bool d)).ownsRow B 4 1 (.slice (some ⟨g, 0, none⟩) 1 c) 1 [.bool d] ∧ Only (fun k => k = g) w (w.setCell ⟨g, 0, none⟩ (.bool d)) := by
  have h' := h
  obtain ⟨h1, ⟨e, e0⟩ | ⟨g, cap, cur, e, a1, a2, a3, a4, a5, a6⟩⟩ := h
  · simp at h1; omega
  · have hn : n = 1 := by simp at h1; omega
    subst hn
    cases e
    refine ⟨g, rfl, rfl, a3, ?_⟩
    have hc1 : 0 < c := a3
    have hB : Blk w g 4 c (fun i => cur.toList.getD i undef) := ⟨cur, a2, by omega, fun i hi => by
      have hlt : i < cur.toList.length := by simp; omega
      show cur[i]? = some (cur.toList.getD i undef)
      rw [List.getD_eq_getElem?_getD, List.getElem?_eq_getElem hlt]
      simp [Array.getElem?_eq_getElem (show i < cur.size by omega)]⟩
    have h0 : cur.toList.getD 0 undef = .bool b := by
      cases hc : cur.toList with
      | nil => rw [hc] at a6; simp at a6
      | cons x r => rw [hc] at a6; simp at a6; simp [a6]
    refine ⟨hB.cell_eq (i := 0) hc1 h0, hB.frozen 0, ⟨rfl, .inr ⟨g, c, cur, rfl, a1, a2, Nat.zero_le _, a4, a5, rfl⟩⟩, fun d => ⟨?_, (Only.refl (fun k => k = g) w).setCell (p := ⟨g, 0, none⟩) (fun _ => rfl) (.bool d)⟩⟩
    obtain ⟨c', q1, q2, q3⟩ := hB.set 0 (.bool d)
    have q4 := q3 0 hc1
    rw [upd_same] at q4
    refine ⟨rfl, .inr ⟨g, c, c', rfl, a1, q1, a3, a4, by omega, ?_⟩⟩
    cases hc : c'.toList with
    | nil => have := congrArg List.length hc; simp at this; rw [this] at q2; simp at q2; omega
    | cons x r =>
      have : c'.toList[0]? = some (.bool d) := by simpa using q4
      rw [hc] at this
      simp at this
      simp [this]

set_option maxRecDepth 100000 in
set_option maxHeartbeats 2000000 in
theorem endif_plain {rest : List Ab} {a : Ab} {nl : Tok} {ts : List Tok} {b : Bool} (h : Inp w B ib C (a :: rest) mn mac [b] bol text) (hbl : C.bl = true) (hats : a.ts = nl :: ts) (hnl : nl.k = 10) (hg : Glob w ev) (hB : 21 ≤ B) (hl : (a :: rest).length < 500) :
    Calls Tryz.prog 76 #[.pointer (some ⟨ib, 0, none⟩)] w (InQ B ib C ({ a with cur := nl, ts := ts } :: rest) mn mac [] bol text (.tuple #[]) w) := by
  have Hnl := Lib.hid (fun (d : ByteArray) => inExpectNl (d := d) h (nl := nl) (ts := ts) hats hnl hg hB hl)
  have Hbl := Lib.hid hbl
  clear h hats hnl hg hl hbl
  go_enter Tryz.func76, Tryz.ntmps76
  go_wp2_with fail
  refine (Hnl.out _).mono ?_
  rintro e w1 ⟨rfl, h1, s1⟩
  obtain ⟨S, rs, h1⟩ := h1
  obtain ⟨ad, c, hS4, k4, f4⟩ := h1.c4
  have hrow : w1.ownsRow B 4 1 (.slice ad 1 c) 1 [.bool b] := by have := h1.env.ifr; rwa [hS4] at this
  obtain ⟨g, had, _, hc, kg, fg, hz, _⟩ := one_row hrow
  subst had
  have k4' : w1.cell? ⟨ib, 4, none⟩ = some (.slice (some ⟨g, 0, none⟩) 1 c) := k4
  have hfin := h1.ifs_put (l' := []) Hbl.out (w1 := w1.drew) ((Only.refl _ w1).drewN 1) (ownsRow_only hz (fun _ _ => rfl))
  have Hfin : Hid (InQ B ib C ({ a with cur := nl, ts := ts } :: rest) mn mac [] bol text (.tuple #[]) w (.returned (.tuple #[])) (w1.drew.setCell ⟨ib, 4, none⟩ (.slice (some ⟨g, 0, none⟩) 0 c))) := Lib.hid ⟨rfl, hfin.1, s1.trans hfin.2⟩
  have c1 : (0 : Int) ≤ (c : Int) := by omega
  have e0 : IntKind.i64.wrap (0 : Int) = 0 := by decide
  have e00 : IntKind.i64.wrap ((1 : Int) - 1) = 0 := by decide
  clear h1 s1 hS4 hrow hz hfin Hbl k4
  go_upto_region 3 with (fail)
  go_still_tail 14, (by kernel_rfl)
  change wpList _ _ _ _ _ (World.drew _)
  go_wp2
  go_end0
  exact Hfin.out

set_option maxRecDepth 100000 in
set_option maxHeartbeats 4000000 in
theorem else_plain {rest : List Ab} {a : Ab} {nl : Tok} {ts : List Tok} {b : Bool} (h : Inp w B ib C (a :: rest) mn mac [b] bol text) (hbl : C.bl = true) (hats : a.ts = nl :: ts) (hnl : nl.k = 10) (hg : Glob w ev) (hB : 21 ≤ B) (hl : (a :: rest).length < 500) :
    Calls Tryz.prog 75 #[.pointer (some ⟨ib, 0, none⟩)] w (InQ B ib C ({ a with cur := nl, ts := ts } :: rest) mn mac [!b] bol text (.tuple #[]) w) := by
  have Hnl := Lib.hid (fun (d : ByteArray) => inExpectNl (d := d) h (nl := nl) (ts := ts) hats hnl hg hB hl)
  have Hbl := Lib.hid hbl
  clear h hats hnl hg hl hbl
  go_enter Tryz.func75, Tryz.ntmps75
  go_wp2_with fail
  refine (Hnl.out _).mono ?_
  rintro e w1 ⟨rfl, h1, s1⟩
  obtain ⟨S, rs, h1⟩ := h1
  obtain ⟨ad, c, hS4, k4, f4⟩ := h1.c4
  have hrow : w1.ownsRow B 4 1 (.slice ad 1 c) 1 [.bool b] := by have := h1.env.ifr; rwa [hS4] at this
  obtain ⟨g, had, _, hc, kg, fg, hz, hset⟩ := one_row hrow
  subst had
  have k4' : w1.cell? ⟨ib, 4, none⟩ = some (.slice (some ⟨g, 0, none⟩) 1 c) := k4
  have hfin : ∀ m j, InQ B ib C ({ a with cur := nl, ts := ts } :: rest) mn mac [!b] bol text (.tuple #[]) w (.returned (.tuple #[])) (((w1.drewN m).setCell ⟨g, 0, none⟩ (.bool !b)).drewN j) := fun m j => by
    obtain ⟨q1, q2⟩ := hset (!b)
    have ho : Only (fun k => (S 4).ownBlock = some k) w1 (((w1.drewN m).setCell ⟨g, 0, none⟩ (.bool !b)).drewN j) :=
      (((Only.refl _ w1).drewN m).setCell (p := ⟨g, 0, none⟩) (fun _ => by rw [hS4]; rfl) (.bool !b)).drewN j
    obtain ⟨r1, r2⟩ := h1.ifs_turn (l' := [!b]) Hbl.out ho (by rw [hS4]; exact ownsRow_only q1 (fun _ _ => rfl))
    exact ⟨rfl, r1, s1.trans r2⟩
  have Hfin := Lib.hid hfin
  have e00 : IntKind.i64.wrap ((1 : Int) - 1) = 0 := by decide
  have e0 : IntKind.i64.wrap (0 : Int) = 0 := by decide
  clear h1 s1 hS4 hrow hz hfin Hbl k4 hset
  go_upto_region 3 with (fail)
  go_quiet (fail)
  go_upto_region 4 with (fail)
  have k5 : (w1.drewN nq).cell? ⟨ib, 4, none⟩ = some (.slice (some ⟨g, 0, none⟩) 1 c) := k4'
  have k6 : (w1.drewN nq).cell? ⟨g, 0, none⟩ = some (.bool b) := kg
  have k7 : (w1.drewN nq).frozen? ⟨g, 0, none⟩ = false := fg
  have Hf2 := Lib.hid (Hfin.out nq)
  clear k4' kg fg Hfin f4
  generalize w1.drewN nq = w2 at k5 k6 k7 Hf2 ⊢
  go_still_tail 24, (by kernel_rfl)
  change wpList _ _ _ _ _ (World.drew _)
  go_wp2
  go_end0
  exact Hf2.out 1
end
theorem newReader_str {w : World} {x : ByteArray} : Calls Tryz.prog 43 #[.string x] w (fun e w' => e = .returned (.pointer (some ⟨w.heap.size, 0, none⟩)) ∧ w' = w.alloc (.cells #[.string x, .int .i64 0, .int .i64 (-1)] 113)) := by
  go_enter Tryz.func43, Tryz.ntmps43
  go_wp2
  go_ret
  exact ⟨rfl, rfl⟩

/-- Unquote takes a text's marks away. -/
def UnqQ (x : Bs) (w : World) (e : Ending) (w' : World) : Prop := e = .returned (.tuple #[.string (mkS x), .nilIface]) ∧ Below w.heap.size w w'

section
variable {w w' : World} {B ib : Nat} {C : Cfg} {ab ab' : List Ab} {mn : Nat} {mac : Bs → Option Mc} {ifs : List Bool} {bol : Bool} {text : Bs} {ev : Value}

theorem Inp.file_ok (h : Inp w B ib C ab mn mac ifs bol text) {x : Bs} {t : ByteArray} (hF : C.F x = some t) (hl : x.length ≤ 1000000) :
    w.cell? ⟨ib, 2, none⟩ = some (.map (some C.fb)) ∧ (Instr.lookup 58 (.map (some C.fb)) (.string (mkS x)) true).run Tryz.prog w = .ok (.tuple #[.string t, .bool true]) w := by
  obtain ⟨S, rs, h⟩ := h
  obtain ⟨n, hf⟩ := h.env.fis
  have := hf.look_ok Tryz.underlying58 (z := .string ⟨#[]⟩) (fun w => by kernel_rfl) x hl
  rw [hF] at this
  exact ⟨h.stk.blk.cell_eq (by decide) h.env.fiv, this⟩

/-- What is left behind a file's name: the file stands ahead. -/
def IncAb (nmB : Bs) (T : List Tok) (ab : List Ab) : List Ab := ⟨true, mkS nmB, ⟨0, [], 1, 1⟩, T⟩ :: ab

set_option maxRecDepth 100000 in
set_option maxHeartbeats 2000000 in
theorem include_plain {dead rest : List Ab} {a : Ab} {st nl : Tok} {ts T : List Tok} {nmB txt : Bs} (h : Inp w B ib C (dead ++ a :: rest) mn mac ifs bol text) (hd : ∀ d ∈ dead, d.ts = []) (hats : a.ts = st :: nl :: ts)
    (hsk : st.k = -6) (hun : ∀ w, Calls Tryz.prog 99 #[.string (mkS st.x)] w (UnqQ nmB w)) (hnl : nl.k = 10) (hF : C.F nmB = some (mkS txt)) (hxl : nmB.length ≤ 1000) (htl : TL txt 1 1 T) (ha : ascii txt) (hlen : txt.length < 900000) (hg : Glob w ev) (hB : 21 ≤ B) (hl : (dead ++ a :: rest).length < 500) (hl9 : rest.length ≤ 90) :
    Calls Tryz.prog 78 #[.pointer (some ⟨ib, 0, none⟩)] w (InQ B ib C (IncAb nmB T ({ a with cur := nl, ts := ts } :: rest)) mn mac ifs bol text (.tuple #[]) w) := by
  have hBw : B ≤ w.heap.size := by
    obtain ⟨S, rs, h⟩ := h
    exact Nat.le_of_lt (Nat.lt_of_le_of_lt h.stk.low h.stk.blk.lt)
  have hn := inNext h hd hats hg hB hl
  rw [hsk] at hn
  have Hn := Lib.hid hn
  have hl2 : ({ a with cur := st, ts := nl :: ts } :: rest : List Ab).length < 500 := by simp at hl ⊢; omega
  have Htx := Lib.hid (fun (w1 : World) (h1 : Inp w1 B ib C ({ a with cur := st, ts := nl :: ts } :: rest) mn mac ifs bol text) => inText h1 (by show st.k ≠ 0; rw [hsk]; decide) hl2)
  have Hnl := Lib.hid (fun (w1 : World) (d : ByteArray) (h1 : Inp w1 B ib C ({ a with cur := st, ts := nl :: ts } :: rest) mn mac ifs bol text) (hg1 : Glob w1 ev) => inExpectNl (d := d) h1 (nl := nl) (ts := ts) rfl hnl hg1 hB hl2)
  have Hfo := Lib.hid (fun (w1 : World) (h1 : Inp w1 B ib C ({ a with cur := nl, ts := ts } :: rest) mn mac ifs bol text) => h1.file_ok hF (by omega))
  have Hps := Lib.hid (fun (w0 w1 : World) (tz sb bb rb : Nat) (rv : Value) (h1 : Inp w0 B ib C ({ a with cur := nl, ts := ts } :: rest) mn mac ifs bol text) (hb : Below w0.heap.size w0 w1) (hz : Tz w1 B tz sb rb rv (.pointer (some ⟨bb, 0, none⟩)) none txt 1 1 0 []) (hp : PB w1 bb (mkS nmB)) (k1 : w0.heap.size ≤ tz) (k2 : w0.heap.size ≤ sb) (k3 : w0.heap.size ≤ rb) =>
    inPush (r := ⟨.iface 70 (.pointer (some ⟨tz, 0, none⟩)), TzD tz sb rb none, bb, mkS nmB, ⟨0, [], 1, 1⟩, T⟩) (a := ⟨true, mkS nmB, ⟨0, [], 1, 1⟩, T⟩) h1 hb (.tz hz htl (by show 1 + txt.length < 1000000; omega) (by simp)) (by
      rintro k (e | e | e | e)
      · omega
      · omega
      · omega
      · cases e) hp ⟨rfl, rfl, rfl, fun _ => ⟨tz, rfl⟩⟩ (by simp; omega))
  have Htk := Lib.hid (fun (w1 : World) (hB1 : B ≤ w1.heap.size) => newTok_any (w := w1.alloc (.cells #[.string (mkS txt), .int .i64 0, .int .i64 (-1)] 113)) (B := B) (rb := w1.heap.size) (ty := 72) (ra := some ⟨w1.heap.size, 0, none⟩) (nm := mkS nmB) (text := txt) (by simp; omega) ⟨hB1, .inr ⟨rfl, _, txt, 0, -1, Blk.lit w1 _ _, rfl, rfl, rfl, by omega, rfl, by omega⟩⟩ (by simp) ha (by omega))
  have Hun := Lib.hid hun
  have Hg := Lib.hid hg
  clear h hd hats hsk hnl hg hl hl2 hn hun hF hxl htl ha hlen hl9
  go_enter Tryz.func78, Tryz.ntmps78
  go_wp2_with fail
  refine Hn.out.mono ?_
  rintro e w1 ⟨rfl, h1, s1⟩
  have Ht1 := Lib.hid (Htx.out w1 h1)
  have S1 := Lib.hid s1
  clear h1 s1 Htx Hn
  go_wp2_with fail
  refine Ht1.out.mono ?_
  rintro e w2 ⟨rfl, h2, s2⟩
  have H2 := Lib.hid h2
  have S2 := Lib.hid (S1.out.trans s2)
  clear h2 s2 Ht1
  go_wp2_with fail
  refine (Hun.out w2).mono ?_
  rintro e w3 ⟨rfl, hb3⟩
  have h3 := H2.out.below hb3
  have s3 := S2.out.trans (Soft.ofBelow hb3)
  have Hn3 := Lib.hid (fun d => Hnl.out w3 d h3 (s3.glob Hg.out hB))
  have S3 := Lib.hid s3
  clear h3 s3 hb3 H2
  go_wp2_with fail
  refine (Hn3.out _).mono ?_
  rintro e w4 ⟨rfl, h4, s4⟩
  obtain ⟨c2, hlk⟩ := Hfo.out w4 h4
  have H4 := Lib.hid h4
  have S4 := Lib.hid (S3.out.trans s4)
  have hBw4 : B ≤ w4.heap.size := Nat.le_trans hBw S4.out.size
  have HBw4 := Lib.hid hBw4
  clear h4 s4 Hn3 hBw4
  go_wp2_with fail
  refine newReader_str.mono ?_
  rintro e w5 ⟨rfl, rfl⟩
  have hb5 : Below w4.heap.size w4 (w4.alloc (.cells #[.string (mkS txt), .int .i64 0, .int .i64 (-1)] 113)) := (Below.refl _ _).alloc (Nat.le_refl _) _
  have Htk5 := Lib.hid (Htk.out w4 HBw4.out)
  have Hb5 := Lib.hid hb5
  clear hb5 hlk c2
  go_wp2_with fail
  refine Htk5.out.mono ?_
  rintro e w6 ⟨tz, sb, bb, rfl, hz, hpb, k1, k2, k3, hb6⟩
  have hb46 : Below w4.heap.size w4 w6 := Hb5.out.trans (hb6.mono Hb5.out.size)
  have Hps6 := Lib.hid (Hps.out w4 w6 tz sb bb _ _ H4.out hb46 hz hpb (Nat.le_trans Hb5.out.size k1) (Nat.le_trans Hb5.out.size k2) (Nat.le_refl _))
  have S6 := Lib.hid (S4.out.trans (Soft.ofBelow hb46))
  clear hz hpb k1 k2 k3 hb6 hb46 Htk5
  go_wp2_with fail
  refine Hps6.out.mono ?_
  rintro e w7 ⟨rfl, h7, s7⟩
  have Hfin : Hid (InQ B ib C (IncAb nmB T ({ a with cur := nl, ts := ts } :: rest)) mn mac ifs bol text (.tuple #[]) w (.returned (.tuple #[])) w7) := Lib.hid ⟨rfl, h7, S6.out.trans s7⟩
  clear h7 s7
  go_wp2
  go_end0
  exact Hfin.out
end
/-- The input, told without memory. -/
structure Sg where
  ab : List Ab
  mn : Nat
  mac : Bs → Option Mc
  ifs : List Bool
  bol : Bool
  text : Bs

def Held (w : World) (B ib : Nat) (C : Cfg) (s : Sg) : Prop := ∃ L, L ≤ w.heap.size ∧ Inp w B ib { C with lim := L } s.ab s.mn s.mac s.ifs s.bol s.text

/-- What stays as it is while a file is read: whether conditions may be opened, the files, the folders. -/
structure Wy where
  bl : Bool
  F : Bs → Option ByteArray
  inc : List ByteArray
def Cfg.wy (C : Cfg) : Wy := ⟨C.bl, C.F, C.inc⟩

/-- A directive stands ahead: kw, with R behind it. -/
structure Hd (s : Sg) (dead rest : List Ab) (a : Ab) (kt : Tok) (R : List Tok) (kw : Bs) (on : Bool) : Prop where
  ab : s.ab = dead ++ a :: rest
  on : onB s.ifs = on
  il : s.ifs.length < 1000
  dd : ∀ d ∈ dead, d.ts = []
  ts : a.ts = kt :: R
  kk : kt.k = -2
  kx : kt.x = kw
  len : (dead ++ a :: rest).length < 500

/-- hash: what it says, what it leaves. -/
inductive Hs (y : Wy) : Sg → Bool → Sg → Prop
  | define {s dead a rest kt nt t0 body nl ts} : Hd s dead rest a kt (nt :: t0 :: body ++ nl :: ts) kwDefine true → (∀ q ∈ a :: rest, q.istz = true) → nt.k = -2 → nt.x.length ≤ 1000 → s.mac nt.x = none → s.mn < 1000000 → t0.k ≠ 40 →
      (∀ t ∈ t0 :: body, okTok t ∧ t.k ≠ 10 ∧ t.k ≠ 92 ∧ t.k ≠ -1 ∧ t.k ≠ 0) → nl.k = 10 → body.length ≤ 1000 →
      Hs y s true { s with ab := { a with cur := nl, ts := ts } :: rest, mn := s.mn + 1, mac := fun y => if y = nt.x then some ⟨none, (t0 :: body).map Tok.kx⟩ else s.mac y }
  | undef {s dead a rest kt nt nl ts m} : Hd s dead rest a kt (nt :: nl :: ts) kwUndef true → nt.k = -2 → nt.x.length ≤ 1000 → s.mac nt.x = some m → nl.k = 10 →
      Hs y s true { s with ab := { a with cur := nl, ts := ts } :: rest, mac := fun y => if y = nt.x then none else s.mac y }
  | ifdef {s dead a rest kt nt nl ts t} : y.bl = true → Hd s dead rest a kt (nt :: nl :: ts) (if t then kwIfdef else kwIfndef) true → nt.k = -2 → nt.x.length ≤ 1000 → nl.k = 10 → s.ifs.length < 900 →
      Hs y s true { s with ab := { a with cur := nl, ts := ts } :: rest, ifs := s.ifs ++ [(s.mac nt.x).isSome == t] }
  | else_ {s dead a rest kt nl ts b} : y.bl = true → Hd s dead rest a kt (nl :: ts) kwElse b → s.ifs = [b] → nl.k = 10 →
      Hs y s true { s with ab := { a with cur := nl, ts := ts } :: rest, ifs := [!b] }
  | endif {s dead a rest kt nl ts b} : y.bl = true → Hd s dead rest a kt (nl :: ts) kwEndif b → s.ifs = [b] → nl.k = 10 →
      Hs y s true { s with ab := { a with cur := nl, ts := ts } :: rest, ifs := [] }
  | defoff {s dead a rest kt R} : Hd s dead rest a kt R kwDefine false →
      Hs y s false { s with ab := { a with cur := kt, ts := R } :: rest }
  | incl {s dead a rest kt st nl ts T nmB txt} : Hd s dead rest a kt (st :: nl :: ts) kwInclude true → st.k = -6 → (∀ w, Calls Tryz.prog 99 #[.string (mkS st.x)] w (UnqQ nmB w)) → nl.k = 10 → y.F nmB = some (mkS txt) → nmB.length ≤ 1000 → TL txt 1 1 T → ascii txt → txt.length < 900000 → rest.length ≤ 90 →
      Hs y s true { s with ab := IncAb nmB T ({ a with cur := nl, ts := ts } :: rest) }

/-- Next tells k. (nest: macros that have been invoked; n: rounds to come) -/
inductive Nx (y : Wy) : Nat → Nat → Sg → Int → Sg → Prop
  | tok {nest s dead a rest t ts} : s.ab = dead ++ a :: rest → (∀ d ∈ dead, d.ts = []) → a.ts = t :: ts → (dead ++ a :: rest).length < 500 → t.k ≠ 35 → t.k ≠ -1 → t.k ≠ 0 → t.x.length ≤ 1000 → (t.k = -2 → s.mac t.x = none) → s.ifs.length < 1000 → onB s.ifs = true →
      Nx y nest 0 s t.k { s with ab := { a with cur := t, ts := ts } :: rest, bol := t.k == 10, text := t.x }
  | skip {nest n s dead a rest t ts k s'} : s.ab = dead ++ a :: rest → (∀ d ∈ dead, d.ts = []) → a.ts = t :: ts → (dead ++ a :: rest).length < 500 → t.k ≠ 35 → t.k ≠ -1 → t.k ≠ 0 → t.x.length ≤ 1000 → (t.k = -2 → s.mac t.x = none) → s.ifs.length < 1000 → onB s.ifs = false →
      Nx y nest n { s with ab := { a with cur := t, ts := ts } :: rest, bol := t.k == 10 } k s' → Nx y nest (n + 1) s k s'
  | mac {nest n s dead a rest t ts m k s'} : s.ab = dead ++ a :: rest → (∀ d ∈ dead, d.ts = []) → a.ts = t :: ts → (dead ++ a :: rest).length < 100 → t.k = -2 → t.x.length ≤ 1000 → s.mac t.x = some m → m.args = none → m.toks.length < 1000000 → (∀ q ∈ m.toks, q.1 ≠ -1) → nest < 99 →
      Nx y (nest + 1) n { s with ab := slAb a.nm t.line m.toks :: { a with cur := t, ts := ts } :: rest } k s' → Nx y nest (n + 1) s k s'
  | hash {nest s dead a rest t ts b s'} : s.ab = dead ++ a :: rest → (∀ d ∈ dead, d.ts = []) → a.ts = t :: ts → (dead ++ a :: rest).length < 500 → t.k = 35 → s.bol = true → Hs y { s with ab := { a with cur := t, ts := ts } :: rest } b s' →
      Nx y nest 0 s 35 { s' with bol := b, text := [35] }

def HsQ (B ib : Nat) (C : Cfg) (b : Bool) (s : Sg) (w : World) (e : Ending) (w' : World) : Prop := e = .returned (.bool b) ∧ Held w' B ib C s ∧ Soft B C.bl w w'
def NxQ (B ib : Nat) (C : Cfg) (k : Int) (s : Sg) (w : World) (e : Ending) (w' : World) : Prop := e = .returned (.int .i32 k) ∧ Held w' B ib C s ∧ Soft B C.bl w w'

section
variable {w w' : World} {B ib : Nat} {C : Cfg} {s s' : Sg} {ab ab' : List Ab} {mn : Nat} {mac : Bs → Option Mc} {ifs : List Bool} {bol : Bool} {text : Bs} {S S' : Nat → Value} {rs rs' : List RS} {ev : Value}

/-- What a directive leaves, as Held. -/
theorem hs_of {s' : Sg} {b : Bool} {e : Ending} {w' : World} (h : HZ B C.bl (.bool b) (fun w1 => Held w1 B ib C s') w e w') : HsQ B ib C b s' w e w' := h
theorem Inp.lim {L L' : Nat} (h : Inp w B ib { { C with lim := L } with lim := L' } ab mn mac ifs bol text) : Inp w B ib { C with lim := L' } ab mn mac ifs bol text := h

theorem hash_any {b : Bool} (h : Held w B ib C s) (hh : Hs C.wy s b s') (hg : Glob w ev) (hB : 21 ≤ B) :
    Calls Tryz.prog 59 #[.pointer (some ⟨ib, 0, none⟩)] w (HsQ B ib C b s' w) := by
  obtain ⟨L, hL, h⟩ := h
  cases hh with
  | @define dead a rest kt nt t0 body nl ts hd a1 a2 a3 a4 a5 a6 a7 a8 a9 => as_aux_lemma =>
    rw [hd.ab] at h
    refine hash_define_on (C := { C with lim := L }) (Z := fun w1 => Held w1 B ib C _) h hd.on hd.il hd.dd hd.ts hd.kk hd.kx hL hg hB hd.len (fun w1 h1 hL1 hg1 => ?_)
    have hl2 : ({ a with cur := kt, ts := nt :: t0 :: body ++ nl :: ts } :: rest : List Ab).length < 500 := by have := hd.len; simp at this ⊢; omega
    refine (define_plain (dead := []) h1 (fun _ h => by cases h) (tz_mem a1) rfl a2 a3 a4 a5 a6 a7 a8 a9 hL1 hg1 hB hl2).mono ?_
    rintro e w' ⟨rfl, ⟨L', hL', h'⟩, hs⟩
    exact ⟨rfl, ⟨L', hL', h'⟩, hs⟩
  | @undef dead a rest kt nt nl ts m hd a2 a3 a4 a5 => as_aux_lemma =>
    rw [hd.ab] at h
    refine hash_undef_on (C := { C with lim := L }) (Z := fun w1 => Held w1 B ib C _) h hd.on hd.il hd.dd hd.ts hd.kk hd.kx hL hg hB hd.len (fun w1 h1 hL1 hg1 => ?_)
    have hl2 : ({ a with cur := kt, ts := nt :: nl :: ts } :: rest : List Ab).length < 500 := by have := hd.len; simp at this ⊢; omega
    refine (undef_plain (dead := []) h1 (fun _ h => by cases h) rfl a2 a3 a4 a5 hg1 hB hl2).mono ?_
    rintro e w' ⟨rfl, h', hs⟩
    exact ⟨rfl, ⟨L, Nat.le_trans hL1 hs.size, h'⟩, hs⟩
  | @ifdef dead a rest kt nt nl ts t hbl hd a2 a3 a4 a5 => as_aux_lemma =>
    rw [hd.ab] at h
    have hl2 : ({ a with cur := kt, ts := nt :: nl :: ts } :: rest : List Ab).length < 500 := by have := hd.len; simp at this ⊢; omega
    have hcall : ∀ w1, Inp w1 B ib { C with lim := L } ({ a with cur := kt, ts := nt :: nl :: ts } :: rest) s.mn s.mac s.ifs s.bol s.text → Glob w1 ev → L ≤ w1.heap.size → Calls Tryz.prog 77 #[.pointer (some ⟨ib, 0, none⟩), .bool t] w1 (HZ B C.bl (.tuple #[]) (fun w1 => Held w1 B ib C { s with ab := { a with cur := nl, ts := ts } :: rest, ifs := s.ifs ++ [(s.mac nt.x).isSome == t] }) w1) := fun w1 h1 hg1 hL1 => by
      refine (ifdef_plain (dead := []) h1 hbl (fun _ h => by cases h) rfl a2 a3 a4 hd.on a5 hg1 hB hl2).mono ?_
      rintro e w' ⟨rfl, h', hs⟩
      exact ⟨rfl, ⟨L, Nat.le_trans hL1 hs.size, h'⟩, hs⟩
    cases t with
    | true => exact hash_ifdef_on (C := { C with lim := L }) h hd.on hd.il hd.dd hd.ts hd.kk hd.kx hL hg hB hd.len (fun w1 h1 hL1 hg1 => hcall w1 h1 hg1 hL1)
    | false => exact hash_ifndef_on (C := { C with lim := L }) h hd.on hd.il hd.dd hd.ts hd.kk hd.kx hL hg hB hd.len (fun w1 h1 hL1 hg1 => hcall w1 h1 hg1 hL1)
  | @else_ dead a rest kt nl ts b hbl hd a2 a3 => as_aux_lemma =>
    rw [hd.ab] at h
    have hl2 : ({ a with cur := kt, ts := nl :: ts } :: rest : List Ab).length < 500 := by have := hd.len; simp at this ⊢; omega
    have hcall : ∀ w1, Inp w1 B ib { C with lim := L } ({ a with cur := kt, ts := nl :: ts } :: rest) s.mn s.mac s.ifs s.bol s.text → Glob w1 ev → L ≤ w1.heap.size → Calls Tryz.prog 75 #[.pointer (some ⟨ib, 0, none⟩)] w1 (HZ B C.bl (.tuple #[]) (fun w1 => Held w1 B ib C { s with ab := { a with cur := nl, ts := ts } :: rest, ifs := [!b] }) w1) := fun w1 h1 hg1 hL1 => by
      rw [a2] at h1
      refine (else_plain h1 hbl rfl a3 hg1 hB hl2).mono ?_
      rintro e w' ⟨rfl, h', hs⟩
      exact ⟨rfl, ⟨L, Nat.le_trans hL1 hs.size, h'⟩, hs⟩
    cases b with
    | true => exact hash_else_on (C := { C with lim := L }) h hd.on hd.il hd.dd hd.ts hd.kk hd.kx hL hg hB hd.len (fun w1 h1 hL1 hg1 => hcall w1 h1 hg1 hL1)
    | false => exact hash_else_off (C := { C with lim := L }) h hd.on hd.il hd.dd hd.ts hd.kk hd.kx hL hg hB hd.len (fun w1 h1 hL1 hg1 => hcall w1 h1 hg1 hL1)
  | @endif dead a rest kt nl ts b hbl hd a2 a3 => as_aux_lemma =>
    rw [hd.ab] at h
    have hl2 : ({ a with cur := kt, ts := nl :: ts } :: rest : List Ab).length < 500 := by have := hd.len; simp at this ⊢; omega
    have hcall : ∀ w1, Inp w1 B ib { C with lim := L } ({ a with cur := kt, ts := nl :: ts } :: rest) s.mn s.mac s.ifs s.bol s.text → Glob w1 ev → L ≤ w1.heap.size → Calls Tryz.prog 76 #[.pointer (some ⟨ib, 0, none⟩)] w1 (HZ B C.bl (.tuple #[]) (fun w1 => Held w1 B ib C { s with ab := { a with cur := nl, ts := ts } :: rest, ifs := [] }) w1) := fun w1 h1 hg1 hL1 => by
      rw [a2] at h1
      refine (endif_plain h1 hbl rfl a3 hg1 hB hl2).mono ?_
      rintro e w' ⟨rfl, h', hs⟩
      exact ⟨rfl, ⟨L, Nat.le_trans hL1 hs.size, h'⟩, hs⟩
    cases b with
    | true => exact hash_endif_on (C := { C with lim := L }) h hd.on hd.il hd.dd hd.ts hd.kk hd.kx hL hg hB hd.len (fun w1 h1 hL1 hg1 => hcall w1 h1 hg1 hL1)
    | false => exact hash_endif_off (C := { C with lim := L }) h hd.on hd.il hd.dd hd.ts hd.kk hd.kx hL hg hB hd.len (fun w1 h1 hL1 hg1 => hcall w1 h1 hg1 hL1)
  | @defoff dead a rest kt R hd => as_aux_lemma =>
    rw [hd.ab] at h
    refine (hash_define_off (C := { C with lim := L }) h hd.on hd.il hd.dd hd.ts hd.kk hd.kx hL hg hB hd.len).mono ?_
    rintro e w' ⟨rfl, h', hs⟩
    exact ⟨rfl, ⟨L, Nat.le_trans hL hs.size, h'⟩, hs⟩
  | @incl dead a rest kt st nl ts T nmB txt hd a2 a3 a4 a5 a6 a7 a8 a9 a10 => as_aux_lemma =>
    rw [hd.ab] at h
    refine hash_include_on (C := { C with lim := L }) (Z := fun w1 => Held w1 B ib C _) h hd.on hd.il hd.dd hd.ts hd.kk hd.kx hL hg hB hd.len (fun w1 h1 hL1 hg1 => ?_)
    have hl2 : ({ a with cur := kt, ts := st :: nl :: ts } :: rest : List Ab).length < 500 := by have := hd.len; simp at this ⊢; omega
    refine (include_plain (dead := []) h1 (fun _ h => by cases h) rfl a2 a3 a4 a5 a6 a7 a8 a9 hg1 hB hl2 a10).mono ?_
    rintro e w' ⟨rfl, h', hs⟩
    exact ⟨rfl, ⟨L, Nat.le_trans hL1 hs.size, h'⟩, hs⟩

/-- bol and text are set. -/
theorem Inp.set {i : Nat} {v : Value} (h : In w B ib C ab mn mac ifs bol text S rs) (hi : i = 3 ∨ i = 6) : Stk (w.setCell ⟨ib, i, none⟩ v) B ib (upd S i v) rs ∧ Env (w.setCell ⟨ib, i, none⟩ v) B (upd S i v) C mn mac ifs ∧ (∀ r ∈ rs, PB (w.setCell ⟨ib, i, none⟩ v) r.bb r.nm) ∧ Soft B C.bl w (w.setCell ⟨ib, i, none⟩ v) := by
  have ho := (Only.refl (fun k => k = ib) w).setCell (p := ⟨ib, i, none⟩) (fun _ => rfl) v
  have hib : Typed w ib (· = 82) := h.stk.blk.typed rfl
  have hmt : Typed w ib MT := h.stk.blk.typed (.inr (.inl rfl))
  have hne : ∀ {k : Nat} {P : TypeId → Prop}, Typed w k P → ¬ P 82 → k ≠ ib := fun ht hp => typed_ne ht hib (fun T a b => hp (b ▸ a))
  refine ⟨⟨h.stk.blk.set i v, h.stk.low, ?_, fun r hr => Rd.only (h.stk.rds r hr) ho (fun k hk => hne (Rd.foot (h.stk.rds r hr) k hk).2 (rt_ne (.inl rfl))) (fun k e _ ht => hne ht (by decide) e), h.stk.apart⟩, ?_, fun r hr => ?_, ?_⟩
  · rw [upd_other _ _ (by omega)]
    exact row_only h.stk.row ho (fun k e _ ht => hne ht (by decide) e)
  · exact h.env.only ho (fun k e _ => e ▸ hmt) (upd_other _ _ (by omega)) (upd_other _ _ (by omega)) (upd_other _ _ (by omega)) (upd_other _ _ (by omega))
  · have hp := h.nms r hr
    obtain ⟨S2, hb, hn⟩ := hp
    exact ⟨S2, hb.only ho (hne (hb.typed (P := (· = 138)) rfl) (by decide)), hn⟩
  · exact Soft.of ho (fun k e _ => by subst e; exact ⟨h.stk.low, .inl (h.stk.blk.typed (.inl (.inr (.inl rfl))))⟩)

theorem Inp.setBol (h : Inp w B ib C ab mn mac ifs bol text) (b : Bool) : Inp (w.setCell ⟨ib, 3, none⟩ (.bool b)) B ib C ab mn mac ifs b text ∧ Soft B C.bl w (w.setCell ⟨ib, 3, none⟩ (.bool b)) := by
  obtain ⟨S, rs, h⟩ := h
  obtain ⟨h1, h2, h3, h4⟩ := Inp.set (i := 3) (v := .bool b) h (.inl rfl)
  exact ⟨⟨_, rs, ⟨h1, h.abs, h3, h2, upd_same _ _ _, (upd_other _ _ (by omega)).trans h.s6, (upd_other _ _ (by omega)).trans h.s7, by rw [upd_other _ _ (by omega)]; exact h.s8, by rw [upd_other _ _ (by omega)]; exact h.s9⟩⟩, h4⟩
theorem Inp.setText (h : Inp w B ib C ab mn mac ifs bol text) (x : Bs) : Inp (w.setCell ⟨ib, 6, none⟩ (.string (mkS x))) B ib C ab mn mac ifs bol x ∧ Soft B C.bl w (w.setCell ⟨ib, 6, none⟩ (.string (mkS x))) := by
  obtain ⟨S, rs, h⟩ := h
  obtain ⟨h1, h2, h3, h4⟩ := Inp.set (i := 6) (v := .string (mkS x)) h (.inr rfl)
  exact ⟨⟨_, rs, ⟨h1, h.abs, h3, h2, (upd_other _ _ (by omega)).trans h.s3, upd_same _ _ _, (upd_other _ _ (by omega)).trans h.s7, by rw [upd_other _ _ (by omega)]; exact h.s8, by rw [upd_other _ _ (by omega)]; exact h.s9⟩⟩, h4⟩

theorem Inp.c3 (h : Inp w B ib C ab mn mac ifs bol text) : w.cell? ⟨ib, 3, none⟩ = some (.bool bol) ∧ w.frozen? ⟨ib, 3, none⟩ = false := by
  obtain ⟨S, rs, h⟩ := h; exact ⟨h.stk.blk.cell_eq (by decide) h.s3, h.stk.blk.frozen 3⟩
theorem Inp.c6 (h : Inp w B ib C ab mn mac ifs bol text) : w.cell? ⟨ib, 6, none⟩ = some (.string (mkS text)) ∧ w.frozen? ⟨ib, 6, none⟩ = false := by
  obtain ⟨S, rs, h⟩ := h; exact ⟨h.stk.blk.cell_eq (by decide) h.s6, h.stk.blk.frozen 6⟩
theorem Inp.c7 (h : Inp w B ib C ab mn mac ifs bol text) : w.cell? ⟨ib, 7, none⟩ = some (.bool false) := by
  obtain ⟨S, rs, h⟩ := h; exact h.stk.blk.cell_eq (by decide) h.s7
theorem Inp.mac_none (h : Inp w B ib C ab mn mac ifs bol text) {x : Bs} (hx : mac x = none) (hl : x.length ≤ 1000000) :
    w.cell? ⟨ib, 5, none⟩ = some (.map (some C.mb)) ∧ (Instr.lookup 80 (.map (some C.mb)) (.string (mkS x)) false).run Tryz.prog w = .ok (.pointer none) w := by
  obtain ⟨S, rs, h⟩ := h
  obtain ⟨f, m1, m2, m3⟩ := h.env.mcs
  refine ⟨h.stk.blk.cell_eq (by decide) h.env.mcv, ?_⟩
  have := m1.look Tryz.underlying80 zero_ptr_macro x hl
  rw [m2 x hx] at this
  exact this
theorem Inp.mac_some (h : Inp w B ib C ab mn mac ifs bol text) {x : Bs} {m : Mc} (hx : mac x = some m) (hl : x.length ≤ 1000000) :
    ∃ b, w.cell? ⟨ib, 5, none⟩ = some (.map (some C.mb)) ∧ (Instr.lookup 80 (.map (some C.mb)) (.string (mkS x)) false).run Tryz.prog w = .ok (.pointer (some ⟨b, 0, none⟩)) w ∧ MacAt w C.lim b x m := by
  obtain ⟨S, rs, h⟩ := h
  obtain ⟨f, m1, m2, m3⟩ := h.env.mcs
  obtain ⟨b, hb, hm⟩ := m3 x m hx
  refine ⟨b, h.stk.blk.cell_eq (by decide) h.env.mcv, ?_, hm⟩
  have := m1.look Tryz.underlying80 zero_ptr_macro x hl
  rw [hb] at this
  exact this
end
end Go.Proofs.YtmkehbjpnajilaaGreatDoor
