/- The input: what it holds, its methods on the stack, macros laid down. -/
import Derived.Test.YtpoimmpdncickaaGreatDoorJ7
import Derived.Test.YtpoimmpdncickaaGreatDoorJ4
import Derived.OwnWalk
/- The input: its block in memory, what it holds; what changes leave it as it is. -/
namespace Go.Proofs.YtpoimmpdncickaaGreatDoor
open Go Go.RowKit Lex
set_option linter.unusedVariables false
set_option linter.unusedSimpArgs false

/-- A macro: its arguments (none: it takes none), its tokens. -/
structure Mc where
  args : Option (List Bs)
  toks : List (Int × Bs)

/-- v is a slice of these strings. -/
def Strs (w : World) (v : Value) (l : List ByteArray) : Prop := w.ownsRow 0 9 1 v l.length (l.map Value.string)

/-- The macro's block (it and its rows lie below L). -/
def MacAt (w : World) (L b : Nat) (x : Bs) (m : Mc) : Prop :=
  ∃ S, Blk w b 120 3 S ∧ (b < L ∧ (∀ k, (S 1).ownBlock = some k → k < L) ∧ ∀ k, (S 2).ownBlock = some k → k < L) ∧ S 0 = .string (mkS x) ∧ Toki w (S 2) m.toks ∧ (match m.args with | none => S 1 = .slice none 0 0 | some l => (∃ a n c, S 1 = .slice (some a) n c) ∧ Strs w (S 1) (l.map mkS))

/-- The macros that are there. -/
def Macs (w : World) (L b n : Nat) (mac : Bs → Option Mc) : Prop :=
  ∃ f : Bs → Option Nat, SMap w b n (fun x => (f x).map fun b => .pointer (some ⟨b, 0, none⟩)) ∧ (∀ x, mac x = none → f x = none) ∧ ∀ x m, mac x = some m → ∃ b, f x = some b ∧ MacAt w L b x m

/-- The blocks of the input that stay: the maps of macros and of files; what is told of macros lies below lim; bl: conditions may be opened. -/
structure Cfg where
  lim : Nat
  bl : Bool
  mb : Nat
  fb : Nat
  F : Bs → Option ByteArray
  inc : List ByteArray

/-- What stands beside the stack. -/
structure Env (w : World) (B : Nat) (S : Nat → Value) (C : Cfg) (mn : Nat) (mac : Bs → Option Mc) (ifs : List Bool) : Prop where
  ifr : w.ownsRow B 4 1 (S 4) ifs.length (ifs.map Value.bool)
  mcv : S 5 = .map (some C.mb)
  mcs : Macs w C.lim C.mb mn mac
  mlow : B ≤ C.mb
  fiv : S 2 = .map (some C.fb)
  fis : ∃ n, SMap w C.fb n (fun x => (C.F x).map Value.string)
  ne : C.mb ≠ C.fb
  inv : Strs w (S 1) C.inc
  inl : ∀ k, (S 1).ownBlock = some k → k < C.lim

/-- The types of the blocks that the stack writes. -/
def MT (T : TypeId) : Prop := RT T ∨ T = 73 ∨ T = 79
theorem mt_not {T : TypeId} (h : T = 4 ∨ T = 116 ∨ T = 120 ∨ T = 9 ∨ T = 129) : ¬ MT T := by
  rintro ((e | e | e | e | e | e) | e | e) <;> subst e <;> revert h <;> decide

section
variable {w w' : World} {B : Nat} {E : Nat → Prop}

theorem row_only {e : TypeId} {size : Nat} {v : Value} {n : Nat} {xs : List Value} {b : Nat} (h : w.ownsRow b e size v n xs) (ho : Only E w w') (hE : ∀ k, E k → k < w.heap.size → ¬ Typed w k (· = e)) : w'.ownsRow b e size v n xs :=
  ownsRow_only h (fun k hk => by
    have ht := (ownBlock_row h k hk).2
    exact ho.block k ht.lt (fun e => hE k e ht.lt ht))
theorem not_typed {k : Nat} {P : TypeId → Prop} {T : TypeId} (h : Typed w k P) (hp : ¬ P T) : ¬ Typed w k (· = T) := fun h' => typed_ne h h' (fun U a b => hp (b ▸ a)) rfl

theorem MacAt.only {L b : Nat} {x : Bs} {m : Mc} (h : MacAt w L b x m) (ho : Only E w w') (hE : ∀ k, E k → k < w.heap.size → ¬ Typed w k (· = 120) ∧ ¬ Typed w k (· = 116) ∧ ¬ Typed w k (· = 9)) : MacAt w' L b x m := by
  obtain ⟨S, hb, hL, h0, h2, h1⟩ := h
  refine ⟨S, hb.only ho (fun e => (hE b e hb.lt).1 (hb.typed rfl)), hL, h0, row_only h2 ho (fun k e hk => (hE k e hk).2.1), ?_⟩
  cases ha : m.args with
  | none => rw [ha] at h1; exact h1
  | some l => rw [ha] at h1; exact ⟨h1.1, row_only h1.2 ho (fun k e hk => (hE k e hk).2.2)⟩

theorem Env.only {S S' : Nat → Value} {C : Cfg} {mn : Nat} {mac : Bs → Option Mc} {ifs : List Bool} (h : Env w B S C mn mac ifs) (ho : Only E w w') (hE : ∀ k, E k → k < w.heap.size → Typed w k MT)
    (h1 : S' 1 = S 1) (h2 : S' 2 = S 2) (h4 : S' 4 = S 4) (h5 : S' 5 = S 5) : Env w' B S' C mn mac ifs := by
  obtain ⟨nf, hf⟩ := h.fis
  obtain ⟨f, m1, m2, m3⟩ := h.mcs
  refine { ifr := ?_, mcv := h5.trans h.mcv, mcs := ⟨f, m1.only ho hE, m2, fun x m hx => ?_⟩, mlow := h.mlow, fiv := h2.trans h.fiv, fis := ⟨nf, hf.only ho hE⟩, ne := h.ne, inv := ?_, inl := by rw [h1]; exact h.inl }
  · rw [h4]; exact row_only h.ifr ho (fun k e hk => not_typed (hE k e hk) (mt_not (.inl rfl)))
  · obtain ⟨b, hb, hm⟩ := m3 x m hx
    exact ⟨b, hb, hm.only ho (fun k e hk => ⟨not_typed (hE k e hk) (mt_not (.inr (.inr (.inl rfl)))), not_typed (hE k e hk) (mt_not (.inr (.inl rfl))), not_typed (hE k e hk) (mt_not (.inr (.inr (.inr (.inl rfl)))))⟩)⟩
  · rw [h1]; exact row_only h.inv ho (fun k e hk => not_typed (hE k e hk) (mt_not (.inr (.inr (.inr (.inl rfl))))))
end

/-- A reader, told without memory. -/
structure Ab where
  istz : Bool
  nm : ByteArray
  cur : Tok
  ts : List Tok

def RS.ab (r : RS) (t : Bool) : Ab := ⟨t, r.nm, r.cur, r.ts⟩
def RS.is (r : RS) (a : Ab) : Prop := r.nm = a.nm ∧ r.cur = a.cur ∧ r.ts = a.ts ∧ (a.istz = true → isTz r.v)

inductive All2 : List RS → List Ab → Prop
  | nil : All2 [] []
  | cons {r a rs ab} : r.is a → All2 rs ab → All2 (r :: rs) (a :: ab)
theorem All2.len : ∀ {rs : List RS} {ab : List Ab}, All2 rs ab → rs.length = ab.length
  | _, _, .nil => rfl
  | _, _, .cons _ h => by simp [h.len]
theorem All2.split : ∀ {xs : List Ab} {rs : List RS} {a : Ab} {ys : List Ab}, All2 rs (xs ++ a :: ys) → ∃ rx r ry, rs = rx ++ r :: ry ∧ All2 rx xs ∧ r.is a ∧ All2 ry ys
  | [], _, _, _, .cons h1 h2 => ⟨[], _, _, rfl, .nil, h1, h2⟩
  | x :: xs, _, _, _, .cons h1 h2 => by
    obtain ⟨rx, r, ry, rfl, h3, h4, h5⟩ := h2.split (xs := xs)
    exact ⟨_ :: rx, r, ry, rfl, .cons h1 h3, h4, h5⟩
theorem All2.dead : ∀ {rs : List RS} {ab : List Ab}, All2 rs ab → (∀ d ∈ ab, d.ts = []) → ∀ d ∈ rs, d.ts = []
  | _, _, .nil, _, _, h => by cases h
  | _, _, .cons h1 h2, hd, d, h => by
    rcases List.mem_cons.1 h with rfl | h
    · exact h1.2.2.1.trans (hd _ (by simp))
    · exact h2.dead (fun q hq => hd q (by simp [hq])) d h

/-- THE INPUT in block ib: its readers (the top one first), its macros, its open conditions (the outermost first), whether a line begins, its text. -/
structure In (w : World) (B ib : Nat) (C : Cfg) (ab : List Ab) (mn : Nat) (mac : Bs → Option Mc) (ifs : List Bool) (bol : Bool) (text : Bs) (S : Nat → Value) (rs : List RS) : Prop where
  stk : Stk w B ib S rs
  abs : All2 rs ab
  nms : ∀ r ∈ rs, PB w r.bb r.nm
  env : Env w B S C mn mac ifs
  s3 : S 3 = .bool bol
  s6 : S 6 = .string (mkS text)
  s7 : S 7 = .bool false
  s8 : ∃ n, S 8 = .int .i32 n
  s9 : ∃ s, S 9 = .string s

/-- .. the place of its readers hidden. -/
def Inp (w : World) (B ib : Nat) (C : Cfg) (ab : List Ab) (mn : Nat) (mac : Bs → Option Mc) (ifs : List Bool) (bol : Bool) (text : Bs) : Prop := ∃ S rs, In w B ib C ab mn mac ifs bol text S rs

/-- What the input's functions may write: blocks from B on, of some types, and maps. -/
def MT2 (bl : Bool) (T : TypeId) : Prop := MT T ∨ (bl = true ∧ T = 4)
theorem mt2_not {bl : Bool} {T : TypeId} (h : T = 116 ∨ T = 120 ∨ T = 9 ∨ T = 129) : ¬ MT2 bl T := by
  rintro (e | ⟨_, e⟩)
  · exact mt_not (.inr h) e
  · subst e; revert h; decide
def Mut (bl : Bool) (w : World) (k : Nat) : Prop := Typed w k (MT2 bl) ∨ ∃ es c, w.heap[k]? = some (.map es c)
def Soft (B : Nat) (bl : Bool) (w w' : World) : Prop := Only (fun k => B ≤ k ∧ Mut bl w k) w w'

section
variable {B : Nat} {bl : Bool} {w w1 w2 : World}
theorem mut_back {k : Nat} (h : w1.heap[k]? = w.heap[k]?) (hm : Mut bl w1 k) : Mut bl w k := by
  rcases hm with ⟨c, T, h1, h2⟩ | ⟨es, c, h1⟩
  · exact .inl ⟨c, T, h ▸ h1, h2⟩
  · exact .inr ⟨es, c, h ▸ h1⟩
theorem Soft.refl (B : Nat) (bl : Bool) (w : World) : Soft B bl w w := Only.refl _ w
theorem Soft.trans (h : Soft B bl w w1) (k : Soft B bl w1 w2) : Soft B bl w w2 :=
  Only.trans h k (fun i hi ⟨hb, hm⟩ => by
    by_cases hd : B ≤ i ∧ Mut bl w i
    · exact hd
    · exact ⟨hb, mut_back (h.block i hi hd) hm⟩)
theorem Soft.of {E : Nat → Prop} (ho : Only E w w1) (hE : ∀ k, E k → k < w.heap.size → B ≤ k ∧ Mut bl w k) : Soft B bl w w1 := ho.mono (fun k hk e => hE k e hk)
theorem Soft.below (h : Soft B bl w w1) (hB : B ≤ w.heap.size) : Below B w w1 := Only.below h hB (fun k hk e => by omega)
theorem Soft.ofBelow (h : Below w.heap.size w w1) : Soft B bl w w1 := (Only.ofBelow h).mono (fun k hk e => absurd hk (by omega))
/-- A row of another type stays. -/
theorem Soft.row {e : TypeId} {size : Nat} {v : Value} {n : Nat} {xs : List Value} {b : Nat} (h : Soft B bl w w1) (hr : w.ownsRow b e size v n xs) (he : ¬ MT2 bl e) : w1.ownsRow b e size v n xs :=
  row_only hr h (fun k hk hlt ht => by
    rcases hk.2 with hm | ⟨es, c, hm⟩
    · exact not_typed hm he ht
    · obtain ⟨c', T, h1, _⟩ := ht
      rw [h1] at hm; cases hm)
theorem Soft.blk {b : Nat} {T : TypeId} {n : Nat} {S : Nat → Value} (h : Soft B bl w w1) (hr : Blk w b T n S) (he : ¬ MT2 bl T) : Blk w1 b T n S :=
  hr.only h (fun hk => by
    rcases hk.2 with hm | ⟨es, c, hm⟩
    · exact not_typed hm he (hr.typed rfl)
    · obtain ⟨c', h1, _⟩ := hr
      rw [h1] at hm; cases hm)
theorem Soft.glob {ev : Value} (h : Soft B bl w w1) (hg : Glob w ev) (hB : 21 ≤ B) : Glob w1 ev := hg.only h (fun k hk e => by omega)
end
/-- What a stack's method leaves. -/
def InQ (B ib : Nat) (C : Cfg) (ab : List Ab) (mn : Nat) (mac : Bs → Option Mc) (ifs : List Bool) (bol : Bool) (text : Bs) (val : Value) (w : World) (e : Ending) (w' : World) : Prop :=
  e = .returned val ∧ Inp w' B ib C ab mn mac ifs bol text ∧ Soft B C.bl w w'

section
variable {w w' : World} {B ib : Nat} {C : Cfg} {ab ab' : List Ab} {mn : Nat} {mac : Bs → Option Mc} {ifs : List Bool} {bol : Bool} {text : Bs} {S S' : Nat → Value} {rs rs' : List RS} {ev : Value}

theorem stk_typed (h : Stk w B ib S rs) : ∀ k, (k = ib ∨ (∃ q ∈ rs, q.D k) ∨ (S 0).ownBlock = some k) → B ≤ k ∧ Typed w k MT := by
  rintro k (e | ⟨q, hq, e⟩ | e)
  · exact ⟨e ▸ h.low, e ▸ h.blk.typed (.inr (.inl rfl))⟩
  · obtain ⟨h1, c, T, h2, h3⟩ := Rd.foot (h.rds q hq) k e
    exact ⟨h1, c, T, h2, .inl h3⟩
  · obtain ⟨h1, c, T, h2, h3⟩ := ownBlock_row h.row k e
    exact ⟨h1, c, T, h2, .inr (.inr h3)⟩

/-- The stack has moved. -/
theorem In.move (h : In w B ib C ab mn mac ifs bol text S rs) (hs : Stk w' B ib S' rs') (ha : All2 rs' ab') (hn : ∀ r ∈ rs', PB w' r.bb r.nm) (hS : ∀ i, i ≠ 0 → S' i = S i)
    (ho : Only (fun k => k = ib ∨ (∃ q ∈ rs, q.D k) ∨ (S 0).ownBlock = some k) w w') : In w' B ib C ab' mn mac ifs bol text S' rs' ∧ Soft B C.bl w w' := by
  have ht := stk_typed h.stk
  refine ⟨{ stk := hs, abs := ha, nms := hn, env := h.env.only ho (fun k e _ => (ht k e).2) (hS 1 (by omega)) (hS 2 (by omega)) (hS 4 (by omega)) (hS 5 (by omega)), s3 := (hS 3 (by omega)).trans h.s3, s6 := (hS 6 (by omega)).trans h.s6, s7 := (hS 7 (by omega)).trans h.s7, s8 := by rw [hS 8 (by omega)]; exact h.s8, s9 := by rw [hS 9 (by omega)]; exact h.s9 }, ?_⟩
  exact Soft.of ho (fun k e _ => ⟨(ht k e).1, by obtain ⟨c, T, h1, h2⟩ := (ht k e).2; exact .inl ⟨c, T, h1, .inl h2⟩⟩)

theorem pb_keep (h : In w B ib C ab mn mac ifs bol text S rs) (ho : Only (fun k => k = ib ∨ (∃ q ∈ rs, q.D k) ∨ (S 0).ownBlock = some k) w w') {r : RS} (hr : r ∈ rs) : PB w' r.bb r.nm := by
  have hp := h.nms r hr
  refine hp.only ho (fun e => ?_)
  obtain ⟨S2, hb, _⟩ := hp
  exact not_typed (stk_typed h.stk _ e).2 (mt_not (.inr (.inr (.inr (.inr rfl))))) (hb.typed rfl)

theorem inNext {dead rest : List Ab} {a : Ab} {t : Tok} {ts : List Tok} (h : Inp w B ib C (dead ++ a :: rest) mn mac ifs bol text) (hd : ∀ d ∈ dead, d.ts = []) (hts : a.ts = t :: ts) (hg : Glob w ev) (hB : 21 ≤ B) (hl : (dead ++ a :: rest).length < 500) :
    Calls Tryz.prog 50 #[.pointer (some ⟨ib, 0, none⟩)] w (InQ B ib C ({ a with cur := t, ts := ts } :: rest) mn mac ifs bol text (.int .i32 t.k) w) := by
  obtain ⟨S, rs, h⟩ := h
  obtain ⟨rx, r, ry, rfl, a1, a2, a3⟩ := h.abs.split
  have hlen := h.abs.len
  have hk : t.k ≠ -1 := by
    have := h.stk.rds r (by simp)
    unfold RS.ok at this
    rw [a2.2.2.1, hts] at this
    exact this.not_eof
  refine (stNext hB (a2.2.2.1.trans hts) hk rx h.stk (a1.dead hd) hg (by omega)).mono ?_
  rintro e w' ⟨rfl, S', D', hs, hS, ho, hgr⟩
  have ho' : Only (fun k => k = ib ∨ (∃ q ∈ rx ++ r :: ry, q.D k) ∨ (S 0).ownBlock = some k) w w' := ho.mono (fun k _ h => h.imp id (fun ⟨q, hq, e⟩ => .inl ⟨q, by simp at hq ⊢; rcases hq with hq | hq; exact .inl hq; exact .inr (.inl hq), e⟩))
  obtain ⟨h1, h2⟩ := h.move hs (ab' := { a with cur := t, ts := ts } :: rest) (.cons ⟨a2.1, rfl, rfl, a2.2.2.2⟩ a3) (fun q hq => by
    rcases List.mem_cons.1 hq with rfl | hq
    · exact pb_keep h ho' (r := r) (by simp)
    · exact pb_keep h ho' (r := q) (by simp [hq])) hS ho'
  exact ⟨rfl, ⟨_, _, h1⟩, h2⟩

theorem inEof {dead : List Ab} {a : Ab} (h : Inp w B ib C (dead ++ [a]) mn mac ifs bol text) (hd : ∀ d ∈ dead, d.ts = []) (hts : a.ts = []) (htz : a.istz = true) (hg : Glob w ev) (hB : 21 ≤ B) (hl : (dead ++ [a]).length < 500) :
    Calls Tryz.prog 50 #[.pointer (some ⟨ib, 0, none⟩)] w (fun e w' => ∃ c, InQ B ib C [{ a with cur := ⟨-1, [], a.cur.line, c⟩, ts := [] }] mn mac ifs bol text (.int .i32 (-1)) w e w') := by
  obtain ⟨S, rs, h⟩ := h
  obtain ⟨rx, r, ry, rfl, a1, a2, a3⟩ := h.abs.split
  have hlen := h.abs.len
  cases a3
  obtain ⟨tz, hv⟩ := a2.2.2.2 htz
  refine (stEof hB (a2.2.2.1.trans hts) hv rx h.stk (a1.dead hd) hg (by omega)).mono ?_
  rintro e w' ⟨rfl, S', D', c, hs, hS, ho, hgr⟩
  have ho' : Only (fun k => k = ib ∨ (∃ q ∈ rx ++ r :: [], q.D k) ∨ (S 0).ownBlock = some k) w w' := ho.mono (fun k _ h => h.imp id (fun ⟨q, hq, e⟩ => .inl ⟨q, hq, e⟩))
  obtain ⟨h1, h2⟩ := h.move hs (ab' := [{ a with cur := ⟨-1, [], a.cur.line, c⟩, ts := [] }]) (.cons ⟨a2.1, by show (⟨-1, [], r.cur.line, c⟩ : Tok) = _; rw [a2.2.1], rfl, a2.2.2.2⟩ .nil) (fun q hq => by
    rcases List.mem_cons.1 hq with rfl | hq
    · exact pb_keep h ho' (r := r) (by simp)
    · cases hq) hS ho'
  exact ⟨c, rfl, ⟨_, _, h1⟩, h2⟩

theorem inText {rest : List Ab} {a : Ab} (h : Inp w B ib C (a :: rest) mn mac ifs bol text) (hk : a.cur.k ≠ 0) (hl : (a :: rest).length < 500) :
    Calls Tryz.prog 52 #[.pointer (some ⟨ib, 0, none⟩)] w (InQ B ib C (a :: rest) mn mac ifs bol text (.string (mkS a.cur.x)) w) := by
  obtain ⟨S, rs, h⟩ := h
  have hlen := h.abs.len
  have hab := h.abs
  cases hab with
  | @cons r _ ry _ a2 a3 =>
    have hc := a2.2.1
    refine (stkText h.stk (by rw [hc]; exact hk) (by simp at hlen hl; omega)).mono ?_
    rintro e w' ⟨rfl, D', hs, ho, hgr⟩
    have ho' : Only (fun k => k = ib ∨ (∃ q ∈ r :: ry, q.D k) ∨ (S 0).ownBlock = some k) w w' := ho.mono (fun k _ h => .inr (.inl ⟨r, by simp, h⟩))
    obtain ⟨h1, h2⟩ := h.move hs (ab' := a :: rest) (.cons ⟨a2.1, a2.2.1, a2.2.2.1, a2.2.2.2⟩ a3) (fun q hq => by
      rcases List.mem_cons.1 hq with rfl | hq
      · exact pb_keep h ho' (r := r) (by simp)
      · exact pb_keep h ho' (r := q) (by simp [hq])) (fun _ _ => rfl) ho'
    exact ⟨by rw [hc], ⟨_, _, h1⟩, h2⟩

theorem Inp.drewN (h : Inp w B ib C ab mn mac ifs bol text) (m : Nat) : Inp (w.drewN m) B ib C ab mn mac ifs bol text := by
  obtain ⟨S, rs, h⟩ := h
  have ho := (Only.refl (fun k => k = ib ∨ (∃ q ∈ rs, q.D k) ∨ (S 0).ownBlock = some k) w).drewN m
  exact ⟨S, rs, (h.move (h.stk.drewN m) h.abs (fun r hr => pb_keep h ho hr) (fun _ _ => rfl) ho).1⟩

theorem inLine {rest : List Ab} {a : Ab} (h : Inp w B ib C (a :: rest) mn mac ifs bol text) (hl : (a :: rest).length < 500) :
    Calls Tryz.prog 37 #[.pointer (some ⟨ib, 0, none⟩)] w (fun e w' => e = .returned (.int .i64 a.cur.line) ∧ ∃ m, w' = w.drewN m) := by
  obtain ⟨S, rs, h⟩ := h
  have hlen := h.abs.len
  have hab := h.abs
  cases hab with
  | @cons r _ ry _ a2 a3 =>
    rw [← a2.2.1]
    exact stkLine h.stk (by simp at hlen hl; omega)
theorem inFile {rest : List Ab} {a : Ab} (h : Inp w B ib C (a :: rest) mn mac ifs bol text) (hl : (a :: rest).length < 500) :
    Calls Tryz.prog 36 #[.pointer (some ⟨ib, 0, none⟩)] w (fun e w' => e = .returned (.string a.nm) ∧ ∃ m, w' = w.drewN m) := by
  obtain ⟨S, rs, h⟩ := h
  have hlen := h.abs.len
  have hab := h.abs
  cases hab with
  | @cons r _ ry _ a2 a3 =>
    rw [← a2.1]
    exact stkFile h.stk (by simp at hlen hl; omega) (h.nms r (by simp))
end
section
variable {w w' : World} {B ib : Nat} {C : Cfg} {ab ab' : List Ab} {mn : Nat} {mac : Bs → Option Mc} {ifs : List Bool} {bol : Bool} {text : Bs} {S S' : Nat → Value} {rs rs' : List RS} {ev : Value}

theorem Toki.drewN {w : World} {v : Value} {ts : List (Int × Bs)} (h : Toki w v ts) (m : Nat) : Toki (w.drewN m) v ts := ownsRow_only h (fun _ _ => rfl)
theorem Inp.low (h : Inp w B ib C ab mn mac ifs bol text) : B ≤ ib ∧ ib < w.heap.size := by
  obtain ⟨S, rs, h⟩ := h
  exact ⟨h.stk.low, h.stk.blk.lt⟩

theorem inBase {rest : List Ab} {a : Ab} (h : Inp w B ib C (a :: rest) mn mac ifs bol text) (hl : (a :: rest).length < 500) :
    Calls Tryz.prog 55 #[.pointer (some ⟨ib, 0, none⟩)] w (fun e w' => ∃ bb m, e = .returned (.pointer (some ⟨bb, 0, none⟩)) ∧ PB w bb a.nm ∧ w' = w.drewN m) := by
  obtain ⟨S, rs, h⟩ := h
  have hlen := h.abs.len
  have hab := h.abs
  cases hab with
  | @cons r _ ry _ a2 a3 =>
    refine (stkBase h.stk (by simp at hlen hl; omega)).mono ?_
    rintro e w' ⟨rfl, m, rfl⟩
    exact ⟨r.bb, m, rfl, a2.1 ▸ h.nms r (by simp), rfl⟩

/-- New blocks are made. -/
theorem Inp.below (h : Inp w B ib C ab mn mac ifs bol text) (hb : Below w.heap.size w w') : Inp w' B ib C ab mn mac ifs bol text := by
  obtain ⟨S, rs, h⟩ := h
  have ho : Only (fun k => k = ib ∨ (∃ q ∈ rs, q.D k) ∨ (S 0).ownBlock = some k) w w' := (Only.ofBelow hb).mono (fun k hk e => by omega)
  exact ⟨S, rs, (h.move (h.stk.below hb) h.abs (fun r hr => pb_keep h ho hr) (fun _ _ => rfl) ho).1⟩

/-- A new reader is pushed: its blocks are newer than the input's. -/
theorem inPushS {w0 : World} {r : RS} {a : Ab} (h0 : Inp w0 B ib C ab mn mac ifs bol text) (hb : Below w0.heap.size w0 w) (hr : r.ok w B) (hn : ∀ k, r.D k → w0.heap.size ≤ k) (hp : PB w r.bb r.nm) (ha : r.is a) (hl : ab.length < 500) :
    Calls Tryz.prog 46 #[.pointer (some ⟨ib, 0, none⟩), r.v] w (InQ B ib C (a :: ab) mn mac ifs bol text (.tuple #[]) w) := by
  obtain ⟨S, rs, h0⟩ := h0
  have hold : ∀ q ∈ rs, ∀ k, q.D k → k < w0.heap.size := fun q hq k hk => (Rd.foot (h0.stk.rds q hq) k hk).2.lt
  have ho0 : Only (fun k => k = ib ∨ (∃ q ∈ rs, q.D k) ∨ (S 0).ownBlock = some k) w0 w := (Only.ofBelow hb).mono (fun k hk e => by omega)
  have h := (h0.move (h0.stk.below hb) h0.abs (fun r hr => pb_keep h0 ho0 hr) (fun _ _ => rfl) ho0).1
  have hlen := h.abs.len
  refine (stkPush h.stk hr (fun q hq k k1 k2 => by have := hold q hq k k2; have := hn k k1; omega) (by omega)).mono ?_
  rintro e w' ⟨rfl, S', hs, hS, ho⟩
  have ho' : Only (fun k => k = ib ∨ (∃ q ∈ rs, q.D k) ∨ (S 0).ownBlock = some k) w w' := ho.mono (fun k _ h => h.imp id .inr)
  obtain ⟨h1, h2⟩ := h.move hs (ab' := a :: ab) (.cons ha h.abs) (fun q hq => by
    rcases List.mem_cons.1 hq with rfl | hq
    · refine hp.only ho' (fun e => ?_)
      obtain ⟨S2, hb2, _⟩ := hp
      exact not_typed (stk_typed h.stk _ e).2 (mt_not (.inr (.inr (.inr (.inr rfl))))) (hb2.typed rfl)
    · exact pb_keep h ho' hq) hS ho'
  exact ⟨rfl, ⟨_, _, h1⟩, h2⟩

set_option maxRecDepth 100000 in
set_option maxHeartbeats 1000000 in
theorem inPush {w0 : World} {r : RS} {a : Ab} (h0 : Inp w0 B ib C ab mn mac ifs bol text) (hb : Below w0.heap.size w0 w) (hr : r.ok w B) (hn : ∀ k, r.D k → w0.heap.size ≤ k) (hp : PB w r.bb r.nm) (ha : r.is a) (hl : ab.length ≤ 100) :
    Calls Tryz.prog 31 #[.pointer (some ⟨ib, 0, none⟩), r.v] w (InQ B ib C (a :: ab) mn mac ifs bol text (.tuple #[]) w) := by
  have Hpush := Lib.hid (inPushS h0 hb hr hn hp ha (by omega))
  obtain ⟨S, rs, hi⟩ := h0.below hb
  have hlen := hi.abs.len
  obtain ⟨n, cap, ad, hS, hnl⟩ : ∃ n cap ad, S 0 = .slice ad n cap ∧ n ≤ 100 := by
    obtain ⟨_, ⟨e, e0⟩ | ⟨g, cap, cur, e, _⟩⟩ := hi.stk.row
    · exact ⟨0, 0, none, e, by omega⟩
    · exact ⟨rs.length, cap, _, e, by omega⟩
  have c0 := hi.stk.blk.cell_eq (i := 0) (by decide) hS
  have n1 : ¬ (100 : Int) < (n : Int) := by omega
  obtain ⟨T, A, hv⟩ : ∃ T A, r.v = .iface T (.pointer (some A)) := by
    rcases Rd.kinds hr with ⟨tz, e⟩ | ⟨tz, e⟩ <;> exact ⟨_, _, e⟩
  rw [hv] at Hpush ⊢
  clear hi hS hlen hl h0 hb hr hn hp ha hv
  go_enter Tryz.func31, Tryz.ntmps31
  go_wp2_with fail
  refine Hpush.out.mono ?_
  rintro e w1 hq
  have Hq := Lib.hid hq
  obtain ⟨rfl, _⟩ := hq
  go_wp2
  go_end0
  exact Hq.out

def InvQ (B ib : Nat) (C : Cfg) (ab : List Ab) (mn : Nat) (mac : Bs → Option Mc) (ifs : List Bool) (bol : Bool) (text : Bs) (w : World) (e : Ending) (w' : World) : Prop := InQ B ib C ab mn mac ifs bol text (.tuple #[]) w e w'

/-- A reader of tokens, told without memory. -/
def slAb (nm : ByteArray) (line : Nat) (ts : List (Int × Bs)) : Ab := ⟨false, nm, ⟨0, [], line, 0⟩, ts.map (sTok line)⟩

/-- A new list of tokens is pushed. -/
theorem inPush_sl {w0 : World} {sl bb line : Nat} {tv : Value} {nm : ByteArray} {ts : List (Int × Bs)} (h0 : Inp w0 B ib C ab mn mac ifs bol text) (hb : Below w0.heap.size w0 w) (hs : Sl w B sl tv (.pointer (some ⟨bb, 0, none⟩)) line ts 0) (hsl : w0.heap.size ≤ sl)
    (htl : ts.length < 1000000) (htk : ∀ t ∈ ts, t.1 ≠ -1) (hp : PB w0 bb nm) (hl : ab.length ≤ 100) :
    Calls Tryz.prog 31 #[.pointer (some ⟨ib, 0, none⟩), .iface 132 (.pointer (some ⟨sl, 0, none⟩))] w (InQ B ib C (slAb nm line ts :: ab) mn mac ifs bol text (.tuple #[]) w) :=
  inPush (r := ⟨.iface 132 (.pointer (some ⟨sl, 0, none⟩)), fun k => k = sl, bb, nm, ⟨0, [], line, 0⟩, ts.map (sTok line)⟩) h0 hb (by
    have := Rd.sl (bb := bb) (cur := ⟨0, [], line, 0⟩) hs (Nat.zero_le _) htl htk rfl (.inl rfl)
    exact this) (fun k hk => by cases hk; exact hsl) (by
      obtain ⟨S, hb2, hn⟩ := hp
      exact ⟨S, hb2.of_heap (hb.block _ hb2.lt), hn⟩) ⟨rfl, rfl, rfl, fun h => by cases h⟩ hl

set_option maxRecDepth 100000 in
set_option maxHeartbeats 2000000 in
theorem invoke_plain {rest : List Ab} {a : Ab} {b : Nat} {x : Bs} {m : Mc} (h : Inp w B ib C (a :: rest) mn mac ifs bol text) (hm : MacAt w C.lim b x m) (hargs : m.args = none) (hl : (a :: rest).length ≤ 100) (htl : m.toks.length < 1000000) (htk : ∀ t ∈ m.toks, t.1 ≠ -1) :
    Calls Tryz.prog 53 #[.pointer (some ⟨ib, 0, none⟩), .pointer (some ⟨b, 0, none⟩)] w (InvQ B ib C (slAb a.nm a.cur.line m.toks :: a :: rest) mn mac ifs bol text w) := by
  obtain ⟨S, hb, _, h0, ht, h1⟩ := hm
  rw [hargs] at h1
  have c1 := hb.cell_eq (i := 1) (by decide) h1
  obtain ⟨ta, tl, tc, hS2⟩ : ∃ ta tl tc, S 2 = .slice ta tl tc := by
    obtain ⟨_, ⟨e, e0⟩ | ⟨g, cap, cur, e, _⟩⟩ := ht
    · exact ⟨_, _, _, e⟩
    · exact ⟨_, _, _, e⟩
  rw [hS2] at ht
  have c2 := hb.cell_eq (i := 2) (by decide) hS2
  have H := Lib.hid h
  have Ht := Lib.hid ht
  have HB := Lib.hid hb
  have HS2 := Lib.hid hS2
  have hsn := Lib.run_eql_slice_nil (P := Tryz.prog)
  have hBw : B ≤ w.heap.size := Nat.le_trans h.low.1 (Nat.le_of_lt h.low.2)
  have hbw : b < w.heap.size := hb.lt
  clear hb h0 ht h1 hS2 h
  go_enter Tryz.func53, Tryz.ntmps53
  go_wp2_with fail
  go_region_held3 (fun w' => w'.cell? ⟨b, 2, none⟩ = some (.slice ta tl tc)) (first | exact c2 | assumption)
    (first
      | (go_at_call 55; refine (inBase (H.out.drewN 1) (by omega)).mono ?_; rintro e w1 ⟨bb, m1, rfl, hpb, rfl⟩; have HPB := Lib.hid hpb; clear hpb)
      | (go_at_call 37; refine (inLine (H.out.drewN _) (by omega)).mono ?_; rintro e w1 ⟨rfl, m2, rfl⟩)
      | (go_at_call 74; refine (newSlice_any (w := w.drewN _) (B := B) hBw (Ht.out.drewN _)).mono ?_; rintro e w1 ⟨sl, rfl, hsl, hle, hbel⟩; have hc2 : w1.cell? ⟨b, 2, none⟩ = some (.slice ta tl tc) := (hbel.cell (p := ⟨b, 2, none⟩) hbw).trans c2; have HW1 : Hid (Below w.heap.size w w1) := Lib.hid ⟨hbel.os, hbel.tape, hbel.output, hbel.size, hbel.block⟩; have HSL := Lib.hid hsl; have HBEL := Lib.hid hbel; have HLE := Lib.hid hle; clear hsl hbel hle)
      | (go_at_call 31; refine (inPush_sl (H.out.drewN _) HBEL.out HSL.out HLE.out htl htk HPB.out hl).mono ?_; rintro e w2 hq; have hc3 := ((hq.2.2.blk (HB.out.of_heap (HW1.out.block _ hbw)) (mt2_not (by decide))).cell_eq (i := 2) (by decide) HS2.out); have Hq : Hid (InvQ B ib C (slAb a.nm a.cur.line m.toks :: a :: rest) mn mac ifs bol text w e w2) := Lib.hid ⟨hq.1, hq.2.1, (Soft.ofBelow HW1.out).trans hq.2.2⟩; obtain ⟨rfl, _⟩ := hq))
  go_wp2
  go_end0
  exact Hq.out

/-- The stack's Col at the input: the top reader is a tokenizer that has something left. -/
theorem inCol {rest : List Ab} {a : Ab} (h : Inp w B ib C (a :: rest) mn mac ifs bol text) (htz : a.istz = true) (hk : a.cur.k ≠ 0) (hts : a.ts ≠ []) (hl : (a :: rest).length < 500) :
    Calls Tryz.prog 111 #[.pointer (some ⟨ib, 0, none⟩)] w (InQ B ib C (a :: rest) mn mac ifs bol text (.int .i64 a.cur.col) w) := by
  have h' := h
  obtain ⟨S, rs, h⟩ := h
  have hlen := h.abs.len
  have hab := h.abs
  cases hab with
  | @cons r _ ry _ a2 a3 =>
    obtain ⟨tz, hv⟩ := a2.2.2.2 htz
    refine (stkCol h.stk hv (by rw [a2.2.1]; exact hk) (by rw [a2.2.2.1]; exact hts) (by simp at hlen hl; omega)).mono ?_
    rintro e w' ⟨rfl, _, hb⟩
    exact ⟨by rw [a2.2.1], h'.below hb, Soft.ofBelow hb⟩

/-- What enabled says. -/
def onB (ifs : List Bool) : Bool := match ifs.getLast? with | none => true | some b => b

set_option maxRecDepth 100000 in
set_option maxHeartbeats 1000000 in
theorem inEnabled (h : Inp w B ib C ab mn mac ifs bol text) (hl : ifs.length < 1000) :
    Calls Tryz.prog 54 #[.pointer (some ⟨ib, 0, none⟩)] w (fun e w' => e = .returned (.bool (onB ifs)) ∧ ∃ m, w' = w.drewN m) := by
  obtain ⟨S, rs, h⟩ := h
  have hrow := h.env.ifr
  rcases List.eq_nil_or_concat ifs with rfl | ⟨l, b, rfl⟩
  · have hS : S 4 = .slice none 0 0 ∨ ∃ g c, S 4 = .slice (some ⟨g, 0, none⟩) 0 c := by
      obtain ⟨_, ⟨e, e0⟩ | ⟨g, cap, cur, e, _⟩⟩ := hrow
      · exact .inl e
      · exact .inr ⟨g, cap, e⟩
    obtain ⟨ad, c, hS⟩ : ∃ ad c, S 4 = .slice ad 0 c := by
      rcases hS with e | ⟨g, c, e⟩
      · exact ⟨_, _, e⟩
      · exact ⟨_, _, e⟩
    have c4 := h.stk.blk.cell_eq (i := 4) (by decide) hS
    clear h hrow hS
    go_enter Tryz.func54, Tryz.ntmps54
    go_wp2
    go_quiet (fail)
    go_wp2
    go_ret
    exact ⟨rfl, _, rfl⟩
  · obtain ⟨h1, ⟨_, h0⟩ | ⟨g, cap, cur, hv, ha, hb, hc, hd, he, hf⟩⟩ := h.env.ifr
    · simp at h0
    · rw [hv] at hrow
      have hcell := hrow.cells (g := g) rfl l.length (.bool b) (by simp)
      rw [Addr.add_lit, Nat.zero_add] at hcell
      have hlen : (l.concat b).length = l.length + 1 := by simp
      rw [hlen] at hv hc hl
      have c4 := h.stk.blk.cell_eq (i := 4) (by decide) hv
      have hon : onB (l.concat b) = b := by simp [onB]
      rw [hon]
      unfold maxLen at hd
      clear h hrow hv hlen hon h1 ha hb he hf
      obtain ⟨L, hL⟩ : ∃ L, L = l.length := ⟨_, rfl⟩
      rw [← hL] at hcell c4 hc hl
      clear hL
      have e1 : IntKind.i64.wrap (L : Int) = (L : Int) := IntWalk.i64_in _ (by omega)
      have e2 : (L : Int) < (L : Int) + 1 := by omega
      have e3 : (((L + 1 : Nat) : Int) == 0) = false := by simp; omega
      have e4 : ((L : Int) + 1 == 0) = false := by simp; omega
      go_enter Tryz.func54, Tryz.ntmps54
      go_wp2
      go_quiet (fail)
      go_wp2
      go_ret
      exact ⟨rfl, _, rfl⟩
end
section
variable {w w' : World} {B ib : Nat} {C : Cfg} {ab ab' : List Ab} {mn : Nat} {mac : Bs → Option Mc} {ifs : List Bool} {bol : Bool} {text : Bs} {S S' : Nat → Value} {rs rs' : List RS} {ev : Value}

def NameQ (B ib : Nat) (C : Cfg) (ab : List Ab) (mn : Nat) (mac : Bs → Option Mc) (ifs : List Bool) (bol : Bool) (text : Bs) (val : Value) (w : World) (e : Ending) (w' : World) : Prop := InQ B ib C ab mn mac ifs bol text val w e w'

theorem InQ.soft {w0 : World} {val : Value} {e : Ending} (h : InQ B ib C ab mn mac ifs bol text val w e w') (hs : Soft B C.bl w0 w) : InQ B ib C ab mn mac ifs bol text val w0 e w' := ⟨h.1, h.2.1, hs.trans h.2.2⟩

set_option maxRecDepth 100000 in
set_option maxHeartbeats 1000000 in
theorem inMacroName {dead rest : List Ab} {a : Ab} {t : Tok} {ts : List Tok} (h : Inp w B ib C (dead ++ a :: rest) mn mac ifs bol text) (hd : ∀ d ∈ dead, d.ts = []) (hts : a.ts = t :: ts) (hk : t.k = -2) (hg : Glob w ev) (hB : 21 ≤ B) (hl : (dead ++ a :: rest).length < 500) :
    Calls Tryz.prog 88 #[.pointer (some ⟨ib, 0, none⟩)] w (InQ B ib C ({ a with cur := t, ts := ts } :: rest) mn mac ifs bol text (.string (mkS t.x)) w) := by
  have Hn := Lib.hid (inNext h hd hts hg hB hl)
  have hl2 : ({ a with cur := t, ts := ts } :: rest : List Ab).length < 500 := by simp at hl ⊢; omega
  rw [hk] at Hn
  clear h hd hts hg hl
  go_enter Tryz.func88, Tryz.ntmps88
  go_wp2_with fail
  refine Hn.out.mono ?_
  rintro e w1 ⟨rfl, h1, s1⟩
  have Ht := Lib.hid (inText h1 (by show t.k ≠ 0; rw [hk]; decide) hl2)
  have S1 := Lib.hid s1
  clear h1 s1 Hn
  go_wp2_with fail
  refine Ht.out.mono ?_
  rintro e w2 hq
  have Hq := Lib.hid (hq.soft S1.out)
  obtain ⟨rfl, _⟩ := hq
  go_wp2
  go_ret
  exact Hq.out

theorem MacAt.mono {L L' b : Nat} {x : Bs} {m : Mc} (h : MacAt w L b x m) (hL : L ≤ L') : MacAt w L' b x m := by
  obtain ⟨S, hb, ⟨l1, l2, l3⟩, h⟩ := h
  exact ⟨S, hb, ⟨by omega, fun k hk => by have := l2 k hk; omega, fun k hk => by have := l3 k hk; omega⟩, h⟩
/-- The bound is raised. -/
theorem In.mono {L : Nat} (h : In w B ib C ab mn mac ifs bol text S rs) (hL : C.lim ≤ L) : In w B ib { C with lim := L } ab mn mac ifs bol text S rs := by
  obtain ⟨f, m1, m2, m3⟩ := h.env.mcs
  have hen : Env w B S { C with lim := L } mn mac ifs := ⟨h.env.ifr, h.env.mcv, ⟨f, m1, m2, fun x m hx => by obtain ⟨b, hb, hm⟩ := m3 x m hx; exact ⟨b, hb, hm.mono hL⟩⟩, h.env.mlow, h.env.fiv, h.env.fis, h.env.ne, h.env.inv, fun k hk => Nat.lt_of_lt_of_le (h.env.inl k hk) hL⟩
  exact ⟨h.stk, h.abs, h.nms, hen, h.s3, h.s6, h.s7, h.s8, h.s9⟩
theorem Inp.mono {L : Nat} (h : Inp w B ib C ab mn mac ifs bol text) (hL : C.lim ≤ L) : Inp w B ib { C with lim := L } ab mn mac ifs bol text := by
  obtain ⟨S, rs, h⟩ := h
  exact ⟨S, rs, h.mono hL⟩

/-- A reader of a text asks nothing of lists of tokens. -/
theorem Rd.only_tz {E : Nat → Prop} {v : Value} {D : Nat → Prop} {bb : Nat} {cur : Tok} {ts : List Tok} (h : Rd w B v D bb cur ts) (hv : isTz v) (ho : Only E w w') (hd : ∀ k, D k → ¬ E k) : Rd w' B v D bb cur ts := by
  obtain ⟨tz, rfl⟩ := hv
  generalize hq : Value.iface 61 (.pointer (some ⟨tz, 0, none⟩)) = q at h
  cases h with
  | tz h1 h2 h3 h4 => exact .tz (h1.only ho hd) h2 h3 h4
  | sl => injection hq with e; exact absurd e (by decide)

theorem All2.mem : ∀ {rs : List RS} {ab : List Ab}, All2 rs ab → ∀ r ∈ rs, ∃ a ∈ ab, r.is a
  | _, _, .nil, _, h => by cases h
  | _, _, .cons h1 h2, r, h => by
    rcases List.mem_cons.1 h with rfl | h
    · exact ⟨_, by simp, h1⟩
    · obtain ⟨a, ha, hr⟩ := h2.mem r h
      exact ⟨a, by simp [ha], hr⟩

/-- A list that is being made is written: of tokens, of strings. -/
theorem Inp.rowed {E : Nat → Prop} (h : Inp w B ib C ab mn mac ifs bol text) (htz : ∀ a ∈ ab, a.istz = true) (ho : Only E w w') (hE : ∀ k, E k → k < w.heap.size → C.lim ≤ k ∧ (Typed w k (· = 116) ∨ Typed w k (· = 9))) : Inp w' B ib C ab mn mac ifs bol text := by
  obtain ⟨S, rs, h⟩ := h
  have hty : ∀ {k : Nat} {P : TypeId → Prop}, Typed w k P → (¬ P 116) → (¬ P 9) → ¬ E k := fun {k P} ht h1 h2 e => by
    rcases (hE k e ht.lt).2 with h | h
    · exact typed_ne ht h (fun T a b => h1 (b ▸ a)) rfl
    · exact typed_ne ht h (fun T a b => h2 (b ▸ a)) rfl
  have hlim : ∀ k, k < C.lim → k < w.heap.size → ¬ E k := fun k h1 h2 e => by have := (hE k e h2).1; omega
  have hb0 : Blk w' ib 73 10 S := h.stk.blk.only ho (hty (h.stk.blk.typed (P := (· = 73)) rfl) (by decide) (by decide))
  have rowk : ∀ {e : TypeId} {size : Nat} {v : Value} {n : Nat} {xs : List Value} {b : Nat}, w.ownsRow b e size v n xs → (∀ k, v.ownBlock = some k → k < w.heap.size → ¬ E k) → w'.ownsRow b e size v n xs := fun hr hk => ownsRow_only hr (fun k e => by
    have ht := (ownBlock_row hr k e).2
    exact ho.block k ht.lt (hk k e ht.lt))
  have rowt : ∀ {e : TypeId} {size : Nat} {v : Value} {n : Nat} {xs : List Value} {b : Nat}, w.ownsRow b e size v n xs → e ≠ 116 → e ≠ 9 → w'.ownsRow b e size v n xs := fun hr h1 h2 => rowk hr (fun k hk _ => hty (ownBlock_row hr k hk).2 (fun e => h1 e.symm) (fun e => h2 e.symm))
  have hr0 : ∀ r ∈ rs, r.ok w' B := fun r hr => by
    obtain ⟨a, ha, hra⟩ := h.abs.mem r hr
    exact Rd.only_tz (h.stk.rds r hr) (hra.2.2.2 (htz a ha)) ho (fun k hk => hty (Rd.foot (h.stk.rds r hr) k hk).2 (by unfold RT; decide) (by unfold RT; decide))
  have hs : Stk w' B ib S rs := ⟨hb0, h.stk.low, rowt h.stk.row (by decide) (by decide), hr0, h.stk.apart⟩
  obtain ⟨f, m1, m2, m3⟩ := h.env.mcs
  have hmap : ∀ {b n : Nat} {f : Bs → Option Value}, SMap w b n f → SMap w' b n f := fun hm => hm.of_heap (ho.block _ hm.lt (fun e => by
    rcases (hE _ e hm.lt).2 with h | h
    · exact hm.not_typed h
    · exact hm.not_typed h))
  obtain ⟨nf, hf⟩ := h.env.fis
  have hen : Env w' B S C mn mac ifs := ⟨rowt h.env.ifr (by decide) (by decide), h.env.mcv, ⟨f, hmap m1, m2, fun x m hx => by
      obtain ⟨b, hb, S2, hb2, ⟨l1, l2, l3⟩, h0, h2, h1⟩ := m3 x m hx
      refine ⟨b, hb, S2, hb2.only ho (hlim b l1 hb2.lt), ⟨l1, l2, l3⟩, h0, rowk h2 (fun k hk hlt => hlim k (l3 k hk) hlt), ?_⟩
      cases hma : m.args with
      | none => rw [hma] at h1; exact h1
      | some l => rw [hma] at h1; exact ⟨h1.1, rowk h1.2 (fun k hk hlt => hlim k (l2 k hk) hlt)⟩⟩, h.env.mlow, h.env.fiv, ⟨nf, hmap hf⟩, h.env.ne, rowk h.env.inv (fun k hk hlt => hlim k (h.env.inl k hk) hlt), h.env.inl⟩
  refine ⟨S, rs, ⟨hs, h.abs, fun r hr => ?_, hen, h.s3, h.s6, h.s7, h.s8, h.s9⟩⟩
  obtain ⟨S2, hb, hn⟩ := h.nms r hr
  exact ⟨S2, hb.only ho (hty (hb.typed (P := (· = 129)) rfl) (by decide) (by decide)), hn⟩

/-- The map of macros is written. -/
theorem In.mapd {mn' : Nat} {mac' : Bs → Option Mc} (h : In w B ib C ab mn mac ifs bol text S rs) (ho : Only (fun k => k = C.mb) w w') (hm : Macs w' C.lim C.mb mn' mac') : In w' B ib C ab mn' mac' ifs bol text S rs ∧ Soft B C.bl w w' := by
  obtain ⟨f, m1, m2, m3⟩ := h.env.mcs
  have hnt : ∀ {k : Nat} {P : TypeId → Prop}, Typed w k P → k ≠ C.mb := fun ht e => m1.not_typed (e ▸ ht)
  obtain ⟨nf, hf⟩ := h.env.fis
  have hb0 : Blk w' ib 73 10 S := h.stk.blk.only ho (hnt (h.stk.blk.typed (P := fun _ => True) trivial))
  have hr0 : ∀ r ∈ rs, r.ok w' B := fun r hr => Rd.only (h.stk.rds r hr) ho (fun k hk => hnt (Rd.foot (h.stk.rds r hr) k hk).2) (fun k e _ ht => hnt ht e)
  have hs : Stk w' B ib S rs := ⟨hb0, h.stk.low, row_only h.stk.row ho (fun k e _ ht => hnt ht e), hr0, h.stk.apart⟩
  have hen : Env w' B S C mn' mac' ifs := ⟨row_only h.env.ifr ho (fun k e _ ht => hnt ht e), h.env.mcv, hm, h.env.mlow, h.env.fiv, ⟨nf, hf.of_heap (ho.block _ hf.lt (fun e => h.env.ne e.symm))⟩, h.env.ne, row_only h.env.inv ho (fun k e _ ht => hnt ht e), h.env.inl⟩
  refine ⟨⟨hs, h.abs, fun r hr => ?_, hen, h.s3, h.s6, h.s7, h.s8, h.s9⟩, ?_⟩
  · have hp := h.nms r hr
    obtain ⟨S2, hb, hn⟩ := hp
    exact ⟨S2, hb.only ho (hnt (hb.typed (P := fun _ => True) trivial)), hn⟩
  · refine Soft.of ho (fun k e _ => ?_)
    subst e
    obtain ⟨D, ⟨es, clock, hb, _⟩, _⟩ := m1
    exact ⟨h.env.mlow, .inr ⟨es, clock, hb⟩⟩

/-- The macro's arguments as a value. -/
def ArgsV (w : World) (v : Value) (args : Option (List Bs)) : Prop := match args with | none => v = .slice none 0 0 | some l => (∃ a n c, v = .slice (some a) n c) ∧ Strs w v (l.map mkS)

def DefQ (B ib : Nat) (C : Cfg) (ab : List Ab) (mn : Nat) (mac : Bs → Option Mc) (ifs : List Bool) (bol : Bool) (text : Bs) (x : Bs) (m : Mc) (w : World) (e : Ending) (w' : World) : Prop := ∃ L, InQ B ib { C with lim := L } ab (mn + 1) (fun y => if y = x then some m else mac y) ifs bol text (.tuple #[]) w e w' ∧ L = w'.heap.size

theorem zero_ptr_macro : ∀ w : World, (zeroValue 106).run Tryz.prog w = .ok (.pointer none) w := fun w => by kernel_rfl

theorem ArgsV.alloc {v : Value} {args : Option (List Bs)} (h : ArgsV w v args) (o : Obj) : ArgsV (w.alloc o) v args := by
  cases args with
  | none => exact h
  | some l => exact ⟨h.1, ownsRow_only h.2 (fun k hk => Below.heap_alloc w o k (ownBlock_row h.2 k hk).2.lt)⟩

theorem ArgsV.lt {v : Value} {args : Option (List Bs)} (h : ArgsV w v args) : ∀ k, v.ownBlock = some k → k < w.heap.size := by
  intro k hk
  cases args with
  | none => have h' : v = .slice none 0 0 := h; rw [h'] at hk; cases hk
  | some l => exact (ownBlock_row h.2 k hk).2.lt

set_option maxRecDepth 100000 in
set_option maxHeartbeats 1000000 in
theorem defineMacro_new {x : Bs} {m : Mc} {aa ta : Option Addr} {al ac tl tc : Nat} (h : Inp w B ib C ab mn mac ifs bol text) (hx : mac x = none) (hxl : x.length ≤ 1000000) (hmn : mn < 1000000) (hCl : C.lim ≤ w.heap.size) (ha : ArgsV w (.slice aa al ac) m.args) (ht : Toki w (.slice ta tl tc) m.toks) :
    Calls Tryz.prog 90 #[.pointer (some ⟨ib, 0, none⟩), .string (mkS x), .slice aa al ac, .slice ta tl tc] w (DefQ B ib C ab mn mac ifs bol text x m w) := by
  have h' := h
  obtain ⟨S, rs, h⟩ := h
  obtain ⟨f, m1, m2, m3⟩ := h.env.mcs
  have c5 := h.stk.blk.cell_eq (i := 5) (by decide) h.env.mcv
  have hlook := m1.look Tryz.underlying71 zero_ptr_macro x hxl
  rw [m2 x hx] at hlook
  simp only [Option.map_none, Option.getD_none] at hlook
  obtain ⟨w2, hup, m1', ho2⟩ := (m1.of_heap (w' := w.alloc (.cells #[.string (mkS x), .slice aa al ac, .slice ta tl tc] 120)) (Below.heap_alloc w _ _ m1.lt)).update Tryz.underlying71 hmn x hxl (.pointer (some ⟨w.heap.size, 0, none⟩))
  have hfin : DefQ B ib C ab mn mac ifs bol text x m w (.returned (.tuple #[])) w2 := by
    have hb1 : Below w.heap.size w (w.alloc (.cells #[.string (mkS x), .slice aa al ac, .slice ta tl tc] 120)) := (Below.refl _ _).alloc (Nat.le_refl _) _
    have ho : Only (fun k => k = ib ∨ (∃ q ∈ rs, q.D k) ∨ (S 0).ownBlock = some k) w (w.alloc (.cells #[.string (mkS x), .slice aa al ac, .slice ta tl tc] 120)) := (Only.ofBelow hb1).mono (fun k hk e => by omega)
    have h1 := (h.move (h.stk.below hb1) h.abs (fun r hr => pb_keep h ho hr) (fun _ _ => rfl) ho).1
    have hmlt := m1.lt
    have hne : w.heap.size ≠ C.mb := by omega
    have hE : ∀ k, k = C.mb → k < (w.alloc (.cells #[.string (mkS x), .slice aa al ac, .slice ta tl tc] 120)).heap.size → ∀ T : TypeId, ¬ Typed (w.alloc (.cells #[.string (mkS x), .slice aa al ac, .slice ta tl tc] 120)) k (· = T) := fun k e _ T ht =>
      (m1.of_heap (Below.heap_alloc w _ _ m1.lt)).not_typed (e ▸ ht)
    have hB1 := Blk.lit w #[.string (mkS x), .slice aa al ac, .slice ta tl tc] 120
    have hlim : C.lim ≤ w2.heap.size := Nat.le_trans hCl (Nat.le_trans (by simp) ho2.size)
    have h1 := h1.mono hlim
    have hlt2 : w.heap.size < w2.heap.size := by have := ho2.size; simp at this; omega
    have hmacs : Macs w2 w2.heap.size C.mb (mn + 1) (fun y => if y = x then some m else mac y) := by
      refine ⟨fun y => if y = x then some w.heap.size else f y, ?_, fun y hy => ?_, fun y m' hy => ?_⟩
      · have e1 : (fun y => if y = x then some (Value.pointer (some ⟨w.heap.size, 0, none⟩)) else (f y).map fun b => Value.pointer (some ⟨b, 0, none⟩)) = fun y => ((if y = x then some w.heap.size else f y).map fun b => Value.pointer (some ⟨b, 0, none⟩)) := by
          funext y; split <;> rfl
        rw [← e1]; exact m1'
      · by_cases e : y = x
        · simp [e] at hy
        · simp only [e, if_false] at hy ⊢; exact m2 y hy
      · by_cases e : y = x
        · simp only [e, if_true, Option.some.injEq] at hy
          subst hy
          refine ⟨w.heap.size, by simp [e], ⟨_, hB1.only ho2 hne, ⟨hlt2, fun k hk => ?_, fun k hk => ?_⟩, by rw [e]; rfl, ?_, ?_⟩⟩
          · exact Nat.lt_trans (ArgsV.lt ha k hk) hlt2
          · exact Nat.lt_trans (ownBlock_row ht k hk).2.lt hlt2
          · exact row_only (ownsRow_only ht (fun k hk => Below.heap_alloc w _ k (ownBlock_row ht k hk).2.lt)) ho2 (fun k e hk => hE k e hk _)
          · have ha1 := ha.alloc (.cells #[.string (mkS x), .slice aa al ac, .slice ta tl tc] 120)
            cases hm : m.args with
            | none => rw [hm] at ha1; exact ha1
            | some l => rw [hm] at ha1; exact ⟨ha1.1, row_only ha1.2 ho2 (fun k e hk => hE k e hk _)⟩
        · simp only [e, if_false] at hy
          obtain ⟨b, hb, hma⟩ := m3 y m' hy
          refine ⟨b, by simp [e, hb], ?_⟩
          have hma1 : MacAt (w.alloc (.cells #[.string (mkS x), .slice aa al ac, .slice ta tl tc] 120)) w2.heap.size b y m' := (hma.mono hlim).only (Only.ofBelow hb1) (fun k e hk => by omega)
          exact hma1.only ho2 (fun k e hk => ⟨hE k e hk _, hE k e hk _, hE k e hk _⟩)
    obtain ⟨h2, s2⟩ := h1.mapd ho2 hmacs
    exact ⟨_, ⟨rfl, ⟨_, _, h2⟩, (Soft.ofBelow hb1).trans s2⟩, rfl⟩
  have Hfin := Lib.hid hfin
  have Hup := Lib.hid hup
  clear h' h m1 m2 m3 m1' ho2 hfin ha ht hup
  go_enter Tryz.func90, Tryz.ntmps90
  go_wp2
  rw [Hup.out]
  go_wp2
  go_end0
  exact Hfin.out
end
theorem infoTok : (Tryz.prog.info? 116).map (fun i => (i.zero, i.size, i.bytes)) = some (some (.agg #[.int .i32 0, .string ⟨#[]⟩]), 2, 24) := by kernel_rfl

def Tok.kx (t : Tok) : Int × Bs := (t.k, t.x)

/-- A token whose text Make leaves as it is. -/
def okTok (t : Tok) : Prop := ascii t.x ∧ t.x ≠ [] ∧ t.x.length ≤ 1000

theorem Soft.new {B : Nat} {bl : Bool} {w w1 w2 : World} {E : Nat → Prop} (h : Soft B bl w w1) (k : Only E w1 w2) (hE : ∀ k, E k → w.heap.size ≤ k) : Soft B bl w w2 :=
  Only.trans h k (fun i hi e => absurd (hE i e) (by omega))

section
variable {w w' : World} {B ib : Nat} {C : Cfg} {ab ab' : List Ab} {mn : Nat} {mac : Bs → Option Mc} {ifs : List Bool} {bol : Bool} {text : Bs} {S S' : Nat → Value} {rs rs' : List RS} {ev : Value}

/-- In the loop: 'done' has been taken; t is the token at hand. -/
def MDLoop (B ib : Nat) (C : Cfg) (a : Ab) (rest : List Ab) (mn : Nat) (mac : Bs → Option Mc) (ifs : List Bool) (bol : Bool) (text : Bs) (L : List Tok) (ts : List Tok) (w : World) (n : Nat) (v7 v11 : Value) (wr : World) : Prop :=
  ∃ done t todo, L = done ++ t :: todo ∧ n = todo.length ∧ v7 = .int .i32 t.k ∧ wr.ownsRow w.heap.size 116 2 v11 done.length (cellsT (done.map Tok.kx)) ∧
    Inp wr B ib C ({ a with cur := t, ts := todo ++ ts } :: rest) mn mac ifs bol text ∧ Soft B C.bl w wr

def MDQ (B ib : Nat) (C : Cfg) (ab : List Ab) (mn : Nat) (mac : Bs → Option Mc) (ifs : List Bool) (bol : Bool) (text : Bs) (args : Option (List Bs)) (body : List (Int × Bs)) (w : World) (e : Ending) (w' : World) : Prop :=
  ∃ aa al ac ta tl tc, e = .returned (.tuple #[.slice aa al ac, .slice ta tl tc]) ∧ ArgsV w' (.slice aa al ac) args ∧ Toki w' (.slice ta tl tc) body ∧ Inp w' B ib C ab mn mac ifs bol text ∧ Soft B C.bl w w'

theorem cellsT_snoc (l : List (Int × Bs)) (t : Int × Bs) : cellsT (l ++ [t]) = cellsT l ++ [.int .i32 t.1, .string (mkS t.2)] := by
  simp [cellsT, List.flatMap_append]

theorem ownsRow_low {b b' : Nat} {e : TypeId} {size : Nat} {v : Value} {n : Nat} {xs : List Value} (h : w.ownsRow b e size v n xs) (hb : b' ≤ b) : w.ownsRow b' e size v n xs := by
  obtain ⟨h1, h2⟩ := h
  refine ⟨h1, h2.imp id ?_⟩
  rintro ⟨g, cap, cur, rfl, a, r⟩
  exact ⟨g, cap, cur, rfl, by omega, r⟩

theorem tz_mem {a : Ab} {rest : List Ab} {c : Tok} {l : List Tok} (h : ∀ q ∈ a :: rest, q.istz = true) : ∀ q ∈ ({ a with cur := c, ts := l } :: rest : List Ab), q.istz = true := fun q hq => by
  rcases List.mem_cons.1 hq with rfl | hq
  · exact h a (by simp)
  · exact h q (by simp [hq])

theorem cellTwo (w : World) (x y : Value) (T : TypeId) : ∀ j u, [x, y][j]? = some u → (w.alloc (.cells #[x, y] T)).cell? ((⟨w.heap.size, 0, none⟩ : Addr).add j) = some u := by
  intro j u h
  have hB := Blk.lit w #[x, y] T
  rw [Addr.add_lit, Nat.zero_add]
  have hj := (List.getElem?_eq_some_iff.1 h).1
  have hj2 : j < 2 := hj
  obtain rfl | rfl : j = 0 ∨ j = 1 := by omega
  · exact hB.cell_eq (i := 0) (by simp) (by simpa using h)
  · exact hB.cell_eq (i := 1) (by simp) (by simpa using h)

set_option maxRecDepth 100000 in
set_option maxHeartbeats 4000000 in
theorem macroDef_plain {a : Ab} {rest : List Ab} {t0 : Tok} {body : List Tok} {nl : Tok} {ts : List Tok} {nm : ByteArray} (h : Inp w B ib C (a :: rest) mn mac ifs bol text) (htz : ∀ q ∈ a :: rest, q.istz = true) (hak : a.cur.k ≠ 0) (hats : a.ts = t0 :: body ++ nl :: ts)
    (h0 : t0.k ≠ 40) (hb : ∀ t ∈ t0 :: body, okTok t ∧ t.k ≠ 10 ∧ t.k ≠ 92 ∧ t.k ≠ -1 ∧ t.k ≠ 0) (hnl : nl.k = 10) (hbl : body.length ≤ 1000) (hC : C.lim ≤ w.heap.size) (hg : Glob w ev) (hB : 21 ≤ B) (hl : (a :: rest).length < 500) :
    Calls Tryz.prog 89 #[.pointer (some ⟨ib, 0, none⟩), .string nm] w (MDQ B ib C ({ a with cur := nl, ts := ts } :: rest) mn mac ifs bol text none ((t0 :: body).map Tok.kx) w) := by
  obtain ⟨i0, hi, hz0, hz1, hz2⟩ := info_parts infoTok
  have Hcol := Lib.hid (inCol h (htz a (by simp)) hak (by rw [hats]; simp) hl)
  have Htz := Lib.hid htz
  have Hats := Lib.hid hats
  have Hb := Lib.hid hb
  have Hnl := Lib.hid hnl
  have Hg := Lib.hid hg
  have Hlow := Lib.hid h.low
  have hl2 : ∀ q : Ab, (q :: rest).length < 500 := fun q => by simpa using hl
  have Hl2 := Lib.hid hl2
  have Hl := Lib.hid hl
  have hne := hb t0 (by simp)
  obtain ⟨_, g1, g2, g3, g4⟩ := hne
  have b1 : (t0.k == 10) = false := by simp [g1]
  have b2 : (t0.k == -1) = false := by simp [g3]
  have b3 : (t0.k == 40) = false := by simp [h0]
  clear h htz hats hb hnl hg hl hl2 g1 g2 g3 g4
  go_enter Tryz.func89, Tryz.ntmps89
  go_wp2_with fail
  refine Hcol.out.mono ?_
  rintro e w1 ⟨rfl, h1, s1⟩
  have Hn := Lib.hid (inNext (dead := []) (t := t0) (ts := body ++ nl :: ts) h1 (fun _ h => by cases h) (by rw [Hats.out]; rfl) (s1.glob Hg.out hB) hB Hl.out)
  have S1 := Lib.hid s1
  clear h1 s1
  go_wp2_with fail
  refine Hn.out.mono ?_
  rintro e w2 ⟨rfl, h2, s2⟩
  have H2 := Lib.hid h2
  have S2 := Lib.hid (S1.out.trans s2)
  clear h2 s2
  go_wp2
  go_loopg [7, 11] (body.length + 1) (fun n v7 v11 wr => MDLoop B ib C a rest mn mac ifs bol text (t0 :: body ++ [nl]) ts w n v7 v11 wr)
  case atStart => exact ⟨[], t0, body ++ [nl], rfl, by simp, rfl, World.ownsRow_nil _ _ _ _, by have := H2.out; simpa using this, S2.out⟩
  case round =>
    obtain ⟨done, t, todo, hL, rfl, rfl, hown, hI, hS⟩ := hrel
    cases todo with
    | nil =>
      obtain ⟨hd, ht⟩ := List.append_inj' hL rfl
      obtain rfl : nl = t := by simpa using ht
      have hown' := ownsRow_low hown (Nat.zero_le _)
      rw [← hd] at hown'
      obtain ⟨ta, tl, tc, rfl⟩ : ∃ ta tl tc, u11 = .slice ta tl tc := by
        obtain ⟨_, ⟨e, e0⟩ | ⟨g, cap, cur, e, _⟩⟩ := hown
        · exact ⟨_, _, _, e⟩
        · exact ⟨_, _, _, e⟩
      have Hfin : Hid (MDQ B ib C ({ a with cur := nl, ts := ts } :: rest) mn mac ifs bol text none ((t0 :: body).map Tok.kx) w (.returned (.tuple #[.slice none 0 0, .slice ta tl tc])) wr) :=
        Lib.hid ⟨_, _, _, _, _, _, rfl, rfl, by unfold Toki; rw [List.length_map]; exact hown', hI, hS⟩
      have hk10 := Hnl.out
      clear hL hd ht hown hown' hI hS
      rw [hk10]
      go_wp2
      go_ret2
      exact Hfin.out
    | cons t1 todo =>
      have hmem : t ∈ t0 :: body := by
        have h1 := congrArg List.dropLast hL
        rw [List.dropLast_concat] at h1
        rw [h1, List.dropLast_append_of_ne_nil (by simp)]
        simp
      obtain ⟨hok, g1, g2, g3, g4⟩ := Hb.out t hmem
      have b1 : (t.k == 10) = false := by simp [g1]
      have b1' : (t.k != 10) = true := by simp [g1]
      have b2 : (t.k == -1) = false := by simp [g3]
      have b3 : (t.k == 92) = false := by simp [g2]
      have hlen : done.length + (t1 :: todo).length = (t0 :: body).length := by
        have := congrArg List.length hL
        simp at this ⊢; omega
      have hdl : done.length ≤ 1001 := by simp at hlen; omega
      have htx := inText hI (by exact g4) (Hl2.out _)
      have Htx := Lib.hid htx
      have Hown := Lib.hid hown
      have HL := Lib.hid hL
      have HS := Lib.hid hS
      have Hok := Lib.hid hok
      have hwr : w.heap.size ≤ wr.heap.size := hS.size
      have Hwr := Lib.hid hwr
      obtain ⟨tk, htk⟩ : ∃ tk, tk = t.k := ⟨_, rfl⟩
      rw [← htk] at b1 b1' b2 b3 ⊢
      have Htk := Lib.hid htk
      clear hmem g1 g2 g3 g4 hlen htx hown hL hI hS hok hwr htk
      go_wp2_with fail
      refine Htx.out.mono ?_
      rintro e w3 ⟨rfl, hI3, hS3⟩
      have HI3 := Lib.hid hI3
      have Hown3 := Lib.hid (hS3.row Hown.out (mt2_not (by decide)))
      have HS3 := Lib.hid (HS.out.trans hS3)
      have Hsz3 := Lib.hid (Nat.le_trans Hwr.out hS3.size)
      have Hmk := Lib.hid (make_any tk t.x w3 Hok.out.1 Hok.out.2.1 Hok.out.2.2)
      clear hI3 hS3
      go_wp2_with fail
      refine Hmk.out.mono ?_
      rintro e w4 ⟨rfl, hb4⟩
      have HI4 := Lib.hid (HI3.out.below hb4)
      have Hown4 := Lib.hid (ownsRow_only Hown3.out (fun k hk => hb4.block k (Hown3.out.lt k hk).2))
      have HS4 := Lib.hid (HS3.out.trans (Soft.ofBelow hb4))
      have Hsz4 := Lib.hid (Nat.le_trans Hsz3.out hb4.size)
      clear hb4
      go_wp2_with (at_builtin; refine wpList_append_own _ rfl _ _ 113 rfl w.heap.size 116 i0 (.agg #[.int .i32 0, .string ⟨#[]⟩]) 2 24 Tryz.underlying113 hi hz0 hz1 hz2 rfl (by decide) _ _ _ rfl (Hown4.out.alloc _) ⟨w4.heap.size, 0, none⟩ 1 1 [.int .i32 tk, .string (mkS t.x)] rfl rfl ?c1 ?c2 ?c3 ?c4 ?c5 ?_)
      case c1 => exact cellTwo _ _ _ _
      case c2 => intro u hu; simp at hu; rcases hu with rfl | rfl <;> rfl
      case c3 => unfold maxLen; omega
      case c4 => omega
      case c5 => have := Hsz4.out; simp; omega
      intro v' w5 hown5 hgrow _
      have HI5 : Hid (Inp w5 B ib C ({ a with cur := t, ts := (t1 :: todo) ++ ts } :: rest) mn mac ifs bol text) := Lib.hid (by
        have h1 := HI4.out.below ((Below.refl w4.heap.size w4).alloc (Nat.le_refl _) (.cells #[.int .i32 tk, .string (mkS t.x)] 116))
        refine h1.rowed (fun q hq => tz_mem Htz.out q hq) ((Only.refl (fun k => u11.ownBlock = some k) _).grown hgrow (fun k hk _ => hk)) (fun k hk _ => ?_)
        have hr := ownBlock_row (Hown4.out.alloc (.cells #[.int .i32 tk, .string (mkS t.x)] 116)) k hk
        exact ⟨by have := hr.1; omega, .inl hr.2⟩)
      have HS5 : Hid (Soft B C.bl w w5) := Lib.hid ((HS4.out.trans (Soft.ofBelow ((Below.refl w4.heap.size w4).alloc (Nat.le_refl _) (.cells #[.int .i32 tk, .string (mkS t.x)] 116)))).new ((Only.refl (fun k => u11.ownBlock = some k) _).grown hgrow (fun k hk _ => hk)) (fun k hk => (Hown4.out.lt k hk).1))
      have hown5' : w5.ownsRow w.heap.size 116 2 v' (done ++ [t]).length (cellsT ((done ++ [t]).map Tok.kx)) := by
        rw [List.length_append, List.map_append, List.map_cons, List.map_nil, cellsT_snoc]
        show w5.ownsRow w.heap.size 116 2 v' (done.length + 1) (cellsT (done.map Tok.kx) ++ [.int .i32 t.k, .string (mkS t.x)])
        rw [← Htk.out]
        exact hown5
      have Hown5 := Lib.hid hown5'
      have Hn := Lib.hid (inNext (dead := []) (t := t1) (ts := todo ++ ts) HI5.out (fun _ h => by cases h) rfl (HS5.out.glob Hg.out hB) hB (Hl2.out _))
      clear hown5 hgrow hown5'
      go_wp2_with fail
      refine Hn.out.mono ?_
      rintro e w6 ⟨rfl, h6, s6⟩
      have H6 := Lib.hid h6
      have HS6 := Lib.hid (HS5.out.trans s6)
      have Hown6 := Lib.hid (s6.row Hown5.out (mt2_not (by decide)))
      clear h6 s6
      go_wp2
      go_roundg todo.length
      case measure => simp
      case rel => exact ⟨done ++ [t], t1, todo, by rw [HL.out]; simp, rfl, rfl, Hown6.out, H6.out, HS6.out⟩
end
section
variable {w w' : World} {B ib : Nat} {C : Cfg} {ab ab' : List Ab} {mn : Nat} {mac : Bs → Option Mc} {ifs : List Bool} {bol : Bool} {text : Bs} {S S' : Nat → Value} {rs rs' : List RS} {ev : Value}

/-- A macro has been made. -/
def MadeQ (B ib : Nat) (C : Cfg) (ab : List Ab) (mn : Nat) (mac : Bs → Option Mc) (ifs : List Bool) (bol : Bool) (text : Bs) (x : Bs) (m : Mc) (val : Value) (w : World) (e : Ending) (w' : World) : Prop :=
  e = .returned val ∧ (∃ L, L ≤ w'.heap.size ∧ Inp w' B ib { C with lim := L } ab (mn + 1) (fun y => if y = x then some m else mac y) ifs bol text) ∧ Soft B C.bl w w'

set_option maxRecDepth 100000 in
set_option maxHeartbeats 1000000 in
theorem define_plain {dead rest : List Ab} {a : Ab} {nt t0 : Tok} {body : List Tok} {nl : Tok} {ts : List Tok} (h : Inp w B ib C (dead ++ a :: rest) mn mac ifs bol text) (hd : ∀ d ∈ dead, d.ts = []) (htz : ∀ q ∈ a :: rest, q.istz = true) (hats : a.ts = nt :: t0 :: body ++ nl :: ts)
    (hnk : nt.k = -2) (hnx : nt.x.length ≤ 1000) (hmac : mac nt.x = none) (hmn : mn < 1000000)
    (h0 : t0.k ≠ 40) (hb : ∀ t ∈ t0 :: body, okTok t ∧ t.k ≠ 10 ∧ t.k ≠ 92 ∧ t.k ≠ -1 ∧ t.k ≠ 0) (hnl : nl.k = 10) (hbl : body.length ≤ 1000) (hC : C.lim ≤ w.heap.size) (hg : Glob w ev) (hB : 21 ≤ B) (hl : (dead ++ a :: rest).length < 500) :
    Calls Tryz.prog 67 #[.pointer (some ⟨ib, 0, none⟩)] w (MadeQ B ib C ({ a with cur := nl, ts := ts } :: rest) mn mac ifs bol text nt.x ⟨none, (t0 :: body).map Tok.kx⟩ (.tuple #[]) w) := by
  have Hn := Lib.hid (inMacroName h hd (t := nt) (ts := t0 :: body ++ nl :: ts) hats hnk hg hB hl)
  have hl2 : ({ a with cur := nt, ts := t0 :: body ++ nl :: ts } :: rest : List Ab).length < 500 := by simp at hl ⊢; omega
  have Hdef := Lib.hid (fun (w1 : World) (h1 : Inp w1 B ib C ({ a with cur := nt, ts := t0 :: body ++ nl :: ts } :: rest) mn mac ifs bol text) (hC1 : C.lim ≤ w1.heap.size) (hg1 : Glob w1 ev) => macroDef_plain (nm := mkS nt.x) h1 (tz_mem htz) (by show nt.k ≠ 0; rw [hnk]; decide) rfl h0 hb hnl hbl hC1 hg1 hB hl2)
  have Hg := Lib.hid hg
  have Hmac := Lib.hid hmac
  clear h hd htz hats hnk hmac h0 hb hnl hbl hg hl hl2
  go_enter Tryz.func67, Tryz.ntmps67
  go_wp2_with fail
  refine Hn.out.mono ?_
  rintro e w1 ⟨rfl, h1, s1⟩
  have Hd1 := Lib.hid (Hdef.out w1 h1 (Nat.le_trans hC s1.size) (s1.glob Hg.out hB))
  have S1 := Lib.hid s1
  clear h1 s1
  go_wp2_with fail
  refine Hd1.out.mono ?_
  rintro e w2 ⟨aa, al, ac, ta, tl, tc, rfl, ha2, ht2, h2, s2⟩
  have Hdm := Lib.hid (defineMacro_new (m := ⟨none, (t0 :: body).map Tok.kx⟩) h2 Hmac.out (by omega) hmn (Nat.le_trans hC (Nat.le_trans S1.out.size s2.size)) ha2 ht2)
  have S2 := Lib.hid (S1.out.trans s2)
  clear ha2 ht2 h2 s2
  go_wp2_with fail
  refine Hdm.out.mono ?_
  rintro e w3 ⟨L, ⟨rfl, h3, s3⟩, hL⟩
  have Hfin : Hid (MadeQ B ib C ({ a with cur := nl, ts := ts } :: rest) mn mac ifs bol text nt.x ⟨none, (t0 :: body).map Tok.kx⟩ (.tuple #[]) w (.returned (.tuple #[])) w3) := Lib.hid ⟨rfl, ⟨L, by omega, h3⟩, S2.out.trans s3⟩
  clear h3 s3 hL
  go_wp2
  go_end0
  exact Hfin.out

def kwDefine : Bs := [100, 101, 102, 105, 110, 101]
theorem onB_nil : onB [] = true := rfl

end
end Go.Proofs.YtpoimmpdncickaaGreatDoor
