/- The input: its directives, told. -/
import Derived.Test.YtpoimmpdncickaaGreatDoorB8
import Derived.Test.YtpoimmpdncickaaGreatDoorA8
import Derived.Test.YtpoimmpdncickaaGreatDoorC8
/- The input's Next, as a relation, and its walk. -/
namespace Go.Proofs.YtpoimmpdncickaaGreatDoor
open Go Go.RowKit Lex
set_option linter.unusedVariables false
set_option linter.unusedSimpArgs false

/-- The input, told without memory. -/
structure Sg where
  ab : List Ab
  mn : Nat
  mac : Bs → Option Mc
  ifs : List Bool
  bol : Bool
  text : Bs

def Held (w : World) (B ib : Nat) (C : Cfg) (s : Sg) : Prop := ∃ L, L ≤ w.heap.size ∧ Inp w B ib { C with lim := L } s.ab s.mn s.mac s.ifs s.bol s.text

/-- What stays as it is while a file is read: whether conditions may be opened, the files, the folders. -/
structure Wy where
  bl : Bool
  F : Bs → Option ByteArray
  inc : List ByteArray
def Cfg.wy (C : Cfg) : Wy := ⟨C.bl, C.F, C.inc⟩

/-- A directive stands ahead: kw, with R behind it. -/
structure Hd (s : Sg) (dead rest : List Ab) (a : Ab) (kt : Tok) (R : List Tok) (kw : Bs) (on : Bool) : Prop where
  ab : s.ab = dead ++ a :: rest
  on : onB s.ifs = on
  il : s.ifs.length < 1000
  dd : ∀ d ∈ dead, d.ts = []
  ts : a.ts = kt :: R
  kk : kt.k = -2
  kx : kt.x = kw
  len : (dead ++ a :: rest).length < 500

/-- hash: what it says, what it leaves. -/
inductive Hs (y : Wy) : Sg → Bool → Sg → Prop
  | define {s dead a rest kt nt t0 body nl ts} : Hd s dead rest a kt (nt :: t0 :: body ++ nl :: ts) kwDefine true → (∀ q ∈ a :: rest, q.istz = true) → nt.k = -2 → nt.x.length ≤ 1000 → s.mac nt.x = none → s.mn < 1000000 → t0.k ≠ 40 →
      (∀ t ∈ t0 :: body, okTok t ∧ t.k ≠ 10 ∧ t.k ≠ 92 ∧ t.k ≠ -1 ∧ t.k ≠ 0) → nl.k = 10 → body.length ≤ 1000 →
      Hs y s true { s with ab := { a with cur := nl, ts := ts } :: rest, mn := s.mn + 1, mac := fun y => if y = nt.x then some ⟨none, (t0 :: body).map Tok.kx⟩ else s.mac y }
  | defargs {s dead a rest kt nt op pt bd nl ts P} : Hd s dead rest a kt (nt :: op :: (pt ++ (bd ++ nl :: ts))) kwDefine true → (∀ q ∈ a :: rest, q.istz = true) → nt.k = -2 → nt.x.length ≤ 1000 → s.mac nt.x = none → s.mn < 1000000 → op.k = 40 → op.col = nt.col + 1 → nt.col < 10000000 → Ph true P pt → P.Nodup → P.length ≤ 100 → (∀ p ∈ P, p.length ≤ 1000) →
      (∀ t ∈ bd, okTok t ∧ t.k ≠ 10 ∧ t.k ≠ 92 ∧ t.k ≠ -1 ∧ t.k ≠ 0) → nl.k = 10 → bd.length ≤ 1000 →
      Hs y s true { s with ab := { a with cur := nl, ts := ts } :: rest, mn := s.mn + 1, mac := fun y => if y = nt.x then some ⟨some P, bd.map Tok.kx⟩ else s.mac y }
  | undef {s dead a rest kt nt nl ts m} : Hd s dead rest a kt (nt :: nl :: ts) kwUndef true → nt.k = -2 → nt.x.length ≤ 1000 → s.mac nt.x = some m → nl.k = 10 →
      Hs y s true { s with ab := { a with cur := nl, ts := ts } :: rest, mac := fun y => if y = nt.x then none else s.mac y }
  | ifdef {s dead a rest kt nt nl ts t} : y.bl = true → Hd s dead rest a kt (nt :: nl :: ts) (if t then kwIfdef else kwIfndef) true → nt.k = -2 → nt.x.length ≤ 1000 → nl.k = 10 → s.ifs.length < 900 →
      Hs y s true { s with ab := { a with cur := nl, ts := ts } :: rest, ifs := s.ifs ++ [(s.mac nt.x).isSome == t] }
  | else_ {s dead a rest kt nl ts b} : y.bl = true → Hd s dead rest a kt (nl :: ts) kwElse b → s.ifs = [b] → nl.k = 10 →
      Hs y s true { s with ab := { a with cur := nl, ts := ts } :: rest, ifs := [!b] }
  | endif {s dead a rest kt nl ts b} : y.bl = true → Hd s dead rest a kt (nl :: ts) kwEndif b → s.ifs = [b] → nl.k = 10 →
      Hs y s true { s with ab := { a with cur := nl, ts := ts } :: rest, ifs := [] }
  | defoff {s dead a rest kt R} : Hd s dead rest a kt R kwDefine false →
      Hs y s false { s with ab := { a with cur := kt, ts := R } :: rest }
  | incl {s dead a rest kt st nl ts T nmB txt} : Hd s dead rest a kt (st :: nl :: ts) kwInclude true → st.k = -6 → (∀ w, Calls Tryz.prog 92 #[.string (mkS st.x)] w (UnqQ nmB w)) → nl.k = 10 → y.F nmB = some (mkS txt) → nmB.length ≤ 1000 → TL txt 1 1 T → ascii txt → txt.length < 900000 → rest.length ≤ 90 →
      Hs y s true { s with ab := IncAb nmB T ({ a with cur := nl, ts := ts } :: rest) }
  | incd {s dead a rest kt st nl ts T nmB txt} : Hd s dead rest a kt (st :: nl :: ts) kwInclude true → st.k = -6 → (∀ w, Calls Tryz.prog 92 #[.string (mkS st.x)] w (UnqQ nmB w)) → nl.k = 10 → y.F nmB = none → FoundAt y.F y.inc nmB txt → nmB.length ≤ 1000 → TL txt 1 1 T → ascii txt → txt.length < 900000 → rest.length ≤ 90 →
      Hs y s true { s with ab := IncAb nmB T ({ a with cur := nl, ts := ts } :: rest) }

/-- Next tells k. (nest: macros that have been invoked; n: rounds to come) -/
inductive Nx (y : Wy) : Nat → Nat → Sg → Int → Sg → Prop
  | tok {nest s dead a rest t ts} : s.ab = dead ++ a :: rest → (∀ d ∈ dead, d.ts = []) → a.ts = t :: ts → (dead ++ a :: rest).length < 500 → t.k ≠ 35 → t.k ≠ -1 → t.k ≠ 0 → t.x.length ≤ 1000 → (t.k = -2 → s.mac t.x = none) → s.ifs.length < 1000 → onB s.ifs = true →
      Nx y nest 0 s t.k { s with ab := { a with cur := t, ts := ts } :: rest, bol := t.k == 10, text := t.x }
  | skip {nest n s dead a rest t ts k s'} : s.ab = dead ++ a :: rest → (∀ d ∈ dead, d.ts = []) → a.ts = t :: ts → (dead ++ a :: rest).length < 500 → t.k ≠ 35 → t.k ≠ -1 → t.k ≠ 0 → t.x.length ≤ 1000 → (t.k = -2 → s.mac t.x = none) → s.ifs.length < 1000 → onB s.ifs = false →
      Nx y nest n { s with ab := { a with cur := t, ts := ts } :: rest, bol := t.k == 10 } k s' → Nx y nest (n + 1) s k s'
  | mac {nest n s dead a rest t ts m k s'} : s.ab = dead ++ a :: rest → (∀ d ∈ dead, d.ts = []) → a.ts = t :: ts → (dead ++ a :: rest).length < 100 → t.k = -2 → t.x.length ≤ 1000 → s.mac t.x = some m → m.args = none → m.toks.length < 1000000 → (∀ q ∈ m.toks, q.1 ≠ -1) → nest < 99 →
      Nx y (nest + 1) n { s with ab := slAb a.nm t.line m.toks :: { a with cur := t, ts := ts } :: rest } k s' → Nx y nest (n + 1) s k s'
  | maca {nest n s dead a rest t op body e ts m p k s'} : s.ab = dead ++ a :: rest → (∀ d ∈ dead, d.ts = []) → a.ts = t :: op :: (body ++ e :: ts) → (dead ++ a :: rest).length < 100 → (∀ q ∈ a :: rest, q.istz = true) → t.k = -2 → t.x.length ≤ 1000 → s.mac t.x = some m → m.args = some [p] → p.length ≤ 1000 → op.k = 40 → (∀ t ∈ body, argTok t) → body ≠ [] → e.k = 41 → body.length ≤ 100 → m.toks.length ≤ 100 → (∀ q ∈ m.toks, q.1 ≠ -1 ∧ q.2.length ≤ 1000) → nest < 99 →
      Nx y (nest + 1) n { s with ab := slAb a.nm e.line (subK p (body.map Tok.kx) m.toks) :: { a with cur := e, ts := ts } :: rest } k s' → Nx y nest (n + 1) s k s'
  | hash {nest s dead a rest t ts b s'} : s.ab = dead ++ a :: rest → (∀ d ∈ dead, d.ts = []) → a.ts = t :: ts → (dead ++ a :: rest).length < 500 → t.k = 35 → s.bol = true → Hs y { s with ab := { a with cur := t, ts := ts } :: rest } b s' →
      Nx y nest 0 s 35 { s' with bol := b, text := [35] }

def HsQ (B ib : Nat) (C : Cfg) (b : Bool) (s : Sg) (w : World) (e : Ending) (w' : World) : Prop := e = .returned (.bool b) ∧ Held w' B ib C s ∧ Soft B C.bl w w'
def NxQ (B ib : Nat) (C : Cfg) (k : Int) (s : Sg) (w : World) (e : Ending) (w' : World) : Prop := e = .returned (.int .i32 k) ∧ Held w' B ib C s ∧ Soft B C.bl w w'

section
variable {w w' : World} {B ib : Nat} {C : Cfg} {s s' : Sg} {ab ab' : List Ab} {mn : Nat} {mac : Bs → Option Mc} {ifs : List Bool} {bol : Bool} {text : Bs} {S S' : Nat → Value} {rs rs' : List RS} {ev : Value}

/-- What a directive leaves, as Held. -/
theorem hs_of {s' : Sg} {b : Bool} {e : Ending} {w' : World} (h : HZ B C.bl (.bool b) (fun w1 => Held w1 B ib C s') w e w') : HsQ B ib C b s' w e w' := h
theorem Inp.lim {L L' : Nat} (h : Inp w B ib { { C with lim := L } with lim := L' } ab mn mac ifs bol text) : Inp w B ib { C with lim := L' } ab mn mac ifs bol text := h

theorem hash_any {b : Bool} (h : Held w B ib C s) (hh : Hs C.wy s b s') (hg : Glob w ev) (hB : 21 ≤ B) :
    Calls Tryz.prog 51 #[.pointer (some ⟨ib, 0, none⟩)] w (HsQ B ib C b s' w) := by
  obtain ⟨L, hL, h⟩ := h
  cases hh with
  | @define dead a rest kt nt t0 body nl ts hd a1 a2 a3 a4 a5 a6 a7 a8 a9 => as_aux_lemma =>
    rw [hd.ab] at h
    refine hash_define_on (C := { C with lim := L }) (Z := fun w1 => Held w1 B ib C _) h hd.on hd.il hd.dd hd.ts hd.kk hd.kx hL hg hB hd.len (fun w1 h1 hL1 hg1 => ?_)
    have hl2 : ({ a with cur := kt, ts := nt :: t0 :: body ++ nl :: ts } :: rest : List Ab).length < 500 := by have := hd.len; simp at this ⊢; omega
    refine (define_plain (dead := []) h1 (fun _ h => by cases h) (tz_mem a1) rfl a2 a3 a4 a5 a6 a7 a8 a9 hL1 hg1 hB hl2).mono ?_
    rintro e w' ⟨rfl, ⟨L', hL', h'⟩, hs⟩
    exact ⟨rfl, ⟨L', hL', h'⟩, hs⟩
  | @defargs dead a rest kt nt op pt bd nl ts P hd a1 a2 a3 a4 a5 a6 a7 a8 a9 a10 a11 a12 a13 a14 a15 => as_aux_lemma =>
    rw [hd.ab] at h
    refine hash_define_on (C := { C with lim := L }) (Z := fun w1 => Held w1 B ib C _) h hd.on hd.il hd.dd hd.ts hd.kk hd.kx hL hg hB hd.len (fun w1 h1 hL1 hg1 => ?_)
    have hl2 : ({ a with cur := kt, ts := nt :: op :: (pt ++ (bd ++ nl :: ts)) } :: rest : List Ab).length < 500 := by have := hd.len; simp at this ⊢; omega
    refine (define_args (dead := []) h1 (fun _ h => by cases h) (tz_mem a1) rfl a2 a3 a4 a5 a6 a7 a8 a9 a10 a11 a12 a13 a14 a15 hL1 hg1 hB hl2).mono ?_
    rintro e w' ⟨rfl, ⟨L', hL', h'⟩, hs⟩
    exact ⟨rfl, ⟨L', hL', h'⟩, hs⟩
  | @undef dead a rest kt nt nl ts m hd a2 a3 a4 a5 => as_aux_lemma =>
    rw [hd.ab] at h
    refine hash_undef_on (C := { C with lim := L }) (Z := fun w1 => Held w1 B ib C _) h hd.on hd.il hd.dd hd.ts hd.kk hd.kx hL hg hB hd.len (fun w1 h1 hL1 hg1 => ?_)
    have hl2 : ({ a with cur := kt, ts := nt :: nl :: ts } :: rest : List Ab).length < 500 := by have := hd.len; simp at this ⊢; omega
    refine (undef_plain (dead := []) h1 (fun _ h => by cases h) rfl a2 a3 a4 a5 hg1 hB hl2).mono ?_
    rintro e w' ⟨rfl, h', hs⟩
    exact ⟨rfl, ⟨L, Nat.le_trans hL1 hs.size, h'⟩, hs⟩
  | @ifdef dead a rest kt nt nl ts t hbl hd a2 a3 a4 a5 => as_aux_lemma =>
    rw [hd.ab] at h
    have hl2 : ({ a with cur := kt, ts := nt :: nl :: ts } :: rest : List Ab).length < 500 := by have := hd.len; simp at this ⊢; omega
    have hcall : ∀ w1, Inp w1 B ib { C with lim := L } ({ a with cur := kt, ts := nt :: nl :: ts } :: rest) s.mn s.mac s.ifs s.bol s.text → Glob w1 ev → L ≤ w1.heap.size → Calls Tryz.prog 70 #[.pointer (some ⟨ib, 0, none⟩), .bool t] w1 (HZ B C.bl (.tuple #[]) (fun w1 => Held w1 B ib C { s with ab := { a with cur := nl, ts := ts } :: rest, ifs := s.ifs ++ [(s.mac nt.x).isSome == t] }) w1) := fun w1 h1 hg1 hL1 => by
      refine (ifdef_plain (dead := []) h1 hbl (fun _ h => by cases h) rfl a2 a3 a4 hd.on a5 hg1 hB hl2).mono ?_
      rintro e w' ⟨rfl, h', hs⟩
      exact ⟨rfl, ⟨L, Nat.le_trans hL1 hs.size, h'⟩, hs⟩
    cases t with
    | true => exact hash_ifdef_on (C := { C with lim := L }) h hd.on hd.il hd.dd hd.ts hd.kk hd.kx hL hg hB hd.len (fun w1 h1 hL1 hg1 => hcall w1 h1 hg1 hL1)
    | false => exact hash_ifndef_on (C := { C with lim := L }) h hd.on hd.il hd.dd hd.ts hd.kk hd.kx hL hg hB hd.len (fun w1 h1 hL1 hg1 => hcall w1 h1 hg1 hL1)
  | @else_ dead a rest kt nl ts b hbl hd a2 a3 => as_aux_lemma =>
    rw [hd.ab] at h
    have hl2 : ({ a with cur := kt, ts := nl :: ts } :: rest : List Ab).length < 500 := by have := hd.len; simp at this ⊢; omega
    have hcall : ∀ w1, Inp w1 B ib { C with lim := L } ({ a with cur := kt, ts := nl :: ts } :: rest) s.mn s.mac s.ifs s.bol s.text → Glob w1 ev → L ≤ w1.heap.size → Calls Tryz.prog 68 #[.pointer (some ⟨ib, 0, none⟩)] w1 (HZ B C.bl (.tuple #[]) (fun w1 => Held w1 B ib C { s with ab := { a with cur := nl, ts := ts } :: rest, ifs := [!b] }) w1) := fun w1 h1 hg1 hL1 => by
      rw [a2] at h1
      refine (else_plain h1 hbl rfl a3 hg1 hB hl2).mono ?_
      rintro e w' ⟨rfl, h', hs⟩
      exact ⟨rfl, ⟨L, Nat.le_trans hL1 hs.size, h'⟩, hs⟩
    cases b with
    | true => exact hash_else_on (C := { C with lim := L }) h hd.on hd.il hd.dd hd.ts hd.kk hd.kx hL hg hB hd.len (fun w1 h1 hL1 hg1 => hcall w1 h1 hg1 hL1)
    | false => exact hash_else_off (C := { C with lim := L }) h hd.on hd.il hd.dd hd.ts hd.kk hd.kx hL hg hB hd.len (fun w1 h1 hL1 hg1 => hcall w1 h1 hg1 hL1)
  | @endif dead a rest kt nl ts b hbl hd a2 a3 => as_aux_lemma =>
    rw [hd.ab] at h
    have hl2 : ({ a with cur := kt, ts := nl :: ts } :: rest : List Ab).length < 500 := by have := hd.len; simp at this ⊢; omega
    have hcall : ∀ w1, Inp w1 B ib { C with lim := L } ({ a with cur := kt, ts := nl :: ts } :: rest) s.mn s.mac s.ifs s.bol s.text → Glob w1 ev → L ≤ w1.heap.size → Calls Tryz.prog 69 #[.pointer (some ⟨ib, 0, none⟩)] w1 (HZ B C.bl (.tuple #[]) (fun w1 => Held w1 B ib C { s with ab := { a with cur := nl, ts := ts } :: rest, ifs := [] }) w1) := fun w1 h1 hg1 hL1 => by
      rw [a2] at h1
      refine (endif_plain h1 hbl rfl a3 hg1 hB hl2).mono ?_
      rintro e w' ⟨rfl, h', hs⟩
      exact ⟨rfl, ⟨L, Nat.le_trans hL1 hs.size, h'⟩, hs⟩
    cases b with
    | true => exact hash_endif_on (C := { C with lim := L }) h hd.on hd.il hd.dd hd.ts hd.kk hd.kx hL hg hB hd.len (fun w1 h1 hL1 hg1 => hcall w1 h1 hg1 hL1)
    | false => exact hash_endif_off (C := { C with lim := L }) h hd.on hd.il hd.dd hd.ts hd.kk hd.kx hL hg hB hd.len (fun w1 h1 hL1 hg1 => hcall w1 h1 hg1 hL1)
  | @defoff dead a rest kt R hd => as_aux_lemma =>
    rw [hd.ab] at h
    refine (hash_define_off (C := { C with lim := L }) h hd.on hd.il hd.dd hd.ts hd.kk hd.kx hL hg hB hd.len).mono ?_
    rintro e w' ⟨rfl, h', hs⟩
    exact ⟨rfl, ⟨L, Nat.le_trans hL hs.size, h'⟩, hs⟩
  | @incl dead a rest kt st nl ts T nmB txt hd a2 a3 a4 a5 a6 a7 a8 a9 a10 => as_aux_lemma =>
    rw [hd.ab] at h
    refine hash_include_on (C := { C with lim := L }) (Z := fun w1 => Held w1 B ib C _) h hd.on hd.il hd.dd hd.ts hd.kk hd.kx hL hg hB hd.len (fun w1 h1 hL1 hg1 => ?_)
    have hl2 : ({ a with cur := kt, ts := st :: nl :: ts } :: rest : List Ab).length < 500 := by have := hd.len; simp at this ⊢; omega
    refine (include_plain (dead := []) h1 (fun _ h => by cases h) rfl a2 a3 a4 a5 a6 a7 a8 a9 hg1 hB hl2 a10).mono ?_
    rintro e w' ⟨rfl, h', hs⟩
    exact ⟨rfl, ⟨L, Nat.le_trans hL1 hs.size, h'⟩, hs⟩
  | @incd dead a rest kt st nl ts T nmB txt hd a2 a3 a4 a5 af a6 a7 a8 a9 a10 => as_aux_lemma =>
    rw [hd.ab] at h
    obtain ⟨k, jn, f1, f2, f3, f4⟩ := af
    refine hash_include_on (C := { C with lim := L }) (Z := fun w1 => Held w1 B ib C _) h hd.on hd.il hd.dd hd.ts hd.kk hd.kx hL hg hB hd.len (fun w1 h1 hL1 hg1 => ?_)
    have hl2 : ({ a with cur := kt, ts := st :: nl :: ts } :: rest : List Ab).length < 500 := by have := hd.len; simp at this ⊢; omega
    refine (include_dir (dead := []) h1 (fun _ h => by cases h) rfl a2 a3 a4 a5 f1 f2 f3 f4 a6 a7 a8 a9 hg1 hB hl2 a10).mono ?_
    rintro e w' ⟨rfl, h', hs⟩
    exact ⟨rfl, ⟨L, Nat.le_trans hL1 hs.size, h'⟩, hs⟩

/-- bol and text are set. -/
theorem Inp.set {i : Nat} {v : Value} (h : In w B ib C ab mn mac ifs bol text S rs) (hi : i = 3 ∨ i = 6) : Stk (w.setCell ⟨ib, i, none⟩ v) B ib (upd S i v) rs ∧ Env (w.setCell ⟨ib, i, none⟩ v) B (upd S i v) C mn mac ifs ∧ (∀ r ∈ rs, PB (w.setCell ⟨ib, i, none⟩ v) r.bb r.nm) ∧ Soft B C.bl w (w.setCell ⟨ib, i, none⟩ v) := by
  have ho := (Only.refl (fun k => k = ib) w).setCell (p := ⟨ib, i, none⟩) (fun _ => rfl) v
  have hib : Typed w ib (· = 73) := h.stk.blk.typed rfl
  have hmt : Typed w ib MT := h.stk.blk.typed (.inr (.inl rfl))
  have hne : ∀ {k : Nat} {P : TypeId → Prop}, Typed w k P → ¬ P 73 → k ≠ ib := fun ht hp => typed_ne ht hib (fun T a b => hp (b ▸ a))
  refine ⟨⟨h.stk.blk.set i v, h.stk.low, ?_, fun r hr => Rd.only (h.stk.rds r hr) ho (fun k hk => hne (Rd.foot (h.stk.rds r hr) k hk).2 (rt_ne (.inl rfl))) (fun k e _ ht => hne ht (by decide) e), h.stk.apart⟩, ?_, fun r hr => ?_, ?_⟩
  · rw [upd_other _ _ (by omega)]
    exact row_only h.stk.row ho (fun k e _ ht => hne ht (by decide) e)
  · exact h.env.only ho (fun k e _ => e ▸ hmt) (upd_other _ _ (by omega)) (upd_other _ _ (by omega)) (upd_other _ _ (by omega)) (upd_other _ _ (by omega))
  · have hp := h.nms r hr
    obtain ⟨S2, hb, hn⟩ := hp
    exact ⟨S2, hb.only ho (hne (hb.typed (P := (· = 129)) rfl) (by decide)), hn⟩
  · exact Soft.of ho (fun k e _ => by subst e; exact ⟨h.stk.low, .inl (h.stk.blk.typed (.inl (.inr (.inl rfl))))⟩)

theorem Inp.setBol (h : Inp w B ib C ab mn mac ifs bol text) (b : Bool) : Inp (w.setCell ⟨ib, 3, none⟩ (.bool b)) B ib C ab mn mac ifs b text ∧ Soft B C.bl w (w.setCell ⟨ib, 3, none⟩ (.bool b)) := by
  obtain ⟨S, rs, h⟩ := h
  obtain ⟨h1, h2, h3, h4⟩ := Inp.set (i := 3) (v := .bool b) h (.inl rfl)
  exact ⟨⟨_, rs, ⟨h1, h.abs, h3, h2, upd_same _ _ _, (upd_other _ _ (by omega)).trans h.s6, (upd_other _ _ (by omega)).trans h.s7, by rw [upd_other _ _ (by omega)]; exact h.s8, by rw [upd_other _ _ (by omega)]; exact h.s9⟩⟩, h4⟩
theorem Inp.setText (h : Inp w B ib C ab mn mac ifs bol text) (x : Bs) : Inp (w.setCell ⟨ib, 6, none⟩ (.string (mkS x))) B ib C ab mn mac ifs bol x ∧ Soft B C.bl w (w.setCell ⟨ib, 6, none⟩ (.string (mkS x))) := by
  obtain ⟨S, rs, h⟩ := h
  obtain ⟨h1, h2, h3, h4⟩ := Inp.set (i := 6) (v := .string (mkS x)) h (.inr rfl)
  exact ⟨⟨_, rs, ⟨h1, h.abs, h3, h2, (upd_other _ _ (by omega)).trans h.s3, upd_same _ _ _, (upd_other _ _ (by omega)).trans h.s7, by rw [upd_other _ _ (by omega)]; exact h.s8, by rw [upd_other _ _ (by omega)]; exact h.s9⟩⟩, h4⟩

theorem Inp.c3 (h : Inp w B ib C ab mn mac ifs bol text) : w.cell? ⟨ib, 3, none⟩ = some (.bool bol) ∧ w.frozen? ⟨ib, 3, none⟩ = false := by
  obtain ⟨S, rs, h⟩ := h; exact ⟨h.stk.blk.cell_eq (by decide) h.s3, h.stk.blk.frozen 3⟩
theorem Inp.c6 (h : Inp w B ib C ab mn mac ifs bol text) : w.cell? ⟨ib, 6, none⟩ = some (.string (mkS text)) ∧ w.frozen? ⟨ib, 6, none⟩ = false := by
  obtain ⟨S, rs, h⟩ := h; exact ⟨h.stk.blk.cell_eq (by decide) h.s6, h.stk.blk.frozen 6⟩
theorem Inp.c7 (h : Inp w B ib C ab mn mac ifs bol text) : w.cell? ⟨ib, 7, none⟩ = some (.bool false) := by
  obtain ⟨S, rs, h⟩ := h; exact h.stk.blk.cell_eq (by decide) h.s7
theorem Inp.mac_none (h : Inp w B ib C ab mn mac ifs bol text) {x : Bs} (hx : mac x = none) (hl : x.length ≤ 1000000) :
    w.cell? ⟨ib, 5, none⟩ = some (.map (some C.mb)) ∧ (Instr.lookup 71 (.map (some C.mb)) (.string (mkS x)) false).run Tryz.prog w = .ok (.pointer none) w := by
  obtain ⟨S, rs, h⟩ := h
  obtain ⟨f, m1, m2, m3⟩ := h.env.mcs
  refine ⟨h.stk.blk.cell_eq (by decide) h.env.mcv, ?_⟩
  have := m1.look Tryz.underlying71 zero_ptr_macro x hl
  rw [m2 x hx] at this
  exact this
theorem Inp.mac_some (h : Inp w B ib C ab mn mac ifs bol text) {x : Bs} {m : Mc} (hx : mac x = some m) (hl : x.length ≤ 1000000) :
    ∃ b, w.cell? ⟨ib, 5, none⟩ = some (.map (some C.mb)) ∧ (Instr.lookup 71 (.map (some C.mb)) (.string (mkS x)) false).run Tryz.prog w = .ok (.pointer (some ⟨b, 0, none⟩)) w ∧ MacAt w C.lim b x m := by
  obtain ⟨S, rs, h⟩ := h
  obtain ⟨f, m1, m2, m3⟩ := h.env.mcs
  obtain ⟨b, hb, hm⟩ := m3 x m hx
  refine ⟨b, h.stk.blk.cell_eq (by decide) h.env.mcv, ?_, hm⟩
  have := m1.look Tryz.underlying71 zero_ptr_macro x hl
  rw [hb] at this
  exact this
end
end Go.Proofs.YtpoimmpdncickaaGreatDoor
