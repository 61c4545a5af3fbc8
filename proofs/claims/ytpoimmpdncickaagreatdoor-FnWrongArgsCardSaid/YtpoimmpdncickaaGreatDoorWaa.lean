/- The law FnWrongArgs's walk: it returns true. -/
import Derived.Test.YtpoimmpdncickaaGreatDoorJ10
import Derived.Test.YtpoimmpdncickaaGreatDoorJ9
import Derived.Test.YtpoimmpdncickaaGreatDoorJ12
import Derived.Test.YtpoimmpdncickaaGreatDoorC8
import Derived.Test.YtpoimmpdncickaaGreatDoorJ8
import Derived.Lib.BufferMore
/- The line that makes a macro with arguments: its bytes, its tokens. -/
namespace Go.Proofs.YtpoimmpdncickaaGreatDoor
open Go Go.RowKit Lex Go.Proofs.YtpoimmpdncickaaGreatDoorW.PrintWords Go.Proofs.YtpoimmpdncickaaGreatDoor.PHelp
set_option linter.unusedVariables false
set_option linter.unusedSimpArgs false

/-- Names with a comma and a blank between them. -/
def parB : List Bs → Bs
  | [] => []
  | [p] => p
  | p :: q :: r => p ++ 44 :: 32 :: parB (q :: r)
/-- Words, a blank ahead of each. -/
def bodB (ws : List Bs) : Bs := ws.flatMap fun w => 32 :: w
def defA (name : Bs) (ps body : List Bs) (tail : Bs) : Bs := 35 :: (kwDefine ++ 32 :: (name ++ 40 :: (parB ps ++ 41 :: (bodB body ++ 10 :: tail))))
def parTok : List Bs → List (Int × Bs)
  | [] => [(41, [41])]
  | [p] => [(-2, p), (41, [41])]
  | p :: q :: r => (-2, p) :: (44, [44]) :: parTok (q :: r)

theorem adv_le : ∀ (z : Bs) (c : Nat), adv c z ≤ c + z.length
  | [], c => by simp [adv]
  | a :: z, c => by
    have h := adv_le z (if a = 10 then 1 else c + 1)
    simp only [adv, List.length_cons]
    split at h <;> rename_i h10
    · rw [if_pos h10]; omega
    · rw [if_neg h10]; omega

theorem pc_char {c : UInt8} {p tail : Bs} {ts : List (Int × Bs)} (hc : isPlain c = true) (h1 : two (c.toNat : Int) = none) (hp : blanks p) (h : Pc tail ts) : Pc (p ++ c :: tail) (((c.toNat : Int), [c]) :: ts) :=
  .cons (z := p ++ [c]) (r' := tail) (.one (k := (c.toNat : Int)) (x := [c]) hp (.char hc) (by omega) (by simp) (by intro d n e; rw [h1] at e; cases e)) (by omega) h

theorem pc_par : ∀ (ps : List Bs), ps ≠ [] → (∀ p ∈ ps, PName p ∧ p.length ≤ 60) → ∀ {p tail : Bs} {ts : List (Int × Bs)}, blanks p → Pc tail ts → Pc (p ++ (parB ps ++ 41 :: tail)) (parTok ps ++ ts)
  | [], h, _, _, _, _, _, _ => absurd rfl h
  | [x], _, hp, p, tail, ts, hb, h => by
    obtain ⟨h1, h2⟩ := hp x (by simp)
    exact pc_nm h1 h2 (by decide) hb (pc_char (c := 41) (p := []) (by decide) rfl (by intro b h; cases h) h)
  | x :: q :: r, _, hp, p, tail, ts, hb, h => by
    obtain ⟨h1, h2⟩ := hp x (by simp)
    have ih := pc_par (q :: r) (by simp) (fun y hy => hp y (by simp at hy ⊢; right; exact hy)) (p := [32]) blanks_one h
    have e : p ++ (parB (x :: q :: r) ++ 41 :: tail) = p ++ (x ++ 44 :: ([32] ++ (parB (q :: r) ++ 41 :: tail))) := by simp [parB]
    rw [e]
    exact pc_nm h1 h2 (by decide) hb (pc_char (c := 44) (p := []) (by decide) rfl (by intro b h; cases h) ih)

theorem pc_bod : ∀ (ws : List Bs), (∀ w ∈ ws, WordL w) → ∀ {tail : Bs} {ts : List (Int × Bs)}, Pc tail ts → Pc (bodB ws ++ 10 :: tail) (ws.map tokW ++ (10, [10]) :: ts)
  | [], _, tail, ts, h => pc_nl (p := []) (by intro b h; cases h) h
  | w :: r, hw, tail, ts, h => by
    have hwl := hw w (by simp)
    have ih := pc_bod r (fun x hx => hw x (by simp [hx])) h
    obtain ⟨s, t, e, hs⟩ : ∃ s t, bodB r ++ 10 :: tail = s :: t ∧ (s = 32 ∨ s = 10) := by
      cases r with
      | nil => exact ⟨10, tail, rfl, .inr rfl⟩
      | cons a b => exact ⟨32, _, rfl, .inl rfl⟩
    have e2 : bodB (w :: r) ++ 10 :: tail = [32] ++ (w ++ s :: t) := by rw [← e]; simp [bodB]
    rw [e2]
    rw [e] at ih
    exact .cons (word_next hwl.wd hwl.nnl hwl.nm hwl.len blanks_one (hs.elim .inl fun h => .inr (.inl h)) t) hwl.kind.1 ih

theorem ph_of : ∀ (ps : List Bs), ps ≠ [] → ∀ {pt : List Tok}, pt.map Tok.kx = parTok ps → Ph true ps pt
  | [], h, _, _ => absurd rfl h
  | [x], _, pt, h => by
    obtain ⟨t, T1, rfl, hk, hx, h2⟩ := kx_cons h
    obtain ⟨c, T2, rfl, hck, _, h3⟩ := kx_cons h2
    obtain rfl := kx_nil h3
    have hx' : t.x = x := hx
    rw [← hx']
    exact .name hk (.close hck)
  | x :: q :: r, _, pt, h => by
    obtain ⟨t, T1, rfl, hk, hx, h2⟩ := kx_cons h
    obtain ⟨c, T2, rfl, hck, _, h3⟩ := kx_cons h2
    have hx' : t.x = x := hx
    rw [← hx']
    exact .name hk (.comma hck (ph_of (q :: r) (by simp) h3))

/-- The tokens of the line, with the place of the bracket. -/
theorem tl_args {name : Bs} {ps body : List Bs} (hn : PName name) (hnl : name.length ≤ 60) (hp0 : ps ≠ []) (hp : ∀ p ∈ ps, PName p ∧ p.length ≤ 60) (hb : ∀ w ∈ body, WordL w) {tail : Bs} {ts : List (Int × Bs)} (ht : Pc tail ts) (l c : Nat) (hc : c ≤ 1000000) :
    ∃ t kt nt op T, TL (defA name ps body tail) l c (t :: kt :: nt :: op :: T) ∧ Tok.kx t = (35, [35]) ∧ Tok.kx kt = (-2, kwDefine) ∧ Tok.kx nt = (-2, name) ∧ Tok.kx op = (40, [40]) ∧ op.col = nt.col + 1 ∧ nt.col < 10000000 ∧ T.map Tok.kx = parTok ps ++ (body.map tokW ++ (10, [10]) :: ts) := by
  have h5 := pc_par ps hp0 hp (p := []) (by intro b h; cases h) (pc_bod body hb ht)
  have h1 : TNext (defA name ps body tail) 35 [35] [35] (kwDefine ++ 32 :: (name ++ 40 :: (parB ps ++ 41 :: (bodB body ++ 10 :: tail)))) :=
    .one (ws := []) (k := ((35 : UInt8).toNat : Int)) (x := [35]) (by intro b h; cases h) (.char (by decide)) (by decide) (by simp) (by intro d n e; cases e)
  have h2 : TNext (kwDefine ++ 32 :: (name ++ 40 :: (parB ps ++ 41 :: (bodB body ++ 10 :: tail)))) (-2) kwDefine kwDefine (32 :: (name ++ 40 :: (parB ps ++ 41 :: (bodB body ++ 10 :: tail)))) :=
    .one (ws := []) (x := kwDefine) (by intro b h; cases h) (.ident (c := 100) (x := [101, 102, 105, 110, 101]) (by decide) (by decide) (fun c hc => by simp at hc; subst hc; decide)) (by decide) (by decide) (by intro d n e; cases e)
  obtain ⟨c0, y, rfl, n1, n2⟩ := hn
  have h3 : TNext (32 :: ((c0 :: y) ++ 40 :: (parB ps ++ 41 :: (bodB body ++ 10 :: tail)))) (-2) (c0 :: y) (32 :: (c0 :: y)) (40 :: (parB ps ++ 41 :: (bodB body ++ 10 :: tail))) :=
    .one (ws := [32]) (x := c0 :: y) blanks_one (.ident n1 n2 (fun c hc => by simp at hc; subst hc; decide)) (by decide) (Nat.le_trans hnl (by decide)) (by intro d n e; cases e)
  have h4 : TNext (40 :: (parB ps ++ 41 :: (bodB body ++ 10 :: tail))) 40 [40] [40] (parB ps ++ 41 :: (bodB body ++ 10 :: tail)) :=
    .one (ws := []) (k := ((40 : UInt8).toNat : Int)) (x := [40]) (by intro b h; cases h) (.char (by decide)) (by decide) (by simp) (by intro d n e; cases e)
  obtain ⟨T, t1, t2⟩ := h5.tl (lineAt (lineAt (lineAt (lineAt l 35) (-2)) (-2)) 40) (adv (adv (adv (adv c [35]) kwDefine) (32 :: (c0 :: y))) [40])
  refine ⟨_, _, _, _, T, .cons h1 (by decide) (.cons h2 (by decide) (.cons h3 (by decide) (.cons h4 (by decide) t1))), rfl, rfl, rfl, rfl, by simp [adv], ?_, t2⟩
  have e1 := adv_le (32 :: (c0 :: y)) (adv (adv c [35]) kwDefine)
  have e2 := adv_le kwDefine (adv c [35])
  have e3 := adv_le [35] c
  simp only [List.length_cons, List.length_nil] at e1 e3 hnl
  have : kwDefine.length = 6 := rfl
  show adv (adv (adv c [35]) kwDefine) (32 :: (c0 :: y)) < 10000000
  omega

section
variable {y : Wy}
/-- The macro is made. -/
theorem args_run {name : Bs} {ps body : List Bs} (hn : PName name) (hnl : name.length ≤ 60) (hp0 : ps ≠ []) (hp5 : ps.length ≤ 100) (hp : ∀ p ∈ ps, PName p ∧ p.length ≤ 60) (hnd : ps.Nodup) (hb : ∀ w ∈ body, WordL w) (hb20 : body.length ≤ 20) :
    ∃ T n s', TL (defA name ps body []) 1 1 T ∧ Run y n ⟨[tzAb mainName T], 0, fun _ => none, [], true, []⟩ s' ∧ n < 1000 ∧ s'.mac name = some ⟨some ps, body.map tokW⟩ := by
  obtain ⟨t, kt, nt, op, T, h1, hk, hkk, hnk, hok, hcol, hcb, h2⟩ := tl_args hn hnl hp0 hp hb (tail := []) .nil 1 1 (by omega)
  obtain ⟨pt, T1, rfl, hpt, h3⟩ := List.map_eq_append_iff.1 h2
  obtain ⟨bd, T2, rfl, hbd, h4⟩ := List.map_eq_append_iff.1 h3
  obtain ⟨nl, T3, rfl, hnlk, _, h5⟩ := kx_cons h4
  obtain rfl := kx_nil h5
  have hnx : nt.x = name := congrArg Prod.snd hnk
  have hok2 : ∀ q ∈ bd, okTok q ∧ q.k ≠ 10 ∧ q.k ≠ 92 ∧ q.k ≠ -1 ∧ q.k ≠ 0 := fun q hq => by
    have hm : Tok.kx q ∈ body.map tokW := hbd ▸ List.mem_map_of_mem hq
    obtain ⟨w, hwm, e⟩ := List.mem_map.1 hm
    have hW := hb w hwm
    have hkd := hW.kind
    have e1 : q.k = kindW w := by have := congrArg Prod.fst e; exact this.symm
    have e2 : q.x = w := by have := congrArg Prod.snd e; exact this.symm
    refine ⟨⟨e2 ▸ hW.ascii, e2 ▸ hkd.2.2.2.2.2.2.2.1, by rw [e2]; have := hW.len; omega⟩, by rw [e1]; exact hkd.2.2.1, by rw [e1]; exact hkd.2.2.2.2.1, by rw [e1]; exact hkd.1, by rw [e1]; exact hkd.2.1⟩
  obtain ⟨a0, ha0⟩ : ∃ a0, a0 = tzAb mainName (t :: kt :: nt :: op :: (pt ++ (bd ++ nl :: []))) := ⟨_, rfl⟩
  have hs1 : Hs y ⟨[{ a0 with cur := t, ts := kt :: nt :: op :: (pt ++ (bd ++ nl :: [])) }], 0, fun _ => none, [], true, []⟩ true _ :=
    .defargs (dead := []) (a := { a0 with cur := t, ts := kt :: nt :: op :: (pt ++ (bd ++ nl :: [])) }) (rest := []) (kt := kt) (nt := nt) (op := op) (pt := pt) (bd := bd) (nl := nl) (ts := []) (P := ps) ⟨rfl, rfl, by simp, by simp, rfl, congrArg Prod.fst hkk, congrArg Prod.snd hkk, by simp⟩ (fun q hq => by simp at hq; rw [hq, ha0]; rfl) (congrArg Prod.fst hnk) (by rw [hnx]; omega) rfl (by show 0 < 1000000; omega)
      (congrArg Prod.fst hok) hcol hcb (ph_of ps hp0 hpt) hnd hp5 (fun p h => by have := (hp p h).2; omega) hok2 hnlk (by have := congrArg List.length hbd; simp at this; omega)
  refine ⟨_, 1, _, h1, .step (m := 0) (k := 35) (.hash (dead := []) (a := a0) (rest := []) (t := t) (ts := kt :: nt :: op :: (pt ++ (bd ++ nl :: []))) (by rw [ha0]; rfl) (by simp) (by rw [ha0]; rfl) (by simp) (congrArg Prod.fst hk) rfl hs1) (by decide) (by decide) (by decide) (.done (dead := []) rfl (by simp) rfl (by rw [ha0]; rfl) rfl (by simp)), by omega, ?_⟩
  rw [hnx]
  simp [hbd]
end
/-- The file. -/
def argF (name p : Bs) (body arg rest : List Bs) : Bs := 35 :: (kwDefine ++ 32 :: (name ++ 40 :: (p ++ 41 :: 32 :: (textB body ++ 10 :: (name ++ 40 :: (textB arg ++ 41 :: 32 :: (textB rest ++ 10 :: [])))))))

theorem adv_le2 : ∀ (z : Bs) (c : Nat), adv c z ≤ c + z.length
  | [], c => by simp [adv]
  | a :: z, c => by
    have h := adv_le2 z (if a = 10 then 1 else c + 1)
    simp only [adv, List.length_cons]
    split at h <;> rename_i h10
    · rw [if_pos h10]; omega
    · rw [if_neg h10]; omega
theorem pc_sign {c : UInt8} {p tail : Bs} {ts : List (Int × Bs)} (hc : isPlain c = true) (h1 : two (c.toNat : Int) = none) (hp : blanks p) (h : Pc tail ts) : Pc (p ++ c :: tail) (((c.toNat : Int), [c]) :: ts) :=
  .cons (z := p ++ [c]) (r' := tail) (.one (k := (c.toNat : Int)) (x := [c]) hp (.char hc) (by omega) (by simp) (by intro d n e; rw [h1] at e; cases e)) (by omega) h

/-- The tokens of a definition up to its bracket, with the bracket's place. -/
theorem tl_open {name X : Bs} {ts : List (Int × Bs)} (hn : PName name) (hnl : name.length ≤ 60) (h5 : Pc X ts) (l c : Nat) (hc : c ≤ 1000000) :
    ∃ t kt nt op T, TL (35 :: (kwDefine ++ 32 :: (name ++ 40 :: X))) l c (t :: kt :: nt :: op :: T) ∧ Tok.kx t = (35, [35]) ∧ Tok.kx kt = (-2, kwDefine) ∧ Tok.kx nt = (-2, name) ∧ Tok.kx op = (40, [40]) ∧ op.col = nt.col + 1 ∧ nt.col < 10000000 ∧ T.map Tok.kx = ts := by
  have h1 : TNext (35 :: (kwDefine ++ 32 :: (name ++ 40 :: X))) 35 [35] [35] (kwDefine ++ 32 :: (name ++ 40 :: X)) :=
    .one (ws := []) (k := ((35 : UInt8).toNat : Int)) (x := [35]) (by intro b h; cases h) (.char (by decide)) (by decide) (by simp) (by intro d n e; cases e)
  have h2 : TNext (kwDefine ++ 32 :: (name ++ 40 :: X)) (-2) kwDefine kwDefine (32 :: (name ++ 40 :: X)) :=
    .one (ws := []) (x := kwDefine) (by intro b h; cases h) (.ident (c := 100) (x := [101, 102, 105, 110, 101]) (by decide) (by decide) (fun c hc => by simp at hc; subst hc; decide)) (by decide) (by decide) (by intro d n e; cases e)
  obtain ⟨c0, y, rfl, n1, n2⟩ := hn
  have h3 : TNext (32 :: ((c0 :: y) ++ 40 :: X)) (-2) (c0 :: y) (32 :: (c0 :: y)) (40 :: X) :=
    .one (ws := [32]) (x := c0 :: y) blanks_one (.ident n1 n2 (fun c hc => by simp at hc; subst hc; decide)) (by decide) (Nat.le_trans hnl (by decide)) (by intro d n e; cases e)
  have h4 : TNext (40 :: X) 40 [40] [40] X :=
    .one (ws := []) (k := ((40 : UInt8).toNat : Int)) (x := [40]) (by intro b h; cases h) (.char (by decide)) (by decide) (by simp) (by intro d n e; cases e)
  obtain ⟨T, t1, t2⟩ := h5.tl (lineAt (lineAt (lineAt (lineAt l 35) (-2)) (-2)) 40) (adv (adv (adv (adv c [35]) kwDefine) (32 :: (c0 :: y))) [40])
  refine ⟨_, _, _, _, T, .cons h1 (by decide) (.cons h2 (by decide) (.cons h3 (by decide) (.cons h4 (by decide) t1))), rfl, rfl, rfl, rfl, by simp [adv], ?_, t2⟩
  have e1 := adv_le2 (32 :: (c0 :: y)) (adv (adv c [35]) kwDefine)
  have e2 := adv_le2 kwDefine (adv c [35])
  have e3 := adv_le2 [35] c
  simp only [List.length_cons, List.length_nil] at e1 e3 hnl
  have : kwDefine.length = 6 := rfl
  show adv (adv (adv c [35]) kwDefine) (32 :: (c0 :: y)) < 10000000
  omega

theorem WordL.kindc {w : Bs} (h : WordL w) {c : UInt8} (hc : kindW w = (c.toNat : Int)) : w = [c] := by
  have hw := h.wd
  generalize hk : kindW w = kd at hw hc
  cases hw with
  | p1 => omega
  | p2 => omega
  | p3 => omega
  | p4 => omega
  | nl => exact absurd rfl h.nnl
  | @mark d hd =>
    have : d = c := UInt8.toNat_inj.1 (by omega)
    rw [this]
  | name _ => omega
  | num hn => omega
  | quo hq => omega

section
variable {y : Wy} {s : Sg} {R : List (Int × Bs)} {mac : Bs → Option Mc} {mn : Nat}

theorem subK_words {p : Bs} (hp : PName p) {arg body : List Bs} (hb : ∀ w ∈ body, WordL w) : subK p (arg.map tokW) (body.map tokW) = (body.flatMap (repW p arg)).map tokW := by
  induction body with
  | nil => rfl
  | cons w r ih =>
    have e : subK p (arg.map tokW) ((w :: r).map tokW) = (if (tokW w).1 = -2 ∧ (tokW w).2 = p then arg.map tokW else [tokW w]) ++ subK p (arg.map tokW) (r.map tokW) := by simp [subK]
    rw [e, ih (fun x hx => hb x (by simp [hx])), List.flatMap_cons, List.map_append]
    congr 1
    by_cases h : w = p
    · have hk : kindW w = -2 := (hb w (by simp)).name_kind (h ▸ hp)
      have e1 : (tokW w).1 = -2 ∧ (tokW w).2 = p := ⟨hk, h⟩
      rw [if_pos e1]
      simp [repW, h]
    · have e1 : ¬ ((tokW w).1 = -2 ∧ (tokW w).2 = p) := fun e => h e.2
      rw [if_neg e1]
      simp [repW, h]

/-- A macro is used with its argument. -/
theorem st_maca {nm : ByteArray} {name p : Bs} {arg body : List Bs} (h : At s nm [] ((-2, name) :: (40, [40]) :: (arg.map tokW ++ (41, [41]) :: R)) mac [] mn) (hnl : name.length ≤ 60) (hpn : PName p) (hpl : p.length ≤ 60) (hm : mac name = some ⟨some [p], body.map tokW⟩)
    (ha : ∀ w ∈ arg, WordL w ∧ mac w = none ∧ w ≠ [40] ∧ w ≠ [41] ∧ w ≠ [44]) (ha0 : arg ≠ []) (hal : arg.length ≤ 20) (hb : ∀ w ∈ body, WordL w ∧ mac w = none) (hb0 : body ≠ []) (hbl : body.length ≤ 20) :
    ∃ l s1, StT y l s s1 ∧ l.map Fd.kx = (body.flatMap (repW p arg)).map tokW ∧ At s1 nm [] R mac [] mn := by
  obtain ⟨dead, a, q1, q2, q3, q4, q5, q6, q7, q8, q9⟩ := h
  obtain ⟨t, T1, hT, hk, hx, h2⟩ := kx_cons q6
  obtain ⟨op, T2, e2, hok, hox, h3⟩ := kx_cons h2
  obtain ⟨bd, T3, e3, hbd, h4⟩ := List.map_eq_append_iff.1 h3
  obtain ⟨e, T4, e4, hek, hex, h5⟩ := kx_cons h4
  subst e4 e3 e2
  have hx' : t.x = name := hx
  have hbt : ∀ q ∈ bd, argTok q := fun q hq => by
    have hmm : Tok.kx q ∈ arg.map tokW := hbd ▸ List.mem_map_of_mem hq
    obtain ⟨w, hwm, ee⟩ := List.mem_map.1 hmm
    obtain ⟨w1, w2, w3, w4, w5⟩ := ha w hwm
    have hkd := w1.kind
    have k1 : q.k = kindW w := by have := congrArg Prod.fst ee; exact this.symm
    have k2 : q.x = w := by have := congrArg Prod.snd ee; exact this.symm
    refine ⟨⟨k2 ▸ w1.ascii, k2 ▸ hkd.2.2.2.2.2.2.2.1, by rw [k2]; have := w1.len; omega⟩, by rw [k1]; exact hkd.2.2.1, by rw [k1]; exact hkd.1, by rw [k1]; exact hkd.2.1, fun e => w3 (w1.kindc (c := 40) (by rw [← k1]; exact e)), fun e => w4 (w1.kindc (c := 41) (by rw [← k1]; exact e)), fun e => w5 (w1.kindc (c := 44) (by rw [← k1]; exact e))⟩
  have hbdl : bd.length = arg.length := by have := congrArg List.length hbd; simpa using this
  obtain ⟨b0, br, hbe⟩ : ∃ b0 br, body.flatMap (repW p arg) = b0 :: br := by
    cases hc : body.flatMap (repW p arg) with
    | cons b0 br => exact ⟨b0, br, rfl⟩
    | nil =>
      exfalso
      cases body with
      | nil => exact hb0 rfl
      | cons w r =>
        rw [List.flatMap_cons] at hc
        have h1 := (List.append_eq_nil_iff.1 hc).1
        unfold repW at h1
        split at h1
        · exact ha0 h1
        · cases h1
  have hsub : subK p (bd.map Tok.kx) (body.map tokW) = (b0 :: br).map tokW := by rw [hbd, subK_words hpn (fun w hw => (hb w hw).1), hbe]
  have hall : ∀ w ∈ b0 :: br, WordL w ∧ mac w = none := fun w hw => by
    rw [← hbe] at hw
    obtain ⟨q, hq, hw⟩ := List.mem_flatMap.1 hw
    unfold repW at hw
    split at hw
    · exact ⟨(ha w hw).1, (ha w hw).2.1⟩
    · simp at hw; rw [hw]; exact hb q hq
  have hlen : (b0 :: br).length ≤ 1000 := by
    have h1 := repW_len p arg hal body
    rw [hbe] at h1
    omega
  have hb0w := hall b0 (by simp)
  have hb0k := hb0w.1.kind
  have hb0l := hb0w.1.len
  have hsl : (slAb a.nm e.line (subK p (bd.map Tok.kx) (body.map tokW))).ts = sTok e.line (tokW b0) :: (br.map tokW).map (sTok e.line) := by rw [hsub]; rfl
  obtain ⟨l1, s1, c1, c2, c3, c4⟩ := st_body (y := y) (R := R) (a := { a with cur := e, ts := T4 }) (nm := nm) (mac := mac) (mn := mn) (rest := []) (ifs := []) (by simp) (by simp) rfl br
    { s with ab := { slAb a.nm e.line (subK p (bd.map Tok.kx) (body.map tokW)) with cur := sTok e.line (tokW b0), ts := (br.map tokW).map (sTok e.line) } :: { a with cur := e, ts := T4 } :: [], bol := (sTok e.line (tokW b0)).k == 10, text := (sTok e.line (tokW b0)).x }
    { slAb a.nm e.line (subK p (bd.map Tok.kx) (body.map tokW)) with cur := sTok e.line (tokW b0), ts := (br.map tokW).map (sTok e.line) } (fun x hx => ⟨(hall x (by simp [hx])).1, fun _ => (hall x (by simp [hx])).2⟩) rfl q5 (by simp [Tok.kx, sTok]) q4 q5 h5 q7 q8 q9
  have hnx : Nx y 0 1 s (sTok e.line (tokW b0)).k { s with ab := { slAb a.nm e.line (subK p (bd.map Tok.kx) (body.map tokW)) with cur := sTok e.line (tokW b0), ts := (br.map tokW).map (sTok e.line) } :: { a with cur := e, ts := T4 } :: [], bol := (sTok e.line (tokW b0)).k == 10, text := (sTok e.line (tokW b0)).x } :=
    .maca (dead := dead) (a := a) (rest := []) (t := t) (op := op) (body := bd) (e := e) (ts := T4) (m := ⟨some [p], body.map tokW⟩) (p := p) q1 q3 hT (by simp; omega) (fun q hq => by simp at hq; rw [hq]; exact q4) hk (by rw [hx']; omega) (by rw [q7, hx']; exact hm) rfl (by omega) hok hbt (fun e => by rw [e] at hbdl; exact ha0 (List.eq_nil_of_length_eq_zero hbdl.symm)) hek (by omega) (by simp; omega) (fun q hq => by
        obtain ⟨x, hx1, rfl⟩ := List.mem_map.1 hq
        exact ⟨(hb x hx1).1.kind.1, by show x.length ≤ 1000; have := (hb x hx1).1.len; omega⟩) (by omega)
      (.tok (dead := []) (a := slAb a.nm e.line (subK p (bd.map Tok.kx) (body.map tokW))) (rest := { a with cur := e, ts := T4 } :: []) rfl (by simp) hsl (by simp) hb0k.2.2.2.1 hb0k.1 hb0k.2.1 (by show b0.length ≤ 1000; omega) (fun _ => by rw [show (sTok e.line (tokW b0)).x = b0 from rfl]; show s.mac b0 = none; rw [q7]; exact hb0w.2) (by show s.ifs.length < 1000; rw [q8]; simp) (by show onB s.ifs = true; rw [q8]; rfl))
  refine ⟨⟨(sTok e.line (tokW b0)).k, (sTok e.line (tokW b0)).x, a.nm, e.line⟩ :: l1, s1, .cons hnx hb0k.1 hb0k.2.2.2.2.2.1 hb0k.2.2.2.2.2.2.1 rfl (by simp) c1, ?_, c3⟩
  rw [List.map_cons, c2, hbe]
  simp [Fd.kx, sTok, tokW]
end

theorem arg_told (y : Wy) {name p : Bs} {body arg rest : List Bs} (hn : PName name) (hnl : name.length ≤ 60) (hp : PName p) (hpl : p.length ≤ 60) (hb : ∀ w ∈ body, WordL w) (ha : ∀ w ∈ arg, WordL w) (hr : ∀ w ∈ rest, WordL w) (hb0 : body ≠ []) (ha0 : arg ≠ []) (lb : body.length ≤ 20) (la : arg.length ≤ 20) (lr : rest.length ≤ 20)
    (nb : name ∉ body) (na : name ∉ arg) (nr : name ∉ rest) (a1 : ([40] : Bs) ∉ arg) (a2 : ([41] : Bs) ∉ arg) (a3 : ([44] : Bs) ∉ arg) :
    ∃ T l s' mac mn, TL (argF name p body arg rest) 1 1 T ∧ StT y l ⟨[tzAb mainName T], 0, fun _ => none, [], true, []⟩ s' ∧ At s' mainName [] [] mac [] mn ∧ shown (l.map Fd.kx) = body.flatMap (repW p arg) ++ rest ∧ l.length ≤ 1000 ∧ ∀ f ∈ l, -1000000 ≤ f.k ∧ f.k < 1000000 := by
  have hbl : blanks [] := by intro b h; cases h
  have r1 : Pc ([32] ++ (textB rest ++ 10 :: [])) _ := pc_line hr .nil [32] blanks_one
  have r2 := pc_words ha (tail := 41 :: ([32] ++ (textB rest ++ 10 :: []))) (fun p hp => pc_sign (c := 41) (by decide) rfl hp r1) [] hbl
  have r3 := pc_nm hn hnl (s := 40) (by decide) hbl (pc_sign (c := 40) (p := []) (by decide) rfl hbl r2)
  have r4 := pc_words hb (tail := 10 :: (name ++ 40 :: (textB arg ++ 41 :: ([32] ++ (textB rest ++ 10 :: []))))) (fun p hp => pc_nl hp (by simpa using r3)) [32] blanks_one
  have r5 := pc_nm hp hpl (s := 41) (by decide) hbl (pc_sign (c := 41) (p := []) (by decide) rfl hbl r4)
  obtain ⟨t, kt, nt, op, T, h1, hk, hkk, hnk, hok, hcol, hcb, h2⟩ := tl_open hn hnl r5 1 1 (by omega)
  obtain ⟨pt, T1, e1, hpk, hpx, h3⟩ := kx_cons h2
  obtain ⟨cl, T2, e2, hck, hcx, h4⟩ := kx_cons h3
  obtain ⟨bd, T3, e3, hbd, h5⟩ := List.map_eq_append_iff.1 h4
  obtain ⟨nl, T4, e4, hnlk, hnlx, h6⟩ := kx_cons h5
  subst e4 e3 e2 e1
  have hnx : nt.x = name := congrArg Prod.snd hnk
  have hpx' : pt.x = p := hpx
  have hok2 : ∀ q ∈ bd, okTok q ∧ q.k ≠ 10 ∧ q.k ≠ 92 ∧ q.k ≠ -1 ∧ q.k ≠ 0 := fun q hq => by
    have hm : Tok.kx q ∈ body.map tokW := hbd ▸ List.mem_map_of_mem hq
    obtain ⟨w, hwm, e⟩ := List.mem_map.1 hm
    have hkd := (hb w hwm).kind
    have k1 : q.k = kindW w := by have := congrArg Prod.fst e; exact this.symm
    obtain ⟨o1, o2, o3⟩ := tok_words hb hbd q hq
    exact ⟨o1, by rw [k1]; exact hkd.2.2.1, by rw [k1]; exact hkd.2.2.2.2.1, o2, o3⟩
  obtain ⟨a0, ha0'⟩ : ∃ a0, a0 = tzAb mainName (t :: kt :: nt :: op :: (pt :: cl :: (bd ++ nl :: T4))) := ⟨_, rfl⟩
  have hs1 : Hs y ⟨[{ a0 with cur := t, ts := kt :: nt :: op :: ([pt, cl] ++ (bd ++ nl :: T4)) }], 0, fun _ => none, [], true, []⟩ true _ :=
    .defargs (dead := []) (a := { a0 with cur := t, ts := kt :: nt :: op :: ([pt, cl] ++ (bd ++ nl :: T4)) }) (rest := []) (kt := kt) (nt := nt) (op := op) (pt := [pt, cl]) (bd := bd) (nl := nl) (ts := T4) (P := [p]) ⟨rfl, rfl, by simp, by simp, rfl, congrArg Prod.fst hkk, congrArg Prod.snd hkk, by simp⟩ (fun q hq => by simp at hq; rw [hq]; show a0.istz = true; rw [ha0']; rfl) (congrArg Prod.fst hnk) (by rw [hnx]; omega) rfl (by show 0 < 1000000; omega)
      (congrArg Prod.fst hok) hcol hcb (by rw [← hpx']; exact .name hpk (.close hck)) (by simp) (by simp) (fun q hq => by simp at hq; rw [hq]; omega) hok2 hnlk (by have := congrArg List.length hbd; simp at this; omega)
  have hmac : (fun z => if z = nt.x then some (⟨some [p], bd.map Tok.kx⟩ : Mc) else none) = fun z => if z = name then some (⟨some [p], body.map tokW⟩ : Mc) else none := by
    funext z; rw [hnx, hbd]
  have hno : ∀ w, w ≠ name → (fun z => if z = name then some (⟨some [p], body.map tokW⟩ : Mc) else none) w = none := fun w hw => by simp [hw]
  obtain ⟨s1, hnx1, e1, e2, e3, e4, e6⟩ : ∃ s1, Nx y 0 0 ⟨[a0], 0, fun _ => none, [], true, []⟩ 35 s1 ∧ s1.ab = [{ a0 with cur := nl, ts := T4 }] ∧ (s1.mac = fun z => if z = nt.x then some (⟨some [p], bd.map Tok.kx⟩ : Mc) else none) ∧ s1.ifs = [] ∧ s1.mn = 1 ∧ s1.text = [35] :=
    ⟨_, .hash (s := ⟨[a0], 0, fun _ => none, [], true, []⟩) (dead := []) (a := a0) (rest := []) (t := t) (ts := kt :: nt :: op :: ([pt, cl] ++ (bd ++ nl :: T4))) rfl (by simp) (by rw [ha0']; rfl) (by simp) (congrArg Prod.fst hk) rfl hs1, rfl, rfl, rfl, rfl, rfl⟩
  have hst1 : StT y [⟨35, s1.text, a0.nm, nl.line⟩] ⟨[a0], 0, fun _ => none, [], true, []⟩ s1 :=
    .cons hnx1 (by decide) (by decide) (by decide) (a := { a0 with cur := nl, ts := T4 }) (rest := []) e1 (by simp) .nil
  rw [e6, ha0'] at hst1
  have hat : At s1 mainName [] ((-2, name) :: (40, [40]) :: (arg.map tokW ++ (41, [41]) :: (rest.map tokW ++ (10, [10]) :: []))) (fun z => if z = name then some (⟨some [p], body.map tokW⟩ : Mc) else none) [] 1 :=
    ⟨[], { a0 with cur := nl, ts := T4 }, by rw [e1]; rfl, by simp, by simp, by show a0.istz = true; rw [ha0']; rfl, by show a0.nm = mainName; rw [ha0']; rfl, h6, e2.trans hmac, e3, e4⟩
  obtain ⟨l2, s2, b1, b2, b3⟩ := st_maca (y := y) hat hnl hp hpl (by simp) (fun w hw => ⟨ha w hw, hno w (fun e => na (e ▸ hw)), fun e => a1 (e ▸ hw), fun e => a2 (e ▸ hw), fun e => a3 (e ▸ hw)⟩) ha0 la (fun w hw => ⟨hb w hw, hno w (fun e => nb (e ▸ hw))⟩) hb0 lb
  obtain ⟨l3, s3, c1, c2, c3, _⟩ := st_ws (y := y) (by simp) (by simp) rfl rest s2 (fun w hw => ⟨hr w hw, hno w (fun e => nr (e ▸ hw))⟩) b3
  obtain ⟨l4, s4, d1, d2, d3, _, _⟩ := st_nl (y := y) c3 (by simp) (by simp) rfl
  have hs := hst1.app (b1.app (c1.app d1))
  have hsw : ∀ w ∈ body.flatMap (repW p arg), WordL w := fun w hw => by
    obtain ⟨q, hq, hw⟩ := List.mem_flatMap.1 hw
    unfold repW at hw
    split at hw
    · exact ha w hw
    · simp at hw; rw [hw]; exact hb q hq
  have m2 := congrArg List.length b2
  have m3 := congrArg List.length c2
  have m4 := congrArg List.length d2
  have m5 := repW_len p arg la body
  rw [List.length_map, List.length_map] at m2 m3
  rw [List.length_map] at m4
  have hlen : ([⟨35, [35], (tzAb mainName (t :: kt :: nt :: op :: (pt :: cl :: (bd ++ nl :: T4)))).nm, nl.line⟩] ++ (l2 ++ (l3 ++ l4)) : List Fd).length ≤ 1000 := by
    rw [List.length_append, List.length_append, List.length_append]
    simp at m3 m4 ⊢
    omega
  refine ⟨_, _, s4, _, _, ?_, hs, d3, ?_, hlen, hs.kinds⟩
  · exact h1
  · rw [List.map_append, List.map_append, List.map_append, b2, c2, d2, shown_app, shown_app, shown_app, shown_words hsw, shown_words hr]
    simp [shown, isShown, Fd.kx]
end Go.Proofs.YtpoimmpdncickaaGreatDoor

/- argsFor, invokeMacro: a macro that is used with another number of arguments. -/
namespace Go.Proofs.YtpoimmpdncickaaGreatDoor
open Go Go.RowKit Lex
set_option linter.unusedVariables false
set_option linter.unusedSimpArgs false

section
variable {w w' : World} {B ib : Nat} {C : Cfg} {ab ab' : List Ab} {mn : Nat} {mac : Bs → Option Mc} {ifs : List Bool} {bol : Bool} {text : Bs} {S S' : Nat → Value} {rs rs' : List RS} {ev : Value}

/-- A list of lists of tokens that is being made is written. -/
theorem Inp.rowed3 {E : Nat → Prop} (h : Inp w B ib C ab mn mac ifs bol text) (htz : ∀ a ∈ ab, a.istz = true) (ho : Only E w w') (hE : ∀ k, E k → k < w.heap.size → C.lim ≤ k ∧ Typed w k (· = 113)) : Inp w' B ib C ab mn mac ifs bol text := by
  obtain ⟨S, rs, h⟩ := h
  have hty : ∀ {k : Nat} {P : TypeId → Prop}, Typed w k P → (¬ P 113) → ¬ E k := fun {k P} ht h1 e =>
    typed_ne ht (hE k e ht.lt).2 (fun T a b => h1 (b ▸ a)) rfl
  have hlim : ∀ k, k < C.lim → k < w.heap.size → ¬ E k := fun k h1 h2 e => by have := (hE k e h2).1; omega
  have hb0 : Blk w' ib 73 10 S := h.stk.blk.only ho (hty (h.stk.blk.typed (P := (· = 73)) rfl) (by decide))
  have rowk : ∀ {e : TypeId} {size : Nat} {v : Value} {n : Nat} {xs : List Value} {b : Nat}, w.ownsRow b e size v n xs → (∀ k, v.ownBlock = some k → k < w.heap.size → ¬ E k) → w'.ownsRow b e size v n xs := fun hr hk => ownsRow_only hr (fun k e => by
    have ht := (ownBlock_row hr k e).2
    exact ho.block k ht.lt (hk k e ht.lt))
  have rowt : ∀ {e : TypeId} {size : Nat} {v : Value} {n : Nat} {xs : List Value} {b : Nat}, w.ownsRow b e size v n xs → e ≠ 113 → w'.ownsRow b e size v n xs := fun hr h1 => rowk hr (fun k hk _ => hty (ownBlock_row hr k hk).2 (fun e => h1 e.symm))
  have hr0 : ∀ r ∈ rs, r.ok w' B := fun r hr => by
    obtain ⟨a, ha, hra⟩ := h.abs.mem r hr
    exact Rd.only_tz (h.stk.rds r hr) (hra.2.2.2 (htz a ha)) ho (fun k hk => hty (Rd.foot (h.stk.rds r hr) k hk).2 (by unfold RT; decide))
  have hs : Stk w' B ib S rs := ⟨hb0, h.stk.low, rowt h.stk.row (by decide), hr0, h.stk.apart⟩
  obtain ⟨f, m1, m2, m3⟩ := h.env.mcs
  have hmap : ∀ {b n : Nat} {f : Bs → Option Value}, SMap w b n f → SMap w' b n f := fun hm => hm.of_heap (ho.block _ hm.lt (fun e => hm.not_typed (hE _ e hm.lt).2))
  obtain ⟨nf, hf⟩ := h.env.fis
  have hen : Env w' B S C mn mac ifs := ⟨rowt h.env.ifr (by decide), h.env.mcv, ⟨f, hmap m1, m2, fun x m hx => by
      obtain ⟨b, hb, S2, hb2, ⟨l1, l2, l3⟩, h0, h2, h1⟩ := m3 x m hx
      refine ⟨b, hb, S2, hb2.only ho (hlim b l1 hb2.lt), ⟨l1, l2, l3⟩, h0, rowk h2 (fun k hk hlt => hlim k (l3 k hk) hlt), ?_⟩
      cases hma : m.args with
      | none => rw [hma] at h1; exact h1
      | some l => rw [hma] at h1; exact ⟨h1.1, rowk h1.2 (fun k hk hlt => hlim k (l2 k hk) hlt)⟩⟩, h.env.mlow, h.env.fiv, ⟨nf, hmap hf⟩, h.env.ne, rowk h.env.inv (fun k hk hlt => hlim k (h.env.inl k hk) hlt), h.env.inl⟩
  refine ⟨S, rs, ⟨hs, h.abs, fun r hr => ?_, hen, h.s3, h.s6, h.s7, h.s8, h.s9⟩⟩
  obtain ⟨S2, hb, hn⟩ := h.nms r hr
  exact ⟨S2, hb.only ho (hty (hb.typed (P := (· = 129)) rfl) (by decide)), hn⟩
theorem toks_mt2 (bl : Bool) : ¬ MT2 bl 113 := by cases bl <;> (unfold MT2 MT RT; decide)

/-- Arguments of one word, each with the sign behind it. -/
def ph2 (ps : List (Tok × Tok)) : List Tok := ps.flatMap fun p => [p.1, p.2]
inductive PhA : List (Tok × Tok) → Prop
  | one {t e} : argTok t → e.k = 41 → PhA [(t, e)]
  | cons {t e r} : argTok t → e.k = 44 → PhA r → PhA ((t, e) :: r)

def ALoop (B ib : Nat) (C : Cfg) (a : Ab) (rest : List Ab) (mn : Nat) (mac : Bs → Option Mc) (ifs : List Bool) (bol : Bool) (text : Bs) (N : Nat) (ts : List Tok) (w : World) (n : Nat) (v3 v4 : Value) (wr : World) : Prop :=
  ∃ done rem c xs, v4 = .int .i64 (done : Nat) ∧ wr.ownsRow w.heap.size 113 1 v3 done xs ∧ PhA rem ∧ n = rem.length ∧ done + n = N ∧ Inp wr B ib C ({ a with cur := c, ts := ph2 rem ++ ts } :: rest) mn mac ifs bol text ∧ Soft B C.bl w wr

set_option maxRecDepth 100000 in
set_option maxHeartbeats 4000000 in
theorem argsFor_die {a : Ab} {rest : List Ab} {ps : List (Tok × Tok)} {ts : List Tok} {b L : Nat} {x : Bs} {P : List Bs} {m : Mc} (h : Inp w B ib C (a :: rest) mn mac ifs bol text) (hm : MacAt w L b x m) (hargs : m.args = some P) (hP : 1 ≤ P.length) (hP2 : P.length ≤ 100) (hne : P.length ≠ ps.length) (htz : ∀ q ∈ a :: rest, q.istz = true) (hats : a.ts = ph2 ps ++ ts)
    (hps : PhA ps) (hpl : ps.length ≤ 100) (hxl : x.length ≤ 1000) (hC : C.lim ≤ w.heap.size) (hg : Glob w ev) (hB : 21 ≤ B) (hl : (a :: rest).length < 500) :
    Calls Tryz.prog 76 #[.pointer (some ⟨ib, 0, none⟩), .pointer (some ⟨b, 0, none⟩)] w (DieQ B C.bl w) := by
  obtain ⟨i1, hi, hz0, hz1, hz2⟩ := info_parts infoToks
  have H0 := Lib.hid h
  have Hm := Lib.hid hm
  have Hargs := Lib.hid hargs
  have Htz := Lib.hid htz
  have Hats := Lib.hid hats
  have Hps := Lib.hid hps
  have Hg := Lib.hid hg
  have hl2 : ∀ q : Ab, (q :: rest).length < 500 := fun q => by simpa using hl
  have Hl2 := Lib.hid hl2
  have hxs := mkS_size x
  obtain ⟨pl, hpl'⟩ : ∃ q, q = P.length := ⟨_, rfl⟩
  have Hpl := Lib.hid hpl'
  rw [← hpl'] at hP hP2 hne
  obtain ⟨N, hN⟩ : ∃ q, q = ps.length := ⟨_, rfl⟩
  rw [← hN] at hne hpl
  have HN := Lib.hid hN
  have Hne := Lib.hid hne
  clear h hm hargs htz hats hps hg hl hl2 hpl' hN hne
  go_enter Tryz.func76, Tryz.ntmps76
  go_wp2
  go_loopg [5, 6] N (fun n v5 v6 wr => ALoop B ib C a rest mn mac ifs bol text N ts w n v5 v6 wr)
  case atStart => exact ⟨0, ps, a.cur, [], rfl, World.ownsRow_nil _ _ _ _, Hps.out, HN.out, by omega, by have := H0.out; rw [show ({ a with cur := a.cur, ts := ph2 ps ++ ts } : Ab) = a by rw [← Hats.out]]; exact this, Soft.refl _ _ _⟩
  case round =>
    obtain ⟨done, rem, c, xs, rfl, hown, hph, hn, hdn, hI, hS⟩ := hrel
    have hgl := hS.glob Hg.out hB
    have hd100 : done ≤ 100 := by omega
    have hwr : w.heap.size ≤ wr.heap.size := hS.size
    cases hph with
    | @one t e ha he => as_aux_lemma =>
      have hco := collect_plain (mp := .pointer (some ⟨b, 0, none⟩)) (body := [t]) (e := e) (ts := ts) hI (tz_mem Htz.out) rfl (by intro q hq; simp at hq; rw [hq]; exact ha) (.inl he) (by simp) (Nat.le_trans hC hwr) hgl hB (Hl2.out _)
      rw [he] at hco
      have Hco := Lib.hid hco
      have Hown := Lib.hid hown
      have HS := Lib.hid hS
      have Hwr := Lib.hid hwr
      have HdN : Hid (done + 1 = N) := Lib.hid (by simp at hn; omega)
      clear hco hown hS hgl hI ha he hn hdn hwr H0 Hps Hats
      go_wp2_with fail
      refine Hco.out.mono ?_
      rintro e' w1 ⟨ta, tl, tc, rfl, hrow, h1, s1⟩
      have Hown1 := Lib.hid (s1.row Hown.out (toks_mt2 _))
      have H1 := Lib.hid h1
      have S1 := Lib.hid (HS.out.trans s1)
      have Hsz1 := Lib.hid (Nat.le_trans Hwr.out s1.size)
      clear h1 s1 hrow
      go_wp2_with (at_builtin; refine wpList_append_own _ rfl _ _ 163 rfl w.heap.size 113 i1 (.slice none 0 0) 1 24 Tryz.underlying163 hi hz0 hz1 hz2 rfl (by decide) _ _ _ rfl (Hown1.out.alloc _) ⟨w1.heap.size, 0, none⟩ 1 1 [.slice ta tl tc] rfl rfl ?c1 ?c2 ?c3 ?c4 ?c5 ?_)
      case c1 => exact cellOneI w1 _ _
      case c2 => intro u hu; simp at hu; subst hu; rfl
      case c3 => unfold maxLen; omega
      case c4 => omega
      case c5 => have := Hsz1.out; simp; omega
      intro v' w2 hown2 hgrow _
      obtain ⟨g9, c9, rfl⟩ : ∃ g9 c9, v' = .slice (some ⟨g9, 0, none⟩) (done + 1) c9 := by
        obtain ⟨_, ⟨_, h0⟩ | ⟨g, cap, cur, e, _⟩⟩ := hown2
        · omega
        · exact ⟨g, cap, e⟩
      have HI2 : Hid (Inp w2 B ib C ({ a with cur := e, ts := ts } :: rest) mn mac ifs bol text) := Lib.hid (by
        have h1 := H1.out.below ((Below.refl w1.heap.size w1).alloc (Nat.le_refl _) (.cells #[.slice ta tl tc] 113))
        refine h1.rowed3 (fun q hq => tz_mem Htz.out q hq) ((Only.refl (fun k => u5.ownBlock = some k) _).grown hgrow (fun k hk _ => hk)) (fun k hk _ => ?_)
        have hr := ownBlock_row (Hown1.out.alloc (.cells #[.slice ta tl tc] 113)) k hk
        exact ⟨by have := hr.1; omega, hr.2⟩)
      have HS2 : Hid (Soft B C.bl w w2) := Lib.hid ((S1.out.trans (Soft.ofBelow ((Below.refl w1.heap.size w1).alloc (Nat.le_refl _) (.cells #[.slice ta tl tc] 113)))).new ((Only.refl (fun k => u5.ownBlock = some k) _).grown hgrow (fun k hk _ => hk)) (fun k hk => (Hown1.out.lt k hk).1))
      have Hown2 := Lib.hid hown2
      clear hown2 hgrow
      obtain ⟨aa, ac, kb0, kb1, _⟩ := (Hm.out.soft HS2.out).argc Hargs.out
      rw [← Hpl.out] at kb1
      obtain ⟨dn, hdn⟩ : ∃ q, q = done + 1 := ⟨_, rfl⟩
      have hdN := HdN.out
      rw [← hdn] at hdN ⊢
      have hp0 : ((pl : Int) == 0) = false := by simp; omega
      have hnq : ((dn : Int) == (pl : Int)) = false := by have := Hne.out; simp; omega
      have hnq2 : ((dn : Int) != (pl : Int)) = true := by simp [bne, hnq]
      have HE := Lib.hid (fun (z : ByteArray) (hz : z.size ≤ 1000) => inErrTwo (x := z) (y := mkS x) HI2.out (Hl2.out _) hz (by omega))
      clear Hown1 H1 S1 Hco hdN HdN HI2
      go_wp2_with fail
      refine (HE.out _ (by decide)).mono ?_
      rintro e' w3 ⟨⟨g, rfl⟩, s3⟩
      have Hfin := Lib.hid (HS2.out.trans s3)
      clear s3
      go_wp2
      exact ⟨rfl, ⟨g, rfl⟩, Hfin.out⟩
    | @cons t e r ha he hr => as_aux_lemma =>
      have hco := collect_plain (mp := .pointer (some ⟨b, 0, none⟩)) (body := [t]) (e := e) (ts := ph2 r ++ ts) hI (tz_mem Htz.out) rfl (by intro q hq; simp at hq; rw [hq]; exact ha) (.inr he) (by simp) (Nat.le_trans hC hwr) hgl hB (Hl2.out _)
      rw [he] at hco
      have Hco := Lib.hid hco
      have Hown := Lib.hid hown
      have HS := Lib.hid hS
      have Hwr := Lib.hid hwr
      have Hr := Lib.hid hr
      have Hn := Lib.hid hn
      have Hdn := Lib.hid hdn
      clear hco hown hS hgl hI ha he hr hn hdn hwr H0 Hps Hats
      go_wp2_with fail
      refine Hco.out.mono ?_
      rintro e' w1 ⟨ta, tl, tc, rfl, hrow, h1, s1⟩
      have Hown1 := Lib.hid (s1.row Hown.out (toks_mt2 _))
      have H1 := Lib.hid h1
      have S1 := Lib.hid (HS.out.trans s1)
      have Hsz1 := Lib.hid (Nat.le_trans Hwr.out s1.size)
      clear h1 s1 hrow
      go_wp2_with (at_builtin; refine wpList_append_own _ rfl _ _ 163 rfl w.heap.size 113 i1 (.slice none 0 0) 1 24 Tryz.underlying163 hi hz0 hz1 hz2 rfl (by decide) _ _ _ rfl (Hown1.out.alloc _) ⟨w1.heap.size, 0, none⟩ 1 1 [.slice ta tl tc] rfl rfl ?c1 ?c2 ?c3 ?c4 ?c5 ?_)
      case c1 => exact cellOneI w1 _ _
      case c2 => intro u hu; simp at hu; subst hu; rfl
      case c3 => unfold maxLen; omega
      case c4 => omega
      case c5 => have := Hsz1.out; simp; omega
      intro v' w2 hown2 hgrow _
      obtain ⟨g9, c9, rfl⟩ : ∃ g9 c9, v' = .slice (some ⟨g9, 0, none⟩) (done + 1) c9 := by
        obtain ⟨_, ⟨_, h0⟩ | ⟨g, cap, cur, e, _⟩⟩ := hown2
        · omega
        · exact ⟨g, cap, e⟩
      have HI2 : Hid (Inp w2 B ib C ({ a with cur := e, ts := ph2 r ++ ts } :: rest) mn mac ifs bol text) := Lib.hid (by
        have h1 := H1.out.below ((Below.refl w1.heap.size w1).alloc (Nat.le_refl _) (.cells #[.slice ta tl tc] 113))
        refine h1.rowed3 (fun q hq => tz_mem Htz.out q hq) ((Only.refl (fun k => u5.ownBlock = some k) _).grown hgrow (fun k hk _ => hk)) (fun k hk _ => ?_)
        have hr := ownBlock_row (Hown1.out.alloc (.cells #[.slice ta tl tc] 113)) k hk
        exact ⟨by have := hr.1; omega, hr.2⟩)
      have HS2 : Hid (Soft B C.bl w w2) := Lib.hid ((S1.out.trans (Soft.ofBelow ((Below.refl w1.heap.size w1).alloc (Nat.le_refl _) (.cells #[.slice ta tl tc] 113)))).new ((Only.refl (fun k => u5.ownBlock = some k) _).grown hgrow (fun k hk _ => hk)) (fun k hk => (Hown1.out.lt k hk).1))
      have Hown2 := Lib.hid hown2
      clear hown2 hgrow
      have e3 : IntKind.i64.wrap ((done : Int) + 1) = (done : Int) + 1 := IntWalk.i64_in _ (by omega)
      have hrel : ALoop B ib C a rest mn mac ifs bol text N ts w r.length (.slice (some ⟨g9, 0, none⟩) (done + 1 : Nat) c9) (.int .i64 ((done + 1 : Nat) : Int)) w2 :=
        ⟨done + 1, r, e, _, rfl, Hown2.out, Hr.out, rfl, by have := Hn.out; have := Hdn.out; simp at *; omega, HI2.out, HS2.out⟩
      have Hrel := Lib.hid hrel
      have hgk : r.length < gk := by have := Hn.out; simp at this; omega
      clear Hown1 H1 S1 Hco HI2 HS2 Hown2 hrel
      go_wp2
      go_roundg r.length
      case measure => exact hgk
      case rel => exact Hrel.out

set_option maxRecDepth 100000 in
set_option maxHeartbeats 2000000 in
theorem invoke_die {a : Ab} {rest : List Ab} {op : Tok} {ps : List (Tok × Tok)} {ts : List Tok} {b L : Nat} {x : Bs} {P : List Bs} {m : Mc} (h : Inp w B ib C (a :: rest) mn mac ifs bol text) (hm : MacAt w L b x m) (hargs : m.args = some P) (hP : 1 ≤ P.length) (hP2 : P.length ≤ 100) (hne : P.length ≠ ps.length) (htz : ∀ q ∈ a :: rest, q.istz = true) (hats : a.ts = op :: (ph2 ps ++ ts))
    (hop : op.k = 40) (hps : PhA ps) (hpl : ps.length ≤ 100) (hxl : x.length ≤ 1000) (hC : C.lim ≤ w.heap.size) (hg : Glob w ev) (hB : 21 ≤ B) (hl : (a :: rest).length < 500) :
    Calls Tryz.prog 53 #[.pointer (some ⟨ib, 0, none⟩), .pointer (some ⟨b, 0, none⟩)] w (DieQ B C.bl w) := by
  have Hn := Lib.hid (inNext (dead := []) (t := op) (ts := ph2 ps ++ ts) h (fun _ h => by cases h) hats hg hB (by simpa using hl))
  rw [hop] at Hn
  have Harg := Lib.hid (fun (w1 : World) (h1 : Inp w1 B ib C ({ a with cur := op, ts := ph2 ps ++ ts } :: rest) mn mac ifs bol text) (hm1 : MacAt w1 L b x m) (hC1 : C.lim ≤ w1.heap.size) (hg1 : Glob w1 ev) => argsFor_die h1 hm1 hargs hP hP2 hne (tz_mem htz) rfl hps hpl hxl hC1 hg1 hB (by simpa using hl))
  obtain ⟨aa, ac, kb0, kb1, _⟩ := hm.argc hargs
  have hsn := fun (W : World) (ad : Addr) (l c : Nat) => Lib.run_eql_slice_some_nil (P := Tryz.prog) W ad l c Tryz.underlying22
  have Hm := Lib.hid hm
  have Hg := Lib.hid hg
  clear h hm hargs htz hats hop hps hg hl hne
  go_enter Tryz.func53, Tryz.ntmps53
  go_wp2_with fail
  refine Hn.out.mono ?_
  rintro e' w1 ⟨rfl, h1, s1⟩
  have Ha1 := Lib.hid (Harg.out w1 h1 (Hm.out.soft s1) (Nat.le_trans hC s1.size) (s1.glob Hg.out hB))
  have S1 := Lib.hid s1
  clear h1 s1 kb0 kb1 Hn Harg
  go_wp2_with fail
  refine Ha1.out.mono ?_
  rintro e' w2 ⟨⟨g, rfl⟩, s2⟩
  have Hfin := Lib.hid (S1.out.trans s2)
  clear s2
  go_wp2
  exact ⟨rfl, ⟨g, rfl⟩, Hfin.out⟩
end
end Go.Proofs.YtpoimmpdncickaaGreatDoor

/- A macro with arguments that is used with another number of them; plain lists. -/
namespace Go.Proofs.YtpoimmpdncickaaGreatDoor
open Go Go.RowKit Lex Go.Proofs.YtpoimmpdncickaaGreatDoorW.PrintWords Go.Proofs.YtpoimmpdncickaaGreatDoor.PHelp
set_option linter.unusedVariables false
set_option linter.unusedSimpArgs false

/-- Ones with a comma and a blank between them. -/
def oneB (g : Nat) : Bs := parB (List.replicate g [49])
def oneTok : Nat → List (Int × Bs)
  | 0 => [(41, [41])]
  | 1 => [(-3, [49]), (41, [41])]
  | n + 2 => (-3, [49]) :: (44, [44]) :: oneTok (n + 1)

theorem next_one {p : Bs} (hp : blanks p) {s : UInt8} (hs : s = 41 ∨ s = 44) (r : Bs) : TNext (p ++ ([49] ++ s :: r)) (-3) [49] (p ++ [49]) (s :: r) :=
  .one hp (.dec (c := 49) (x := []) (by decide) (by decide) (by decide) (fun c hc => by simp at hc; subst hc; rcases hs with rfl | rfl <;> decide)) (by decide) (by decide) (by intro d n e; cases e)

theorem pc_ones : ∀ g, 1 ≤ g → ∀ {p tail : Bs} {ts : List (Int × Bs)}, blanks p → Pc tail ts → Pc (p ++ (oneB g ++ 41 :: tail)) (oneTok g ++ ts)
  | 0, h, _, _, _, _, _ => absurd h (by omega)
  | 1, _, p, tail, ts, hb, h => .cons (next_one hb (.inl rfl) tail) (by decide) (pc_sign (c := 41) (p := []) (by decide) rfl (by intro b h; cases h) h)
  | g + 2, _, p, tail, ts, hb, h => by
    have ih := pc_ones (g + 1) (by omega) (p := [32]) blanks_one h
    have e : p ++ (oneB (g + 2) ++ 41 :: tail) = p ++ ([49] ++ 44 :: ([32] ++ (oneB (g + 1) ++ 41 :: tail))) := by simp [oneB, List.replicate, parB]
    rw [e]
    exact .cons (next_one hb (.inr rfl) _) (by decide) (pc_sign (c := 44) (p := []) (by decide) rfl (by intro b h; cases h) ih)

theorem one_arg {t : Tok} (hk : t.k = -3) (hx : t.x = [49]) : argTok t :=
  ⟨⟨by rw [hx]; unfold ascii; decide, by rw [hx]; decide, by rw [hx]; decide⟩, by omega, by omega, by omega, by omega, by omega, by omega⟩

theorem pairs_of : ∀ g, 1 ≤ g → ∀ {T : List Tok} {ts : List (Int × Bs)}, T.map Tok.kx = oneTok g ++ ts → ∃ ps T', T = ph2 ps ++ T' ∧ PhA ps ∧ ps.length = g ∧ T'.map Tok.kx = ts
  | 0, h, _, _, _ => absurd h (by omega)
  | 1, _, T, ts, h => by
    obtain ⟨t, T1, e1, hk, hx, h2⟩ := kx_cons h
    obtain ⟨e, T2, e2, hek, hex, h3⟩ := kx_cons h2
    subst e2 e1
    exact ⟨[(t, e)], T2, rfl, .one (one_arg hk hx) hek, rfl, h3⟩
  | g + 2, _, T, ts, h => by
    obtain ⟨t, T1, e1, hk, hx, h2⟩ := kx_cons h
    obtain ⟨e, T2, e2, hek, hex, h3⟩ := kx_cons h2
    obtain ⟨ps, T', e3, p1, p2, p3⟩ := pairs_of (g + 1) (by omega) h3
    subst e3 e2 e1
    exact ⟨(t, e) :: ps, T', rfl, .cons (one_arg hk hx) hek p1, by simp [p2], p3⟩

def p0B : Bs := [95, 112, 48]
theorem pn_p0 : PName p0B := ⟨95, [112, 48], by decide, by decide, by decide⟩
/-- The file. -/
def wrongF (name : Bs) (ps : List Bs) (g : Nat) : Bs := 35 :: (kwDefine ++ 32 :: (name ++ 40 :: (parB ps ++ 41 :: 32 :: (p0B ++ 10 :: (name ++ 40 :: (oneB g ++ 41 :: 10 :: []))))))

theorem die_args {B ib : Nat} {C : Cfg} {ev : Value} {s : Sg} {nm : ByteArray} {R : List (Int × Bs)} {mac : Bs → Option Mc} {mn g : Nat} {name : Bs} {ps : List Bs} {m : Mc} (h : At s nm [] ((-2, name) :: (40, [40]) :: (oneTok g ++ R)) mac [] mn) (hnl : name.length ≤ 60) (hm : mac name = some m) (hma : m.args = some ps) (hp1 : 1 ≤ ps.length) (hp5 : ps.length ≤ 100) (hg1 : 1 ≤ g) (hg5 : g ≤ 100) (hne : ps.length ≠ g) (hB : 21 ≤ B) : NxD B ib C ev 0 s := by
  obtain ⟨dead, a, q1, q2, q3, q4, q5, q6, q7, q8, q9⟩ := h
  obtain ⟨t, T1, hT, hk, hx, h2⟩ := kx_cons q6
  obtain ⟨op, T2, e2, hok, hox, h3⟩ := kx_cons h2
  obtain ⟨prs, T3, e3, p1, p2, p3⟩ := pairs_of g hg1 h3
  subst e3 e2
  have hx' : t.x = name := hx
  refine .inva (dead := dead) (a := a) (rest := []) (t := t) (ts := op :: (ph2 prs ++ T3)) (m := m) q1 q3 hT (by simp; omega) hk (by rw [hx']; omega) (by rw [q7, hx']; exact hm) (fun w L b hL hI hmm hgl => ?_)
  exact invoke_die (C := { C with lim := L }) (a := { a with cur := t, ts := op :: (ph2 prs ++ T3) }) (rest := []) (ps := prs) (ts := T3) hI hmm hma hp1 hp5 (by omega) (fun q hq => by simp at hq; rw [hq]; exact q4) rfl hok p1 (by omega) (by rw [hx']; omega) hL hgl hB (by simp)

theorem wrongargs_told (y : Wy) {name : Bs} {ps : List Bs} {g : Nat} (hn : PName name) (hnl : name.length ≤ 60) (hp : ∀ p ∈ ps, PName p ∧ p.length ≤ 60) (hnd : ps.Nodup) (hp1 : 1 ≤ ps.length) (hp5 : ps.length ≤ 5) (hg1 : 1 ≤ g) (hg5 : g ≤ 5) (hne : ps.length ≠ g) : DieT y (wrongF name ps g) := by
  have hbl : blanks [] := by intro b h; cases h
  have hp0 : ps ≠ [] := fun e => by rw [e] at hp1; simp at hp1
  have r1 := pc_ones g hg1 (p := []) hbl (pc_nl (p := []) hbl .nil)
  have r3 := pc_nm hn hnl (s := 40) (by decide) hbl (pc_sign (c := 40) (p := []) (by decide) rfl hbl r1)
  have r4 := pc_nm pn_p0 (by decide) (s := 10) (by decide) blanks_one (pc_nl (p := []) hbl r3)
  have r5 := pc_par ps hp0 hp (p := []) hbl r4
  obtain ⟨t, kt, nt, op, T, h1, hk, hkk, hnk, hok, hcol, hcb, h2⟩ := tl_open hn hnl r5 1 1 (by omega)
  obtain ⟨pt, T1, e1, hpt, h3⟩ := List.map_eq_append_iff.1 h2
  obtain ⟨bt, T2, e2, hbk, hbx, h4⟩ := kx_cons h3
  obtain ⟨nl, T4, e3, hnlk, hnlx, h6⟩ := kx_cons h4
  subst e3 e2 e1
  have hnx : nt.x = name := congrArg Prod.snd hnk
  have hbx' : bt.x = p0B := hbx
  have hok2 : ∀ q ∈ [bt], okTok q ∧ q.k ≠ 10 ∧ q.k ≠ 92 ∧ q.k ≠ -1 ∧ q.k ≠ 0 := fun q hq => by
    simp at hq
    subst hq
    exact ⟨⟨by rw [hbx']; unfold ascii; decide, by rw [hbx']; decide, by rw [hbx']; decide⟩, by omega, by omega, by omega, by omega⟩
  obtain ⟨a0, ha0'⟩ : ∃ a0, a0 = tzAb mainName (t :: kt :: nt :: op :: (pt ++ bt :: nl :: T4)) := ⟨_, rfl⟩
  have hs1 : Hs y ⟨[{ a0 with cur := t, ts := kt :: nt :: op :: (pt ++ ([bt] ++ nl :: T4)) }], 0, fun _ => none, [], true, []⟩ true _ :=
    .defargs (dead := []) (a := { a0 with cur := t, ts := kt :: nt :: op :: (pt ++ ([bt] ++ nl :: T4)) }) (rest := []) (kt := kt) (nt := nt) (op := op) (pt := pt) (bd := [bt]) (nl := nl) (ts := T4) (P := ps) ⟨rfl, rfl, by simp, by simp, rfl, congrArg Prod.fst hkk, congrArg Prod.snd hkk, by simp⟩ (fun q hq => by simp at hq; rw [hq]; show a0.istz = true; rw [ha0']; rfl) (congrArg Prod.fst hnk) (by rw [hnx]; omega) rfl (by show 0 < 1000000; omega)
      (congrArg Prod.fst hok) hcol hcb (ph_of ps hp0 hpt) hnd (by omega) (fun q hq => by have := (hp q hq).2; omega) hok2 hnlk (by simp)
  obtain ⟨s1, hnx1, e1, e2, e3, e4, e6⟩ : ∃ s1, Nx y 0 0 ⟨[a0], 0, fun _ => none, [], true, []⟩ 35 s1 ∧ s1.ab = [{ a0 with cur := nl, ts := T4 }] ∧ (s1.mac = fun z => if z = nt.x then some (⟨some ps, [bt].map Tok.kx⟩ : Mc) else none) ∧ s1.ifs = [] ∧ s1.mn = 1 ∧ s1.text = [35] :=
    ⟨_, .hash (s := ⟨[a0], 0, fun _ => none, [], true, []⟩) (dead := []) (a := a0) (rest := []) (t := t) (ts := kt :: nt :: op :: (pt ++ ([bt] ++ nl :: T4))) rfl (by simp) (by rw [ha0']; rfl) (by simp) (congrArg Prod.fst hk) rfl hs1, rfl, rfl, rfl, rfl, rfl⟩
  have hst1 : StT y [⟨35, s1.text, a0.nm, nl.line⟩] ⟨[a0], 0, fun _ => none, [], true, []⟩ s1 :=
    .cons hnx1 (by decide) (by decide) (by decide) (a := { a0 with cur := nl, ts := T4 }) (rest := []) e1 (by simp) .nil
  rw [ha0'] at hst1
  have hat : At s1 mainName [] ((-2, name) :: (40, [40]) :: (oneTok g ++ [(10, [10])])) (fun z => if z = nt.x then some (⟨some ps, [bt].map Tok.kx⟩ : Mc) else none) [] 1 :=
    ⟨[], { a0 with cur := nl, ts := T4 }, by rw [e1]; rfl, by simp, by simp, by show a0.istz = true; rw [ha0']; rfl, by show a0.nm = mainName; rw [ha0']; rfl, h6, e2, e3, e4⟩
  refine ⟨_, _, s1, ?_, hst1, fun B ib C ev hB _ _ => ⟨0, die_args hat hnl (m := ⟨some ps, [bt].map Tok.kx⟩) (by simp [hnx]) rfl hp1 (by omega) hg1 (by omega) hne hB⟩, by simp, hst1.kinds⟩
  exact h1
/-- The names of the arguments, and what is written between the brackets. -/
def pNm (j : Nat) : Bs := [95, 112, UInt8.ofNat (48 + j)]
def pNs (n : Nat) : List Bs := (List.range n).map pNm
def parP (n : Nat) : Bs := parB (pNs n)
theorem parP_step : ∀ n, n < 5 → parP (n + 1) = parP n ++ ((if n = 0 then [] else [44, 32]) ++ pNm n) := by decide
theorem oneB_step : ∀ n, n < 5 → oneB (n + 1) = oneB n ++ ((if n = 0 then [] else [44, 32]) ++ [49]) := by decide
theorem parP_small : ∀ n, n < 6 → (parP n).length ≤ 30 ∧ (parP n).all (fun c => decide (c < 128)) = true := by decide
theorem oneB_small : ∀ n, n < 6 → (oneB n).length ≤ 30 ∧ (oneB n).all (fun c => decide (c < 128)) = true := by decide
theorem ascii_all {x : Bs} (h : x.all (fun c => decide (c < 128)) = true) : ascii x := fun c hc => by
  have := List.all_eq_true.1 h c hc
  simpa using this
theorem pNs_nodup : ∀ n, n < 6 → (pNs n).Nodup := by decide
theorem pNs_len (n : Nat) : (pNs n).length = n := by simp [pNs]
theorem pNm_ok : ∀ j, j < 5 → isLet 95 = true ∧ isIdc 112 = true ∧ isIdc (UInt8.ofNat (48 + j)) = true := by decide
theorem pNs_name {n : Nat} (h : n < 6) : ∀ p ∈ pNs n, PName p ∧ p.length ≤ 60 := fun p hp => by
  obtain ⟨j, hj, rfl⟩ := List.mem_map.1 hp
  have hj5 : j < 5 := by have := List.mem_range.1 hj; omega
  obtain ⟨h1, h2, h3⟩ := pNm_ok j hj5
  refine ⟨⟨95, [112, UInt8.ofNat (48 + j)], rfl, h1, fun b hb => ?_⟩, by simp [pNm]⟩
  rcases List.mem_cons.1 hb with rfl | hb
  · exact h2
  rcases List.mem_cons.1 hb with rfl | hb
  · exact h3
  · cases hb
theorem enc_dig : ∀ j, j < 5 → (Utf8.encode ((48 : Int) + ((j : Nat) : Int))).data.toList = [UInt8.ofNat (48 + j)] := by decide
theorem enc_mk {j : Nat} (h : j < 5) : Utf8.encode ((48 : Int) + (j : Int)) = mkS [UInt8.ofNat (48 + j)] := by
  apply ByteArray.ext
  apply Array.toList_inj.1
  rw [enc_dig j h]
  simp [mkS]

def WLoop (M G : Nat) (w : World) (n : Nat) (vi vp va : Value) (wr : World) : Prop :=
  ∃ i m, vi = .int .i64 (i : Nat) ∧ vp = .string (mkS (parP (min i M))) ∧ va = .string (mkS (oneB (min i G))) ∧ i + n = max M G ∧ wr = w.drewN m

section
variable {w : World} {ev : Value} {b0 : Bs} {i1 : Int} {i2 : Int}
set_option maxRecDepth 100000 in
set_option maxHeartbeats 4000000 in
theorem wrongargs_law (hi1 : IntKind.i64.wrap i1 = i1) (hi2 : IntKind.i64.wrap i2 = i2) (hg : Glob w ev) (hB : 21 ≤ w.heap.size) :
    Calls Tryz.prog 5 #[.string (mkS b0), .int .i64 i1, .int .i64 i2] w (LawQ w) := by
  have Hfin := Lib.hid (lawq_drewN w)
  have Hg := Lib.hid hg
  have s0 := mkS_size b0
  obtain ⟨n0, e0⟩ : ∃ n, n = b0.length := ⟨_, rfl⟩
  rw [← e0] at s0
  have N0 := Lib.hid e0
  clear hg e0
  go_enter Tryz.func5, Tryz.ntmps5
  change Code.wp _ _ _ _ (w.drewN 0)
  rcases Nat.lt_or_ge 2147483647 n0 with hz0 | hz0
  · go_wp2
    go_ret
    exact Hfin.out _
  obtain ⟨t0, z0, y0⟩ := plain_f b0 (by rw [← N0.out]; exact hz0)
  have G := Lib.hid (gd_plain (w := w) z0)
  have Y := Lib.hid y0
  clear z0 y0
  go_wp2_with fail
  refine (G.out _).mono ?_
  rintro e u1 ⟨rfl, j1, rfl⟩
  clear G
  cases t0 with
  | false => go_wp2; go_ret; exact Hfin.out _
  | true =>
  have X0 : Hid (PName b0) := Lib.hid (Y.out (by first | rfl | trivial)).2
  clear Y
  rcases Nat.lt_or_ge 60 n0 with h60 | h60_0
  · go_wp2
    go_ret
    exact Hfin.out _
  rcases Int.lt_or_le i1 (1) with hlo1 | hlo1
  · go_wp2
    go_ret
    exact Hfin.out _
  have hlp1 : ¬ i1 < (1 : Int) := by omega
  rcases Int.lt_or_le 5 i1 with hhi1 | hhi1
  · go_wp2
    go_ret
    exact Hfin.out _
  have hhp1 : ¬ (5 : Int) < i1 := by omega
  rcases Int.lt_or_le i2 (1) with hlo2 | hlo2
  · go_wp2
    go_ret
    exact Hfin.out _
  have hlp2 : ¬ i2 < (1 : Int) := by omega
  rcases Int.lt_or_le 5 i2 with hhi2 | hhi2
  · go_wp2
    go_ret
    exact Hfin.out _
  have hhp2 : ¬ (5 : Int) < i2 := by omega
  have hn0 : b0.length ≤ 60 := by rw [← N0.out]; exact h60_0
  obtain ⟨M, rfl⟩ : ∃ M : Nat, i1 = M := ⟨i1.toNat, by omega⟩
  obtain ⟨G, rfl⟩ : ∃ G : Nat, i2 = G := ⟨i2.toNat, by omega⟩
  obtain ⟨te, heq⟩ : ∃ r, (((M : Nat) : Int) == ((G : Nat) : Int)) = r := ⟨_, rfl⟩
  cases te with
  | true => go_wp2; go_ret; exact Hfin.out _
  | false =>
  have hne : M ≠ G := fun e => by rw [e] at heq; simp at heq
  have hM1 : 1 ≤ M := by omega
  have hM5 : M ≤ 5 := by omega
  have hG1 : 1 ≤ G := by omega
  have hG5 : G ≤ 5 := by omega
  have hx : (⟨#[35, 100, 101, 102, 105, 110, 101, 32]⟩ ++ mkS b0 ++ ⟨#[40]⟩ ++ mkS (parP M) ++ ⟨#[41, 32, 95, 112, 48, 10]⟩ ++ mkS b0 ++ ⟨#[40]⟩ ++ mkS (oneB G) ++ ⟨#[41, 10]⟩ : ByteArray) = mkS (wrongF b0 (pNs M) G) := by
    have e0 : (⟨#[35, 100, 101, 102, 105, 110, 101, 32]⟩ : ByteArray) = mkS [35, 100, 101, 102, 105, 110, 101, 32] := rfl
    have e1 : (⟨#[40]⟩ : ByteArray) = mkS [40] := rfl
    have e2 : (⟨#[41, 32, 95, 112, 48, 10]⟩ : ByteArray) = mkS [41, 32, 95, 112, 48, 10] := rfl
    have e3 : (⟨#[41, 10]⟩ : ByteArray) = mkS [41, 10] := rfl
    rw [e0, e1, e2, e3]
    simp only [mkS_app]
    congr 1
    simp [wrongF, parP, p0B, kwDefine]
  obtain ⟨hpl, hpa⟩ := parP_small M (by omega)
  obtain ⟨hol, hoa⟩ := oneB_small G (by omega)
  have hlen : (wrongF b0 (pNs M) G).length ≤ 5000 := by
    have e1 : (parB (pNs M)).length ≤ 30 := hpl
    unfold wrongF p0B
    simp only [List.length_cons, List.length_append, List.length_nil]
    have : kwDefine.length = 6 := rfl
    omega
  have hnil : ascii [] := by intro b h; cases h
  have hasc : ascii (wrongF b0 (pNs M) G) :=
    ascii_cons (by decide) (ascii_app (by unfold ascii; decide) (ascii_cons (by decide) (ascii_app X0.out.ascii (ascii_cons (by decide) (ascii_app (ascii_all hpa) (ascii_cons (by decide) (ascii_cons (by decide) (ascii_app (by unfold ascii; decide) (ascii_cons (by decide) (ascii_app X0.out.ascii (ascii_cons (by decide) (ascii_app (ascii_all hoa) (ascii_cons (by decide) (ascii_cons (by decide) hnil))))))))))))))
  have GF : Hid (∀ k, Calls Tryz.prog 21 #[.string (mkS (wrongF b0 (pNs M) G))] (w.drewN k) (LawQ w)) := Lib.hid (fun k => by
    refine (fails_true (w := w.drewN k) (text := wrongF b0 (pNs M) G) (wrongargs_told _ X0.out hn0 (pNs_name (by omega)) (pNs_nodup M (by omega)) (by rw [pNs_len]; exact hM1) (by rw [pNs_len]; exact hM5) hG1 hG5 (by rw [pNs_len]; exact hne)) hasc (by omega) (Hg.out.only (Only.ofBelow (below_drewN (Below.refl w.heap.size w) k)) (fun k hk e => by omega)) hB).mono ?_
    rintro e w' ⟨rfl, hb⟩
    exact ⟨rfl, (below_drewN (Below.refl _ _) k).trans hb⟩)
  have hmax : max (M : Int) (G : Int) = ((max M G : Nat) : Int) := by omega
  obtain ⟨mx, hmx⟩ : ∃ q, q = max M G := ⟨_, rfl⟩
  rw [← hmx] at hmax
  have HX := Lib.hid hx
  have HMX := Lib.hid hmx
  have hst : WLoop M G w mx (.int .i64 0) (.string ⟨#[]⟩) (.string ⟨#[]⟩) (w.drewN j1) := ⟨0, j1, rfl, by rw [Nat.zero_min]; rfl, by rw [Nat.zero_min]; rfl, by omega, rfl⟩
  have Hst := Lib.hid hst
  clear hx hlen hnil hasc hpl hpa hol hoa hne hst hmx hn0
  go_wp2
  go_loopg [46, 7, 8] mx (fun n v8 v4 v5 wr => WLoop M G w n v8 v4 v5 wr)
  case atStart => exact Hst.out
  case round =>
    clear Hst
    obtain ⟨i, m, rfl, rfl, rfl, hin, rfl⟩ := hrel
    have hmM := HMX.out
    have hi5 : i ≤ 5 := by omega
    have lp := (parP_small (min i M) (by omega)).1
    have lo := (oneB_small (min i G) (by omega)).1
    obtain ⟨P, hP⟩ : ∃ q, q = parP (min i M) := ⟨_, rfl⟩
    obtain ⟨Q, hQ⟩ : ∃ q, q = oneB (min i G) := ⟨_, rfl⟩
    rw [← hP] at lp ⊢
    rw [← hQ] at lo ⊢
    have sp := mkS_size P
    have so := mkS_size Q
    obtain ⟨pn, hpn⟩ : ∃ q, q = P.length := ⟨_, rfl⟩
    obtain ⟨on, hon⟩ : ∃ q, q = Q.length := ⟨_, rfl⟩
    rw [← hpn] at sp lp
    rw [← hon] at so lo
    rcases Nat.lt_or_ge i mx with hlt | hge
    rotate_left
    · have hlt2 : ¬ (i : Int) < (mx : Int) := by omega
      have e1 : min i M = M := by omega
      have e2 : min i G = G := by omega
      rw [e1] at hP
      rw [e2] at hQ
      clear e1 e2 hpn hon hin hmM hge
      subst hP hQ
      go_wp2_with fail
      rw [HX.out]
      refine (GF.out _).mono ?_
      rintro e w9 ⟨rfl, hb9⟩
      have Hend : Hid (LawQ w (.returned (.bool true)) w9) := Lib.hid ⟨rfl, hb9⟩
      clear hb9
      go_wp2
      go_ret
      exact Hend.out
    have hlt2 : (i : Int) < (mx : Int) := by omega
    have w1 : IntKind.i64.wrap ((i : Int) + 1) = (i : Int) + 1 := IntWalk.i64_in _ (by omega)
    have w2 : IntKind.i64.wrap ((48 : Int) + (i : Int)) = (48 : Int) + (i : Int) := IntWalk.i64_in _ (by omega)
    have w3 : IntKind.i32.wrap ((48 : Int) + (i : Int)) = (48 : Int) + (i : Int) := by
      have : i < 5 := by omega
      obtain rfl | rfl | rfl | rfl | rfl : i = 0 ∨ i = 1 ∨ i = 2 ∨ i = 3 ∨ i = 4 := by omega
      all_goals rfl
    obtain ⟨ec, hec⟩ : ∃ q, q = Utf8.encode ((48 : Int) + (i : Int)) := ⟨_, rfl⟩
    have hec2 : ec = mkS [UInt8.ofNat (48 + i)] := by rw [hec]; exact enc_mk (by omega)
    have hes : ec.size = 1 := by rw [hec2]; rfl
    have Hec := Lib.hid hec2
    have hen : Utf8.encode ((48 : Int) + (i : Int)) = ec := hec.symm
    clear hec hec2
    rcases Nat.eq_zero_or_pos i with hi0 | hi0
    · have hMi : i < M := by omega
      have hGi : i < G := by omega
      have ga : (i : Int) < (M : Int) := by omega
      have gb : (i : Int) < (G : Int) := by omega
      have gz : ¬ (0 : Int) < (i : Int) := by omega
      have hp2 : mkS P ++ ((⟨#[]⟩ : ByteArray) ++ ⟨#[95, 112]⟩ ++ ec) = mkS (parP (min (i + 1) M)) := by
        have q1 : min i M = i := by omega
        have q2 : min (i + 1) M = i + 1 := by omega
        have q3 : (⟨#[]⟩ : ByteArray) = mkS [] := rfl
        have q4 : (⟨#[95, 112]⟩ : ByteArray) = mkS [95, 112] := rfl
        rw [hP, q1, q2, parP_step i (by omega), if_pos (by omega), q3, q4, Hec.out]
        simp only [mkS_app]
        congr 1
        try simp [pNm]
      have ho2 : mkS Q ++ ((⟨#[]⟩ : ByteArray) ++ ⟨#[49]⟩) = mkS (oneB (min (i + 1) G)) := by
        have q1 : min i G = i := by omega
        have q2 : min (i + 1) G = i + 1 := by omega
        have q3 : (⟨#[]⟩ : ByteArray) = mkS [] := rfl
        have q4 : (⟨#[49]⟩ : ByteArray) = mkS [49] := rfl
        rw [hQ, q1, q2, oneB_step i (by omega), if_pos (by omega), q3, q4]
        simp only [mkS_app]
      have hrel : ∀ k, WLoop M G w (gk - 1) (.int .i64 ((i + 1 : Nat) : Int)) (.string (mkS P ++ ((⟨#[]⟩ : ByteArray) ++ ⟨#[95, 112]⟩ ++ ec))) (.string (mkS Q ++ ((⟨#[]⟩ : ByteArray) ++ ⟨#[49]⟩))) (w.drewN k) := fun k => ⟨i + 1, k, rfl, by rw [hp2], by rw [ho2], by have := HMX.out; omega, rfl⟩
      have Hrel := Lib.hid hrel
      have hgk : gk - 1 < gk := by omega
      clear hrel hp2 ho2 hpn hon hin hmM hP hQ hMi hGi
      clear gz w1 w2 w3 ga gb hlt hlt2 hi5
      subst hi0
      have hen0 : Utf8.encode 48 = ec := by simpa using hen
      have ga : (0 : Int) < (M : Int) := by omega
      have gb : (0 : Int) < (G : Int) := by omega
      have hlt2 : (0 : Int) < (mx : Int) := by have := HMX.out; omega
      clear hen
      go_wp2
      go_roundg (gk - 1)
      case measure => exact hgk
      case rel => exact Hrel.out _
    rcases Nat.lt_or_ge i M with hMi | hMi
    · rcases Nat.lt_or_ge i G with hGi | hGi
      · have ga : (i : Int) < (M : Int) := by omega
        have gb : (i : Int) < (G : Int) := by omega
        have gz : (0 : Int) < (i : Int) := by omega
        have hp2 : mkS P ++ ((⟨#[44, 32]⟩ : ByteArray) ++ ⟨#[95, 112]⟩ ++ ec) = mkS (parP (min (i + 1) M)) := by
          have q1 : min i M = i := by omega
          have q2 : min (i + 1) M = i + 1 := by omega
          have q3 : (⟨#[44, 32]⟩ : ByteArray) = mkS [44, 32] := rfl
          have q4 : (⟨#[95, 112]⟩ : ByteArray) = mkS [95, 112] := rfl
          rw [hP, q1, q2, parP_step i (by omega), if_neg (by omega), q3, q4, Hec.out]
          simp only [mkS_app]
          congr 1
          try simp [pNm]
        have ho2 : mkS Q ++ ((⟨#[44, 32]⟩ : ByteArray) ++ ⟨#[49]⟩) = mkS (oneB (min (i + 1) G)) := by
          have q1 : min i G = i := by omega
          have q2 : min (i + 1) G = i + 1 := by omega
          have q3 : (⟨#[44, 32]⟩ : ByteArray) = mkS [44, 32] := rfl
          have q4 : (⟨#[49]⟩ : ByteArray) = mkS [49] := rfl
          rw [hQ, q1, q2, oneB_step i (by omega), if_neg (by omega), q3, q4]
          simp only [mkS_app]
        have hrel : ∀ k, WLoop M G w (gk - 1) (.int .i64 ((i + 1 : Nat) : Int)) (.string (mkS P ++ ((⟨#[44, 32]⟩ : ByteArray) ++ ⟨#[95, 112]⟩ ++ ec))) (.string (mkS Q ++ ((⟨#[44, 32]⟩ : ByteArray) ++ ⟨#[49]⟩))) (w.drewN k) := fun k => ⟨i + 1, k, rfl, by rw [hp2], by rw [ho2], by have := HMX.out; omega, rfl⟩
        have Hrel := Lib.hid hrel
        have hgk : gk - 1 < gk := by omega
        clear hrel hp2 ho2 hpn hon hin hmM hP hQ
        go_wp2
        go_roundg (gk - 1)
        case measure => exact hgk
        case rel => exact Hrel.out _
      · have ga : (i : Int) < (M : Int) := by omega
        have gb : ¬ (i : Int) < (G : Int) := by omega
        have gz : (0 : Int) < (i : Int) := by omega
        have hp2 : mkS P ++ ((⟨#[44, 32]⟩ : ByteArray) ++ ⟨#[95, 112]⟩ ++ ec) = mkS (parP (min (i + 1) M)) := by
          have q1 : min i M = i := by omega
          have q2 : min (i + 1) M = i + 1 := by omega
          have q3 : (⟨#[44, 32]⟩ : ByteArray) = mkS [44, 32] := rfl
          have q4 : (⟨#[95, 112]⟩ : ByteArray) = mkS [95, 112] := rfl
          rw [hP, q1, q2, parP_step i (by omega), if_neg (by omega), q3, q4, Hec.out]
          simp only [mkS_app]
          congr 1
          try simp [pNm]
        have ho2 : mkS Q = mkS (oneB (min (i + 1) G)) := by
          have q1 : min i G = min (i + 1) G := by omega
          rw [hQ, q1]
        have hrel : ∀ k, WLoop M G w (gk - 1) (.int .i64 ((i + 1 : Nat) : Int)) (.string (mkS P ++ ((⟨#[44, 32]⟩ : ByteArray) ++ ⟨#[95, 112]⟩ ++ ec))) (.string (mkS Q)) (w.drewN k) := fun k => ⟨i + 1, k, rfl, by rw [hp2], by rw [ho2], by have := HMX.out; omega, rfl⟩
        have Hrel := Lib.hid hrel
        have hgk : gk - 1 < gk := by omega
        clear hrel hp2 ho2 hpn hon hin hmM hP hQ
        go_wp2
        go_roundg (gk - 1)
        case measure => exact hgk
        case rel => exact Hrel.out _
    · have hGi : i < G := by omega
      have ga : ¬ (i : Int) < (M : Int) := by omega
      have gb : (i : Int) < (G : Int) := by omega
      have gz : (0 : Int) < (i : Int) := by omega
      have hp2 : mkS P = mkS (parP (min (i + 1) M)) := by
        have q1 : min i M = min (i + 1) M := by omega
        rw [hP, q1]
      have ho2 : mkS Q ++ ((⟨#[44, 32]⟩ : ByteArray) ++ ⟨#[49]⟩) = mkS (oneB (min (i + 1) G)) := by
        have q1 : min i G = i := by omega
        have q2 : min (i + 1) G = i + 1 := by omega
        have q3 : (⟨#[44, 32]⟩ : ByteArray) = mkS [44, 32] := rfl
        have q4 : (⟨#[49]⟩ : ByteArray) = mkS [49] := rfl
        rw [hQ, q1, q2, oneB_step i (by omega), if_neg (by omega), q3, q4]
        simp only [mkS_app]
      have hrel : ∀ k, WLoop M G w (gk - 1) (.int .i64 ((i + 1 : Nat) : Int)) (.string (mkS P)) (.string (mkS Q ++ ((⟨#[44, 32]⟩ : ByteArray) ++ ⟨#[49]⟩))) (w.drewN k) := fun k => ⟨i + 1, k, rfl, by rw [hp2], by rw [ho2], by have := HMX.out; omega, rfl⟩
      have Hrel := Lib.hid hrel
      have hgk : gk - 1 < gk := by omega
      clear hrel hp2 ho2 hpn hon hin hmM hP hQ
      go_wp2
      go_roundg (gk - 1)
      case measure => exact hgk
      case rel => exact Hrel.out _
end
end Go.Proofs.YtpoimmpdncickaaGreatDoor
