/- The law FnMacroArgs's walk: it returns true. -/
import Derived.Test.YtkoeeolmbhobkaaGreatDoorJ10
import Derived.Test.YtkoeeolmbhobkaaGreatDoorJ9
import Derived.Test.YtkoeeolmbhobkaaGreatDoorJ11
/- The line that makes a macro with arguments: its bytes, its tokens. -/
namespace Go.Proofs.YtkoeeolmbhobkaaGreatDoor
open Go Go.RowKit Lex Go.Proofs.YtkoeeolmbhobkaaGreatDoorW.PrintWords Go.Proofs.YtkoeeolmbhobkaaGreatDoor.PHelp
set_option linter.unusedVariables false
set_option linter.unusedSimpArgs false

/-- Names with a comma and a blank between them. -/
def parB : List Bs → Bs
  | [] => []
  | [p] => p
  | p :: q :: r => p ++ 44 :: 32 :: parB (q :: r)
/-- Words, a blank ahead of each. -/
def bodB (ws : List Bs) : Bs := ws.flatMap fun w => 32 :: w
def defA (name : Bs) (ps body : List Bs) (tail : Bs) : Bs := 35 :: (kwDefine ++ 32 :: (name ++ 40 :: (parB ps ++ 41 :: (bodB body ++ 10 :: tail))))
def parTok : List Bs → List (Int × Bs)
  | [] => [(41, [41])]
  | [p] => [(-2, p), (41, [41])]
  | p :: q :: r => (-2, p) :: (44, [44]) :: parTok (q :: r)

theorem adv_le : ∀ (z : Bs) (c : Nat), adv c z ≤ c + z.length
  | [], c => by simp [adv]
  | a :: z, c => by
    have h := adv_le z (if a = 10 then 1 else c + 1)
    simp only [adv, List.length_cons]
    split at h <;> rename_i h10
    · rw [if_pos h10]; omega
    · rw [if_neg h10]; omega

theorem pc_char {c : UInt8} {p tail : Bs} {ts : List (Int × Bs)} (hc : isPlain c = true) (h1 : two (c.toNat : Int) = none) (hp : blanks p) (h : Pc tail ts) : Pc (p ++ c :: tail) (((c.toNat : Int), [c]) :: ts) :=
  .cons (z := p ++ [c]) (r' := tail) (.one (k := (c.toNat : Int)) (x := [c]) hp (.char hc) (by omega) (by simp) (by intro d n e; rw [h1] at e; cases e)) (by omega) h

theorem pc_par : ∀ (ps : List Bs), ps ≠ [] → (∀ p ∈ ps, PName p ∧ p.length ≤ 60) → ∀ {p tail : Bs} {ts : List (Int × Bs)}, blanks p → Pc tail ts → Pc (p ++ (parB ps ++ 41 :: tail)) (parTok ps ++ ts)
  | [], h, _, _, _, _, _, _ => absurd rfl h
  | [x], _, hp, p, tail, ts, hb, h => by
    obtain ⟨h1, h2⟩ := hp x (by simp)
    exact pc_nm h1 h2 (by decide) hb (pc_char (c := 41) (p := []) (by decide) rfl (by intro b h; cases h) h)
  | x :: q :: r, _, hp, p, tail, ts, hb, h => by
    obtain ⟨h1, h2⟩ := hp x (by simp)
    have ih := pc_par (q :: r) (by simp) (fun y hy => hp y (by simp at hy ⊢; right; exact hy)) (p := [32]) blanks_one h
    have e : p ++ (parB (x :: q :: r) ++ 41 :: tail) = p ++ (x ++ 44 :: ([32] ++ (parB (q :: r) ++ 41 :: tail))) := by simp [parB]
    rw [e]
    exact pc_nm h1 h2 (by decide) hb (pc_char (c := 44) (p := []) (by decide) rfl (by intro b h; cases h) ih)

theorem pc_bod : ∀ (ws : List Bs), (∀ w ∈ ws, WordL w) → ∀ {tail : Bs} {ts : List (Int × Bs)}, Pc tail ts → Pc (bodB ws ++ 10 :: tail) (ws.map tokW ++ (10, [10]) :: ts)
  | [], _, tail, ts, h => pc_nl (p := []) (by intro b h; cases h) h
  | w :: r, hw, tail, ts, h => by
    have hwl := hw w (by simp)
    have ih := pc_bod r (fun x hx => hw x (by simp [hx])) h
    obtain ⟨s, t, e, hs⟩ : ∃ s t, bodB r ++ 10 :: tail = s :: t ∧ (s = 32 ∨ s = 10) := by
      cases r with
      | nil => exact ⟨10, tail, rfl, .inr rfl⟩
      | cons a b => exact ⟨32, _, rfl, .inl rfl⟩
    have e2 : bodB (w :: r) ++ 10 :: tail = [32] ++ (w ++ s :: t) := by rw [← e]; simp [bodB]
    rw [e2]
    rw [e] at ih
    exact .cons (word_next hwl.wd hwl.nnl hwl.nm hwl.len blanks_one hs t) hwl.kind.1 ih

theorem ph_of : ∀ (ps : List Bs), ps ≠ [] → ∀ {pt : List Tok}, pt.map Tok.kx = parTok ps → Ph true ps pt
  | [], h, _, _ => absurd rfl h
  | [x], _, pt, h => by
    obtain ⟨t, T1, rfl, hk, hx, h2⟩ := kx_cons h
    obtain ⟨c, T2, rfl, hck, _, h3⟩ := kx_cons h2
    obtain rfl := kx_nil h3
    have hx' : t.x = x := hx
    rw [← hx']
    exact .name hk (.close hck)
  | x :: q :: r, _, pt, h => by
    obtain ⟨t, T1, rfl, hk, hx, h2⟩ := kx_cons h
    obtain ⟨c, T2, rfl, hck, _, h3⟩ := kx_cons h2
    have hx' : t.x = x := hx
    rw [← hx']
    exact .name hk (.comma hck (ph_of (q :: r) (by simp) h3))

/-- The tokens of the line, with the place of the bracket. -/
theorem tl_args {name : Bs} {ps body : List Bs} (hn : PName name) (hnl : name.length ≤ 60) (hp0 : ps ≠ []) (hp : ∀ p ∈ ps, PName p ∧ p.length ≤ 60) (hb : ∀ w ∈ body, WordL w) {tail : Bs} {ts : List (Int × Bs)} (ht : Pc tail ts) (l c : Nat) (hc : c ≤ 1000000) :
    ∃ t kt nt op T, TL (defA name ps body tail) l c (t :: kt :: nt :: op :: T) ∧ Tok.kx t = (35, [35]) ∧ Tok.kx kt = (-2, kwDefine) ∧ Tok.kx nt = (-2, name) ∧ Tok.kx op = (40, [40]) ∧ op.col = nt.col + 1 ∧ nt.col < 10000000 ∧ T.map Tok.kx = parTok ps ++ (body.map tokW ++ (10, [10]) :: ts) := by
  have h5 := pc_par ps hp0 hp (p := []) (by intro b h; cases h) (pc_bod body hb ht)
  have h1 : TNext (defA name ps body tail) 35 [35] [35] (kwDefine ++ 32 :: (name ++ 40 :: (parB ps ++ 41 :: (bodB body ++ 10 :: tail)))) :=
    .one (ws := []) (k := ((35 : UInt8).toNat : Int)) (x := [35]) (by intro b h; cases h) (.char (by decide)) (by decide) (by simp) (by intro d n e; cases e)
  have h2 : TNext (kwDefine ++ 32 :: (name ++ 40 :: (parB ps ++ 41 :: (bodB body ++ 10 :: tail)))) (-2) kwDefine kwDefine (32 :: (name ++ 40 :: (parB ps ++ 41 :: (bodB body ++ 10 :: tail)))) :=
    .one (ws := []) (x := kwDefine) (by intro b h; cases h) (.ident (c := 100) (x := [101, 102, 105, 110, 101]) (by decide) (by decide) (fun c hc => by simp at hc; subst hc; decide)) (by decide) (by decide) (by intro d n e; cases e)
  obtain ⟨c0, y, rfl, n1, n2⟩ := hn
  have h3 : TNext (32 :: ((c0 :: y) ++ 40 :: (parB ps ++ 41 :: (bodB body ++ 10 :: tail)))) (-2) (c0 :: y) (32 :: (c0 :: y)) (40 :: (parB ps ++ 41 :: (bodB body ++ 10 :: tail))) :=
    .one (ws := [32]) (x := c0 :: y) blanks_one (.ident n1 n2 (fun c hc => by simp at hc; subst hc; decide)) (by decide) hnl (by intro d n e; cases e)
  have h4 : TNext (40 :: (parB ps ++ 41 :: (bodB body ++ 10 :: tail))) 40 [40] [40] (parB ps ++ 41 :: (bodB body ++ 10 :: tail)) :=
    .one (ws := []) (k := ((40 : UInt8).toNat : Int)) (x := [40]) (by intro b h; cases h) (.char (by decide)) (by decide) (by simp) (by intro d n e; cases e)
  obtain ⟨T, t1, t2⟩ := h5.tl (lineAt (lineAt (lineAt (lineAt l 35) (-2)) (-2)) 40) (adv (adv (adv (adv c [35]) kwDefine) (32 :: (c0 :: y))) [40])
  refine ⟨_, _, _, _, T, .cons h1 (by decide) (.cons h2 (by decide) (.cons h3 (by decide) (.cons h4 (by decide) t1))), rfl, rfl, rfl, rfl, by simp [adv], ?_, t2⟩
  have e1 := adv_le (32 :: (c0 :: y)) (adv (adv c [35]) kwDefine)
  have e2 := adv_le kwDefine (adv c [35])
  have e3 := adv_le [35] c
  simp only [List.length_cons, List.length_nil] at e1 e3 hnl
  have : kwDefine.length = 6 := rfl
  show adv (adv (adv c [35]) kwDefine) (32 :: (c0 :: y)) < 10000000
  omega

section
variable {y : Wy}
/-- The macro is made. -/
theorem args_run {name : Bs} {ps body : List Bs} (hn : PName name) (hnl : name.length ≤ 60) (hp0 : ps ≠ []) (hp5 : ps.length ≤ 100) (hp : ∀ p ∈ ps, PName p ∧ p.length ≤ 60) (hnd : ps.Nodup) (hb : ∀ w ∈ body, WordL w) (hb20 : body.length ≤ 20) :
    ∃ T n s', TL (defA name ps body []) 1 1 T ∧ Run y n ⟨[tzAb mainName T], 0, fun _ => none, [], true, []⟩ s' ∧ n < 1000 ∧ s'.mac name = some ⟨some ps, body.map tokW⟩ := by
  obtain ⟨t, kt, nt, op, T, h1, hk, hkk, hnk, hok, hcol, hcb, h2⟩ := tl_args hn hnl hp0 hp hb (tail := []) .nil 1 1 (by omega)
  obtain ⟨pt, T1, rfl, hpt, h3⟩ := List.map_eq_append_iff.1 h2
  obtain ⟨bd, T2, rfl, hbd, h4⟩ := List.map_eq_append_iff.1 h3
  obtain ⟨nl, T3, rfl, hnlk, _, h5⟩ := kx_cons h4
  obtain rfl := kx_nil h5
  have hnx : nt.x = name := congrArg Prod.snd hnk
  have hok2 : ∀ q ∈ bd, okTok q ∧ q.k ≠ 10 ∧ q.k ≠ 92 ∧ q.k ≠ -1 ∧ q.k ≠ 0 := fun q hq => by
    have hm : Tok.kx q ∈ body.map tokW := hbd ▸ List.mem_map_of_mem hq
    obtain ⟨w, hwm, e⟩ := List.mem_map.1 hm
    have hW := hb w hwm
    have hkd := hW.kind
    have e1 : q.k = kindW w := by have := congrArg Prod.fst e; exact this.symm
    have e2 : q.x = w := by have := congrArg Prod.snd e; exact this.symm
    refine ⟨⟨e2 ▸ hW.ascii, e2 ▸ hkd.2.2.2.2.2.2.2.1, by rw [e2]; have := hW.len; omega⟩, by rw [e1]; exact hkd.2.2.1, by rw [e1]; exact hkd.2.2.2.2.1, by rw [e1]; exact hkd.1, by rw [e1]; exact hkd.2.1⟩
  obtain ⟨a0, ha0⟩ : ∃ a0, a0 = tzAb mainName (t :: kt :: nt :: op :: (pt ++ (bd ++ nl :: []))) := ⟨_, rfl⟩
  have hs1 : Hs y ⟨[{ a0 with cur := t, ts := kt :: nt :: op :: (pt ++ (bd ++ nl :: [])) }], 0, fun _ => none, [], true, []⟩ true _ :=
    .defargs (dead := []) (a := { a0 with cur := t, ts := kt :: nt :: op :: (pt ++ (bd ++ nl :: [])) }) (rest := []) (kt := kt) (nt := nt) (op := op) (pt := pt) (bd := bd) (nl := nl) (ts := []) (P := ps) ⟨rfl, rfl, by simp, by simp, rfl, congrArg Prod.fst hkk, congrArg Prod.snd hkk, by simp⟩ (fun q hq => by simp at hq; rw [hq, ha0]; rfl) (congrArg Prod.fst hnk) (by rw [hnx]; omega) rfl (by show 0 < 1000000; omega)
      (congrArg Prod.fst hok) hcol hcb (ph_of ps hp0 hpt) hnd hp5 (fun p h => by have := (hp p h).2; omega) hok2 hnlk (by have := congrArg List.length hbd; simp at this; omega)
  refine ⟨_, 1, _, h1, .step (m := 0) (k := 35) (.hash (dead := []) (a := a0) (rest := []) (t := t) (ts := kt :: nt :: op :: (pt ++ (bd ++ nl :: []))) (by rw [ha0]; rfl) (by simp) (by rw [ha0]; rfl) (by simp) (congrArg Prod.fst hk) rfl hs1) (by decide) (by decide) (by decide) (.done (dead := []) rfl (by simp) rfl (by rw [ha0]; rfl) rfl (by simp)), by omega, ?_⟩
  rw [hnx]
  simp [hbd]
end
section
variable {ws : List Bs}
theorem texts_f (hl : ws.length ≤ 1000000) : Ev (fun k => spec_SameTexts.f k (ws.map mkS) (ws.map mkS)) true := by
  have H : ∀ d i : Nat, ws.length - i ≤ d → i ≤ ws.length → Ev (fun k => spec_SameTexts.l0 k (ws.map mkS) (ws.map mkS) ((ws.map mkS).length : Int) (i : Int)) true := by
    have hend : Ev (fun k => spec_SameTexts.l0 k (ws.map mkS) (ws.map mkS) ((ws.map mkS).length : Int) (ws.length : Int)) true := by
      refine Ev.step (f := fun _ => some true) (fun k => ?_) (Ev.now _)
      simp only [spec_SameTexts.l0]
      rw [if_neg (by rw [List.length_map]; omega)]
    intro d
    induction d with
    | zero =>
      intro i hd hi
      obtain rfl : i = ws.length := by omega
      exact hend
    | succ d ih =>
      intro i hd hi
      rcases Nat.lt_or_ge i ws.length with hlt | hge
      · refine Ev.step (fun k => ?_) (ih (i + 1) (by omega) (by omega))
        simp only [spec_SameTexts.l0]
        rw [if_pos (by rw [List.length_map]; omega), if_pos (by omega), if_pos (by rw [List.length_map]; omega), if_pos (by rw [List.length_map]; omega), w64 (by omega)]
        simp only [if_true]
        rfl
      · obtain rfl : i = ws.length := by omega
        exact hend
  refine Ev.congr (fun k => ?_) (H _ 0 (Nat.le_refl _) (Nat.zero_le _))
  unfold spec_SameTexts.f
  rw [if_pos rfl]
  rfl

end
theorem isWord_f (w : Bs) (hl : w.length ≤ 2147483647) : ∃ r, Ev (fun k => spec_isWord.f k (mkS w)) r := by
  by_cases h60 : w.length ≤ 60
  · obtain ⟨kd, k1, _⟩ := kind_f w hl
    obtain ⟨pr, p1, _⟩ := plain_f w hl
    have hu : ∀ k, spec_isWord.f k (mkS w) = (spec_KindOf.f k (mkS w)).bind fun t => if t = 0 then some false else if w = [10] then some false else (spec_KindOf.f k (mkS w)).bind fun t => if t = -2 then (spec_IsPlainName.f k (mkS w)).bind fun q => some q else some true := fun k => by
      unfold spec_isWord.f
      rw [if_pos (by rw [mkS_size]; omega), mkS_toList]
    by_cases h0 : kd = 0
    · exact ⟨false, Ev.congr hu (Ev.bind k1 (Ev.congr (f := fun _ => some false) (fun k => by rw [if_pos h0]) (Ev.now _)))⟩
    by_cases h1 : w = [10]
    · exact ⟨false, Ev.congr hu (Ev.bind k1 (Ev.congr (f := fun _ => some false) (fun k => by rw [if_neg h0, if_pos h1]) (Ev.now _)))⟩
    by_cases h2 : kd = -2
    · exact ⟨pr, Ev.congr hu (Ev.bind k1 (Ev.congr (fun k => by rw [if_neg h0, if_neg h1]) (Ev.bind k1 (Ev.congr (fun k => by rw [if_pos h2]) (Ev.bind p1 (Ev.now _))))))⟩
    · exact ⟨true, Ev.congr hu (Ev.bind k1 (Ev.congr (fun k => by rw [if_neg h0, if_neg h1]) (Ev.bind k1 (Ev.congr (f := fun _ => some true) (fun k => by rw [if_neg h2]) (Ev.now _)))))⟩
  · exact ⟨false, Ev.congr (f := fun _ => some false) (fun k => by unfold spec_isWord.f; rw [if_neg (by rw [mkS_size]; omega)]) (Ev.now _)⟩

section
variable {ws : List Bs}

theorem body_f (hl : ws.length ≤ 2147483647) (hw : ∀ w ∈ ws, w.length ≤ 2147483647) : ∃ r, Ev (fun k => spec_isBody.f k (ws.map mkS) true) r := by
  obtain ⟨r, h, _⟩ := loop_all (ws := ws) (l0 := fun k i => spec_isBody.l0 k (ws.map mkS) true (ws.map mkS) ((ws.map mkS).length : Int) i) (p := fun k w => if w = [10] then some true else spec_isWord.f k (mkS w)) (e := fun _ => if ws.length ≤ 20 then some true else some false) (P := fun _ => True) (Q := True)
    (fun k i w hw => by
      have hlt := (List.getElem?_eq_some_iff.1 hw).1
      simp only [spec_isBody.l0]
      rw [if_pos (by rw [List.length_map]; omega), if_pos (by omega), if_pos (by rw [List.length_map]; omega), rd_at (at_map hw), mkS_toList, w64 (by omega)]
      by_cases h : w = [10]
      · rw [if_pos h, if_pos h]; rfl
      · rw [if_neg h, if_neg h]; rfl)
    (fun k => by
      simp only [spec_isBody.l0]
      rw [if_neg (by rw [List.length_map]; omega), List.length_map]
      by_cases h : ws.length ≤ 20
      · rw [if_pos (by omega), if_pos h]; rfl
      · rw [if_neg (by omega), if_neg h])
    (fun w hw' => by
      by_cases h : w = [10]
      · exact ⟨true, Ev.congr (f := fun _ => some true) (fun k => by rw [if_pos h]) (Ev.now _), fun _ => trivial⟩
      · obtain ⟨r, hr⟩ := isWord_f w (hw w hw')
        exact ⟨r, Ev.congr (fun k => by rw [if_neg h]) hr, fun _ => trivial⟩)
    (by
      by_cases h : ws.length ≤ 20
      · exact ⟨true, Ev.congr (f := fun _ => some true) (fun k => by rw [if_pos h]) (Ev.now _), fun _ => trivial⟩
      · exact ⟨false, Ev.congr (f := fun _ => some false) (fun k => by rw [if_neg h]) (Ev.now _), fun _ => trivial⟩)
  exact ⟨r, Ev.congr (fun k => rfl) h⟩

theorem place_f (x : Bs) (hl : ws.length ≤ 2147483647) : ∃ r : Int, Ev (fun k => spec_place.f k (ws.map mkS) (mkS x)) r ∧ (r < 0 → x ∉ ws) := by
  have H : ∀ d i : Nat, ws.length - i ≤ d → i ≤ ws.length → ∃ r : Int, Ev (fun k => spec_place.l0 k (mkS x) (ws.map mkS) ((ws.map mkS).length : Int) (i : Int)) r ∧ (r < 0 → x ∉ ws.drop i) := by
    have hend : ∃ r : Int, Ev (fun k => spec_place.l0 k (mkS x) (ws.map mkS) ((ws.map mkS).length : Int) (ws.length : Int)) r ∧ (r < 0 → x ∉ ws.drop ws.length) := by
      refine ⟨-1, Ev.step (f := fun _ => some _) (fun k => ?_) (Ev.now _), fun _ => by simp⟩
      simp only [spec_place.l0]
      rw [if_neg (by rw [List.length_map]; omega)]
    intro d
    induction d with
    | zero =>
      intro i hd hi
      obtain rfl : i = ws.length := by omega
      exact hend
    | succ d ih =>
      intro i hd hi
      rcases Nat.lt_or_ge i ws.length with hlt | hge
      · obtain ⟨w, hw⟩ : ∃ w, ws[i]? = some w := ⟨ws[i], List.getElem?_eq_getElem hlt⟩
        have hdrop : ws.drop i = w :: ws.drop (i + 1) := by
          rw [List.drop_eq_getElem_cons hlt]
          congr 1
          exact Option.some.inj ((List.getElem?_eq_getElem hlt).symm.trans hw)
        have hstep : ∀ k, spec_place.l0 (k + 1) (mkS x) (ws.map mkS) ((ws.map mkS).length : Int) (i : Int) = if w = x then some (i : Int) else spec_place.l0 k (mkS x) (ws.map mkS) ((ws.map mkS).length : Int) ((i + 1 : Nat) : Int) := fun k => by
          simp only [spec_place.l0]
          rw [if_pos (by rw [List.length_map]; omega), if_pos (by omega), if_pos (by rw [List.length_map]; omega), rd_at (at_map hw), mkS_toList, mkS_toList, w64 (by omega)]
          rfl
        by_cases e : w = x
        · exact ⟨i, Ev.step (f := fun _ => some _) (fun k => by rw [hstep, if_pos e]) (Ev.now _), fun h => by omega⟩
        · obtain ⟨r, h1, h2⟩ := ih (i + 1) (by omega) (by omega)
          exact ⟨r, Ev.step (fun k => by rw [hstep, if_neg e]) h1, fun h => by rw [hdrop]; simp [Ne.symm e, h2 h]⟩
      · obtain rfl : i = ws.length := by omega
        exact hend
  obtain ⟨r, h1, h2⟩ := H _ 0 (Nat.le_refl _) (Nat.zero_le _)
  exact ⟨r, Ev.congr (fun k => rfl) h1, fun h => by simpa using h2 h⟩

theorem parB_snoc : ∀ (ps : List Bs) (p : Bs), ps ≠ [] → parB (ps ++ [p]) = parB ps ++ (44 :: 32 :: p)
  | [], _, h => absurd rfl h
  | [x], p, _ => rfl
  | x :: q :: r, p, _ => by
    have ih := parB_snoc (q :: r) p (by simp)
    show x ++ 44 :: 32 :: parB ((q :: r) ++ [p]) = _
    rw [ih]
    simp [parB]
theorem parB_len : ∀ (ps : List Bs), (∀ p ∈ ps, p.length ≤ 60) → (parB ps).length ≤ 62 * ps.length
  | [], _ => by simp [parB]
  | [x], h => by have := h x (by simp); simp [parB]; omega
  | x :: q :: r, h => by
    have ih := parB_len (q :: r) (fun p hp => h p (by simp at hp ⊢; right; exact hp))
    have := h x (by simp)
    simp [parB] at ih ⊢
    omega

theorem list_f (hl : ws.length ≤ 1000) (hw : ∀ w ∈ ws, w.length ≤ 60) : Ev (fun k => spec_list.f k (ws.map mkS) (mkS [44, 32])) (mkS (parB ws)) := by
  have H : ∀ d i : Nat, ws.length - i ≤ d → i ≤ ws.length → Ev (fun k => spec_list.l0 k (mkS [44, 32]) (mkS (parB (ws.take i))) (ws.map mkS) ((ws.map mkS).length : Int) (i : Int)) (mkS (parB ws)) := by
    have hend : Ev (fun k => spec_list.l0 k (mkS [44, 32]) (mkS (parB (ws.take ws.length))) (ws.map mkS) ((ws.map mkS).length : Int) (ws.length : Int)) (mkS (parB ws)) := by
      refine Ev.step (f := fun _ => some _) (fun k => ?_) (Ev.now _)
      simp only [spec_list.l0]
      rw [if_neg (by rw [List.length_map]; omega), List.take_length]
    intro d
    induction d with
    | zero =>
      intro i hd hi
      obtain rfl : i = ws.length := by omega
      exact hend
    | succ d ih =>
      intro i hd hi
      rcases Nat.lt_or_ge i ws.length with hlt | hge
      · obtain ⟨w, hw'⟩ : ∃ w, ws[i]? = some w := ⟨ws[i], List.getElem?_eq_getElem hlt⟩
        have htk : ws.take (i + 1) = ws.take i ++ [w] := by rw [List.take_add_one, hw']; rfl
        have hwl := hw w (List.mem_of_getElem? hw')
        have htl := parB_len (ws.take i) (fun x hx => hw x (List.mem_of_mem_take hx))
        rw [List.length_take] at htl
        refine Ev.step (fun k => ?_) (ih (i + 1) (by omega) (by omega))
        simp only [spec_list.l0]
        rw [if_pos (by rw [List.length_map]; omega), if_pos (by omega), if_pos (by rw [List.length_map]; omega), rd_at (at_map hw'), w64 (by omega), htk]
        by_cases h0 : i = 0
        · subst h0
          rw [if_neg (by omega), if_pos (by rw [mkS_size, mkS_size]; simp [parB]; omega), mkS_app]
          rfl
        · rw [if_pos (by omega), if_pos (by rw [mkS_size, mkS_size]; simp; omega), mkS_app, if_pos (by rw [mkS_size, mkS_size, List.length_append]; simp; omega), mkS_app, parB_snoc _ _ (by
            intro e
            rw [List.take_eq_nil_iff] at e
            rcases e with e | e
            · exact h0 e
            · rw [e] at hlt; simp at hlt)]
          simp
      · obtain rfl : i = ws.length := by omega
        exact hend
  exact Ev.congr (fun k => rfl) (H _ 0 (Nat.le_refl _) (Nat.zero_le _))

theorem bodB_len (ws : List Bs) (h : ∀ w ∈ ws, w.length ≤ 60) : (bodB ws).length ≤ 61 * ws.length := by
  induction ws with
  | nil => simp [bodB]
  | cons w r ih =>
    have := ih (fun x hx => h x (by simp [hx]))
    have := h w (by simp)
    simp [bodB] at *
    omega

end
section
variable {w : World} {A A1 A2 : Option Addr} {c c1 c2 : Nat} {ws ps bs : List Bs} {nb : Bs}

/-- A call that draws alone, at the world itself. -/
def Dr (w : World) (r : Value) (e : Ending) (w' : World) : Prop := e = .returned r ∧ ∃ j, w' = w.drewN j

def BTLoop (ws : List Bs) (w : World) (n : Nat) (v8 v3 : Value) (wr : World) : Prop := ∃ i m, v8 = .int .i64 (i : Nat) ∧ v3 = .string (mkS (bodB (ws.take i))) ∧ i + n = ws.length ∧ wr = w.drewN m

set_option maxRecDepth 100000 in
set_option maxHeartbeats 2000000 in
theorem bodyText_any (hr : Kd.C Kd.string w A (ws.map mkS).length (ws.map mkS)) (hc : (ws.map mkS).length ≤ c) (hl : ws.length ≤ 1000) (hw : ∀ x ∈ ws, x.length ≤ 60 ∧ x ≠ [10]) :
    Calls Tryz.prog 34 #[.slice A (ws.map mkS).length c] w (Dr w (.string (mkS (bodB ws)))) := by
  obtain ⟨n, hn⟩ : ∃ n, n = (ws.map mkS).length := ⟨_, rfl⟩
  have hn2 : n = ws.length := by rw [hn, List.length_map]
  rw [← hn] at hr hc ⊢
  have Hr := Lib.hid hr
  have Hw := Lib.hid hw
  have Hn2 := Lib.hid hn2
  have hn3 : n ≤ 1000 := by omega
  clear hr hw hn hn2
  go_enter Tryz.func34, Tryz.ntmps34
  change Code.wp _ _ _ _ (w.drewN 0)
  go_wp2
  go_loopg [8, 3] n (fun n v8 v3 wr => BTLoop ws w n v8 v3 wr)
  case atStart => exact ⟨0, _, rfl, rfl, by have := Hn2.out; omega, rfl⟩
  case round =>
    obtain ⟨i, m, rfl, rfl, hin, rfl⟩ := hrel
    have hn2 := Hn2.out
    rcases Nat.lt_or_ge i n with hlt | hge
    · obtain ⟨y, hy⟩ : ∃ y, ws[i]? = some y := ⟨ws[i]'(by omega), List.getElem?_eq_getElem _⟩
      obtain ⟨ad, rfl, hcell⟩ := (Kd.reads_of_C (d := ByteArray.empty) Hr.out).2.2 (by omega)
      have hk : (w.drewN m).cell? (ad.add i) = some (.string (mkS y)) := by
        have := hcell i hlt
        rw [List.getD_eq_getElem?_getD, List.getElem?_map, hy] at this
        exact this
      obtain ⟨hy60, hy10⟩ := Hw.out y (List.mem_of_getElem? hy)
      have hne : ((mkS y).toList == ([10] : List UInt8)) = false := by rw [mkS_toList]; simpa using hy10
      have htl := bodB_len (ws.take i) (fun x hx => (Hw.out x (List.mem_of_mem_take hx)).1)
      rw [List.length_take] at htl
      obtain ⟨yl, hyl⟩ : ∃ q, q = y.length := ⟨_, rfl⟩
      obtain ⟨tl, htl2⟩ : ∃ q, q = (bodB (ws.take i)).length := ⟨_, rfl⟩
      have s1 : (mkS y).size = yl := by rw [mkS_size, hyl]
      have s2 : (mkS (bodB (ws.take i))).size = tl := by rw [mkS_size, htl2]
      rw [← hyl] at hy60
      rw [← htl2] at htl
      have htl3 : tl ≤ 61000 := by have := Nat.min_le_right i ws.length; have := Nat.min_le_left i ws.length; omega
      have hlt2 : (i : Int) < (n : Int) := by omega
      have e3 : IntKind.i64.wrap ((i : Int) + 1) = (i : Int) + 1 := IntWalk.i64_in _ (by omega)
      have hx : mkS (bodB (ws.take i)) ++ (⟨#[32]⟩ ++ mkS y) = mkS (bodB (ws.take (i + 1))) := by
        rw [show (⟨#[32]⟩ : ByteArray) = mkS [32] from rfl, mkS_app, mkS_app, List.take_add_one, hy]
        simp [bodB]
      have HX := Lib.hid hx
      have hgk : gk - 1 < gk := by omega
      have hin' : i + 1 + (gk - 1) = ws.length := by omega
      have hic : i < c := by omega
      clear hcell hy hy10 htl hyl htl2 hx hin hn2
      go_wp2
      go_roundg (gk - 1)
      case measure => exact hgk
      case rel => exact ⟨i + 1, m, by go_num, by rw [← HX.out], hin', rfl⟩
    · have hlt2 : ¬ (i : Int) < (n : Int) := by omega
      have e : i = ws.length := by omega
      have hfin : Dr w (.string (mkS (bodB ws))) (.returned (.string (mkS (bodB (ws.take i))))) (w.drewN m) := ⟨by rw [e, List.take_length], m, rfl⟩
      have Hfin := Lib.hid hfin
      clear hin hn2 hge e hfin
      go_wp2
      go_ret
      exact Hfin.out

def PKQ (ws : List Bs) (w : World) (e : Ending) (w' : World) : Prop := ∃ r, e = .returned (.bool r) ∧ (r = true → (∀ p ∈ ws, PName p ∧ p.length ≤ 60) ∧ ws.Nodup ∧ ws.length ≤ 5) ∧ ∃ j, w' = w.drewN j
def PKLoop (ws : List Bs) (w : World) (n : Nat) (v7 : Value) (wr : World) : Prop := ∃ i m, v7 = .int .i64 (i : Nat) ∧ i + n = ws.length ∧ wr = w.drewN m ∧ ∀ j p, j < i → ws[j]? = some p → PName p ∧ p.length ≤ 60 ∧ p ∉ ws.take j

set_option maxRecDepth 100000 in
set_option maxHeartbeats 4000000 in
theorem paramsOk_any (hr : Kd.C Kd.string w A (ws.map mkS).length (ws.map mkS)) (hc : (ws.map mkS).length ≤ c) (hl : ws.length ≤ 2147483647) (hw : ∀ x ∈ ws, x.length ≤ 2147483647) :
    Calls Tryz.prog 23 #[.slice A (ws.map mkS).length c] w (PKQ ws w) := by
  obtain ⟨n, hn⟩ : ∃ n, n = (ws.map mkS).length := ⟨_, rfl⟩
  have hn2 : n = ws.length := by rw [hn, List.length_map]
  rw [← hn] at hr hc ⊢
  have Hr := Lib.hid hr
  have Hw := Lib.hid hw
  have Hn2 := Lib.hid hn2
  have Hn := Lib.hid hn
  have hn3 : n ≤ 2147483647 := by omega
  clear hr hw hn hn2
  go_enter Tryz.func23, Tryz.ntmps23
  change Code.wp _ _ _ _ (w.drewN 0)
  go_wp2
  go_loopg [7] n (fun n v7 wr => PKLoop ws w n v7 wr)
  case atStart => exact ⟨0, _, rfl, by have := Hn2.out; omega, rfl, fun j p h => by omega⟩
  case round =>
    obtain ⟨i, m, rfl, hin, rfl, hgood⟩ := hrel
    have hn2 := Hn2.out
    rcases Nat.lt_or_ge i n with hlt | hge
    · obtain ⟨y, hy⟩ : ∃ y, ws[i]? = some y := ⟨ws[i]'(by omega), List.getElem?_eq_getElem _⟩
      obtain ⟨ad, rfl, hcell⟩ := (Kd.reads_of_C (d := ByteArray.empty) Hr.out).2.2 (by omega)
      have hk : (w.drewN m).cell? (ad.add i) = some (.string (mkS y)) := by
        have := hcell i hlt
        rw [List.getD_eq_getElem?_getD, List.getElem?_map, hy] at this
        exact this
      have hyl := Hw.out y (List.mem_of_getElem? hy)
      obtain ⟨t, t1, t2⟩ := plain_f y hyl
      have GP := Lib.hid (gd_plain (w := w) t1)
      have T2 := Lib.hid t2
      obtain ⟨q, q1, q2⟩ := place_f (ws := ws.take i) y (by rw [List.length_take]; omega)
      obtain ⟨kq, hkq⟩ := q1.rounds
      have hlen : ((ws.take i).map mkS).length = i := by rw [List.length_map, List.length_take]; omega
      have hplace : ∀ k, Calls Tryz.prog 42 #[.slice (some ad) i c, .string (mkS y)] (w.drewN k) fun e w' => e = .returned (.int .i64 q) ∧ ∃ j, w' = w.drewN j := fun k => by
        have h := spec_place.calls kq (some ad) c ((ws.take i).map mkS) (mkS y) q (w.drewN k) (by
          rw [hlen]
          refine Kd.C_of_reads (enc := Value.string) (d := ByteArray.empty) (h1 := fun _ => rfl) ⟨by rw [hlen], by omega, fun hp => ⟨ad, rfl, fun j hj => ?_⟩⟩
          have h2 := hcell j (by omega)
          rw [List.getD_eq_getElem?_getD, List.getElem?_map] at h2
          rw [List.getD_eq_getElem?_getD, List.getElem?_map, List.getElem?_take, if_pos hj]
          exact h2) (by omega) hkq
        rw [hlen] at h
        refine h.mono ?_
        rintro e w' ⟨rfl, ⟨j, rfl⟩⟩
        exact ⟨rfl, k + j, by simp [World.drewN, Nat.add_assoc]⟩
      have Hplace := Lib.hid hplace
      have Q2 := Lib.hid q2
      have hs : (mkS y).size = y.length := mkS_size y
      obtain ⟨yl, hyl2⟩ : ∃ q, q = y.length := ⟨_, rfl⟩
      rw [← hyl2] at hs hyl
      have Hyl := Lib.hid hyl2
      have Hy := Lib.hid hy
      have Hgood := Lib.hid hgood
      have Hin := Lib.hid hin
      have hlt2 : (i : Int) < (n : Int) := by omega
      have e3 : IntKind.i64.wrap ((i : Int) + 1) = (i : Int) + 1 := IntWalk.i64_in _ (by omega)
      have hic : (i : Int) ≤ (c : Int) := by omega
      have hi0 : (0 : Int) ≤ (i : Int) := by omega
      have hil : i < c := by omega
      clear hcell t1 t2 q1 q2 hkq hlen hplace hyl2 hy hgood hin hn2
      go_wp2_with fail
      refine (GP.out _).mono ?_
      rintro e w1 ⟨rfl, j1, rfl⟩
      cases t with
      | false =>
        go_wp2
        go_ret
        exact ⟨false, rfl, fun h => (by cases h), _, rfl⟩
      | true =>
      rcases Nat.lt_or_ge 60 yl with h60 | h60
      · go_wp2
        go_ret
        exact ⟨false, rfl, fun h => (by cases h), _, rfl⟩
      go_wp2_with fail
      refine (Hplace.out _).mono ?_
      rintro e w2 ⟨rfl, j2, rfl⟩
      by_cases hq : q < 0
      · have hq2 : ¬ (0 : Int) ≤ q := by omega
        have hgk : gk - 1 < gk := by have := Hin.out; have := Hn2.out; omega
        go_wp2
        go_roundg (gk - 1)
        case measure => exact hgk
        case rel =>
          refine ⟨i + 1, _, by go_num, by have := Hin.out; have := Hn2.out; omega, rfl, fun j p hj hp => ?_⟩
          rcases Nat.lt_or_ge j i with h | h
          · exact Hgood.out j p h hp
          · obtain rfl : j = i := by omega
            rw [Hy.out] at hp
            cases hp
            exact ⟨(T2.out (by first | rfl | trivial)).2, by have := Hyl.out; omega, Q2.out hq⟩
      · go_wp2
        go_ret
        exact ⟨false, rfl, fun h => (by cases h), _, rfl⟩
    · have hlt2 : ¬ (i : Int) < (n : Int) := by omega
      have e : i = ws.length := by omega
      have hfin : ∀ k, PKQ ws w (.returned (.bool (decide ((n : Int) ≤ 5)))) (w.drewN k) := fun k => ⟨_, rfl, fun hr => ⟨fun p hp => by
          obtain ⟨j, hj⟩ := List.getElem?_of_mem hp
          have h := hgood j p (by have := (List.getElem?_eq_some_iff.1 hj).1; omega) hj
          exact ⟨h.1, h.2.1⟩, List.pairwise_iff_getElem.2 fun a b ha hb hab e => by
            have h := (hgood b ws[b] (by omega) (List.getElem?_eq_getElem hb)).2.2
            exact h (by rw [← e]; exact List.mem_take_iff_getElem.2 ⟨a, by omega, rfl⟩), by have := of_decide_eq_true hr; omega⟩, k, rfl⟩
      have Hfin := Lib.hid hfin
      clear hin hn2 hge e hfin hgood
      go_wp2
      go_ret
      exact Hfin.out _

def IOQ (nb : Bs) (ps : List Bs) (w : World) (e : Ending) (w' : World) : Prop := ∃ r, e = .returned (.bool r) ∧ (r = true → PName nb ∧ (∀ p ∈ ps, PName p ∧ p.length ≤ 60) ∧ ps.Nodup ∧ ps.length ≤ 5) ∧ Below w.heap.size w w'

set_option maxRecDepth 100000 in
set_option maxHeartbeats 4000000 in
theorem itemOk_any (hnb : nb.length ≤ 60) (hr1 : Kd.C Kd.string w A1 (ps.map mkS).length (ps.map mkS)) (hc1 : (ps.map mkS).length ≤ c1) (hl1 : ps.length ≤ 2147483647) (hw1 : ∀ x ∈ ps, x.length ≤ 2147483647) (hr2 : Kd.C Kd.string w A2 (bs.map mkS).length (bs.map mkS)) (hc2 : (bs.map mkS).length ≤ c2) (hl2 : bs.length ≤ 2147483647) (hw2 : ∀ x ∈ bs, x.length ≤ 2147483647) :
    Calls Tryz.prog 8 #[.agg #[.int .i64 1, .string (mkS nb), .bool true, .slice A1 (ps.map mkS).length c1, .slice A2 (bs.map mkS).length c2, .slice none 0 0]] w (IOQ nb ps w) := by
  obtain ⟨p, hp⟩ : ∃ n, n = (ps.map mkS).length := ⟨_, rfl⟩
  obtain ⟨m, hm⟩ : ∃ n, n = (bs.map mkS).length := ⟨_, rfl⟩
  rw [← hp, ← hm]
  obtain ⟨w0, hw0⟩ : ∃ w0, w0 = w.alloc (.cells #[.int .i64 1, .string (mkS nb), .bool true, .slice A1 p c1, .slice A2 m c2, .slice none 0 0] 26) := ⟨_, rfl⟩
  have hb0 : Below w.heap.size w w0 := hw0 ▸ (Below.refl _ _).alloc (Nat.le_refl _) _
  have hB := Blk.lit w #[.int .i64 1, .string (mkS nb), .bool true, .slice A1 p c1, .slice A2 m c2, .slice none 0 0] 26
  rw [← hw0] at hB
  have k0 : w0.cell? ⟨w.heap.size, 0, none⟩ = some (.int .i64 1) := hB.cell (i := 0) (by simp)
  have k1 : w0.cell? ⟨w.heap.size, 1, none⟩ = some (.string (mkS nb)) := hB.cell (i := 1) (by simp)
  have k2 : w0.cell? ⟨w.heap.size, 2, none⟩ = some (.bool true) := hB.cell (i := 2) (by simp)
  have k3 : w0.cell? ⟨w.heap.size, 3, none⟩ = some (.slice A1 p c1) := hB.cell (i := 3) (by simp)
  have k4 : w0.cell? ⟨w.heap.size, 4, none⟩ = some (.slice A2 m c2) := hB.cell (i := 4) (by simp)
  obtain ⟨t, t1, t2⟩ := plain_f nb (by omega)
  have G1 := Lib.hid (gd_plain (w := w0) t1)
  obtain ⟨r2, b1⟩ := body_f hl2 hw2
  obtain ⟨kb, hkb⟩ := b1.rounds
  have G2 : Hid (Gd w0 22 #[.slice A2 m c2, .bool true] (.bool r2)) := Lib.hid (gd_of fun q => by
    have h := spec_isBody.calls kb A2 c2 (bs.map mkS) true r2 (w0.drewN q) (Kd.C_drewN (Kd.C_below hr2 hb0) q) hc2 hkb
    rw [← hm] at h
    exact h)
  have G3 : Hid (∀ q, Calls Tryz.prog 23 #[.slice A1 p c1] (w0.drewN q) (PKQ ps (w0.drewN q))) := Lib.hid (fun q => by
    have h := paramsOk_any (w := w0.drewN q) (Kd.C_drewN (Kd.C_below hr1 hb0) q) hc1 hl1 hw1
    rw [← hp] at h
    exact h)
  have hs : (mkS nb).size = nb.length := mkS_size nb
  obtain ⟨nl, hnl⟩ : ∃ q, q = nb.length := ⟨_, rfl⟩
  rw [← hnl] at hs hnb
  have T2 := Lib.hid t2
  have Hb0 := Lib.hid hb0
  have Hw0 := Lib.hid hw0
  obtain ⟨wb, hwb⟩ : ∃ q, q = w.heap.size := ⟨_, rfl⟩
  rw [← hwb] at k0 k1 k2 k3 k4
  have Hwb := Lib.hid hwb
  clear hr1 hc1 hl1 hw1 hr2 hc2 hl2 hw2 hp hm hb0 hB t1 t2 b1 hkb hnl hw0 hwb
  go_enter Tryz.func8, Tryz.ntmps8
  go_upto_region 1 with (fail)
  rw [← Hw0.out, ← Hwb.out]
  go_wp2_with fail
  refine (G1.out 0).mono ?_
  rintro e w1 ⟨rfl, j1, rfl⟩
  cases t with
  | false =>
    go_wp2
    go_ret
    exact ⟨false, rfl, fun h => (by cases h), below_drewN Hb0.out _⟩
  | true =>
  go_wp2_with fail
  refine (G2.out _).mono ?_
  rintro e w2 ⟨rfl, j2, rfl⟩
  cases r2 with
  | false =>
    go_wp2
    go_ret
    exact ⟨false, rfl, fun h => (by cases h), below_drewN Hb0.out _⟩
  | true =>
  go_wp2_with fail
  refine (G3.out _).mono ?_
  rintro e w3 ⟨r3, rfl, hr3, j3, rfl⟩
  have hfin : ∀ r k, (r = true → r3 = true) → IOQ nb ps w (.returned (.bool r)) (w0.drewN k) := fun r k h => ⟨r, rfl, fun hr => ⟨(T2.out (by first | rfl | trivial)).2, hr3 (h hr)⟩, below_drewN Hb0.out _⟩
  have Hfin := Lib.hid hfin
  clear hfin hr3
  cases r3 with
  | false =>
    go_wp2
    go_ret
    exact Hfin.out false _ (fun h => h)
  | true =>
    go_wp2
    go_ret
    exact Hfin.out _ _ (fun _ => by first | rfl | trivial)

def ITQ (x : Bs) (w : World) (e : Ending) (w' : World) : Prop := e = .returned (.string (mkS x)) ∧ Below w.heap.size w w'

set_option maxRecDepth 100000 in
set_option maxHeartbeats 4000000 in
theorem itemText_any (hnb : nb.length ≤ 60) (hr1 : Kd.C Kd.string w A1 (ps.map mkS).length (ps.map mkS)) (hc1 : (ps.map mkS).length ≤ c1) (hl1 : ps.length ≤ 5) (hw1 : ∀ x ∈ ps, x.length ≤ 60) (hr2 : Kd.C Kd.string w A2 (bs.map mkS).length (bs.map mkS)) (hc2 : (bs.map mkS).length ≤ c2) (hl2 : bs.length ≤ 20) (hw2 : ∀ x ∈ bs, x.length ≤ 60 ∧ x ≠ [10]) :
    Calls Tryz.prog 11 #[.agg #[.int .i64 1, .string (mkS nb), .bool true, .slice A1 (ps.map mkS).length c1, .slice A2 (bs.map mkS).length c2, .slice none 0 0]] w (ITQ (defA nb ps bs []) w) := by
  obtain ⟨p, hp⟩ : ∃ n, n = (ps.map mkS).length := ⟨_, rfl⟩
  obtain ⟨m, hm⟩ : ∃ n, n = (bs.map mkS).length := ⟨_, rfl⟩
  rw [← hp, ← hm]
  obtain ⟨w0, hw0⟩ : ∃ w0, w0 = w.alloc (.cells #[.int .i64 1, .string (mkS nb), .bool true, .slice A1 p c1, .slice A2 m c2, .slice none 0 0] 26) := ⟨_, rfl⟩
  have hb0 : Below w.heap.size w w0 := hw0 ▸ (Below.refl _ _).alloc (Nat.le_refl _) _
  have hB := Blk.lit w #[.int .i64 1, .string (mkS nb), .bool true, .slice A1 p c1, .slice A2 m c2, .slice none 0 0] 26
  rw [← hw0] at hB
  have k0 : w0.cell? ⟨w.heap.size, 0, none⟩ = some (.int .i64 1) := hB.cell (i := 0) (by simp)
  have k1 : w0.cell? ⟨w.heap.size, 1, none⟩ = some (.string (mkS nb)) := hB.cell (i := 1) (by simp)
  have k2 : w0.cell? ⟨w.heap.size, 2, none⟩ = some (.bool true) := hB.cell (i := 2) (by simp)
  have k3 : w0.cell? ⟨w.heap.size, 3, none⟩ = some (.slice A1 p c1) := hB.cell (i := 3) (by simp)
  have k4 : w0.cell? ⟨w.heap.size, 4, none⟩ = some (.slice A2 m c2) := hB.cell (i := 4) (by simp)
  obtain ⟨kl, hkl⟩ := (list_f (ws := ps) (by omega) hw1).rounds
  have G1 : Hid (Gd w0 33 #[.slice A1 p c1, .string (mkS [44, 32])] (.string (mkS (parB ps)))) := Lib.hid (gd_of fun q => by
    have h := spec_list.calls kl A1 c1 (ps.map mkS) (mkS [44, 32]) _ (w0.drewN q) (Kd.C_drewN (Kd.C_below hr1 hb0) q) hc1 hkl
    rw [← hp] at h
    exact h)
  have G2 : Hid (∀ q, Calls Tryz.prog 34 #[.slice A2 m c2] (w0.drewN q) (Dr (w0.drewN q) (.string (mkS (bodB bs))))) := Lib.hid (fun q => by
    have h := bodyText_any (w := w0.drewN q) (Kd.C_drewN (Kd.C_below hr2 hb0) q) hc2 (by omega) hw2
    rw [← hm] at h
    exact h)
  have hs : (mkS nb).size = nb.length := mkS_size nb
  have l1 := parB_len ps hw1
  have l2 := bodB_len bs (fun x hx => (hw2 x hx).1)
  have hx : ⟨#[35, 100, 101, 102, 105, 110, 101, 32]⟩ ++ (mkS nb ++ (⟨#[40]⟩ ++ mkS (parB ps) ++ ⟨#[41]⟩)) ++ mkS (bodB bs) ++ ⟨#[10]⟩ = mkS (defA nb ps bs []) := by
    rw [show (⟨#[35, 100, 101, 102, 105, 110, 101, 32]⟩ : ByteArray) = mkS [35, 100, 101, 102, 105, 110, 101, 32] from rfl, show (⟨#[40]⟩ : ByteArray) = mkS [40] from rfl, show (⟨#[41]⟩ : ByteArray) = mkS [41] from rfl, show (⟨#[10]⟩ : ByteArray) = mkS [10] from rfl]
    simp only [mkS_app]
    congr 1
    simp [defA, kwDefine]
  obtain ⟨x1, hx1⟩ : ∃ x, x = mkS (parB ps) := ⟨_, rfl⟩
  obtain ⟨x2, hx2⟩ : ∃ x, x = mkS (bodB bs) := ⟨_, rfl⟩
  have s1 : x1.size = (parB ps).length := by rw [hx1, mkS_size]
  have s2 : x2.size = (bodB bs).length := by rw [hx2, mkS_size]
  rw [← hx1] at G1 hx
  rw [← hx2] at G2 hx
  obtain ⟨q1, hq1⟩ : ∃ q, q = (parB ps).length := ⟨_, rfl⟩
  obtain ⟨q2, hq2⟩ : ∃ q, q = (bodB bs).length := ⟨_, rfl⟩
  rw [← hq1] at s1 l1
  rw [← hq2] at s2 l2
  have l1' : q1 ≤ 310 := by omega
  have l2' : q2 ≤ 1220 := by omega
  obtain ⟨nl, hnl⟩ : ∃ q, q = nb.length := ⟨_, rfl⟩
  rw [← hnl] at hs hnb
  have HX := Lib.hid hx
  have Hb0 := Lib.hid hb0
  have Hw0 := Lib.hid hw0
  obtain ⟨wb, hwb⟩ : ∃ q, q = w.heap.size := ⟨_, rfl⟩
  rw [← hwb] at k0 k1 k2 k3 k4
  have Hwb := Lib.hid hwb
  have e44 : (⟨#[44, 32]⟩ : ByteArray) = mkS [44, 32] := rfl
  clear hr1 hc1 hl1 hw1 hr2 hc2 hl2 hw2 hp hm hb0 hB hkl hnl hw0 hwb hx hx1 hx2 hq1 hq2 l1 l2
  go_enter Tryz.func11, Tryz.ntmps11
  go_upto_region 1 with (fail)
  rw [← Hw0.out, ← Hwb.out]
  go_wp2_with fail
  refine (G1.out 0).mono ?_
  rintro e w1 ⟨rfl, j1, rfl⟩
  go_wp2_with fail
  refine (G2.out _).mono ?_
  rintro e w2 ⟨rfl, j2, rfl⟩
  have Hfin : Hid (∀ k, ITQ (defA nb ps bs []) w (.returned (.string (mkS (defA nb ps bs [])))) (w0.drewN k)) := Lib.hid (fun k => ⟨rfl, below_drewN Hb0.out _⟩)
  go_wp2
  rw [HX.out]
  go_ret
  exact Hfin.out _
end
/-- A row of strings, as helpers want it. -/
theorem kd_strA {w : World} {a : Option Addr} {n c : Nat} {l : List ByteArray} (h : Strs w (.slice a n c) l) : n = l.length ∧ l.length ≤ c ∧ Kd.C Kd.string w a l.length l := by
  have h' : w.ownsRow 0 9 1 (.slice a n c) l.length (l.map Value.string) := h
  obtain ⟨h1, ⟨e, e0⟩ | ⟨g, cap, cur, e, _, hb, h2, h3, h4, h5⟩⟩ := h
  · cases e
    have : l = [] := List.eq_nil_of_length_eq_zero e0
    subst this
    exact ⟨rfl, by simp, Kd.C_nil _ _⟩
  · cases e
    refine ⟨rfl, h2, Kd.C_of_reads (enc := Value.string) (d := ByteArray.empty) (h1 := fun _ => rfl) ⟨rfl, by unfold maxLen at h3; omega, fun hp => ⟨⟨g, 0, none⟩, rfl, fun j hj => ?_⟩⟩⟩
    have := h'.cells (g := g) rfl j (.string l[j]) (by rw [List.getElem?_map, List.getElem?_eq_getElem hj]; rfl)
    rw [this, List.getD_eq_getElem?_getD, List.getElem?_eq_getElem hj]
    rfl

def SQA (w : World) (e : Ending) (w' : World) : Prop := e = .returned (.bool true) ∧ Below w.heap.size w w'

section
variable {w : World} {ev : Value} {b0 : Bs} {l1 : List Bs} {A1 : Option Addr} {c1 : Nat} {l2 : List Bs} {A2 : Option Addr} {c2 : Nat}
set_option maxRecDepth 100000 in
set_option maxHeartbeats 4000000 in
theorem args_law (hr1 : Kd.C Kd.string w A1 (l1.map mkS).length (l1.map mkS)) (hc1 : (l1.map mkS).length ≤ c1) (hr2 : Kd.C Kd.string w A2 (l2.map mkS).length (l2.map mkS)) (hc2 : (l2.map mkS).length ≤ c2) (hg : Glob w ev) (hB : 21 ≤ w.heap.size) :
    Calls Tryz.prog 3 #[.string (mkS b0), .slice A1 (l1.map mkS).length c1, .slice A2 (l2.map mkS).length c2] w (LawQ w) := by
  have Hfin := Lib.hid (lawq_drewN w)
  have Hg := Lib.hid hg
  have s0 := mkS_size b0
  obtain ⟨n0, e0⟩ : ∃ n, n = b0.length := ⟨_, rfl⟩
  rw [← e0] at s0
  have N0 := Lib.hid e0
  obtain ⟨m1, e1⟩ : ∃ m, m = (l1.map mkS).length := ⟨_, rfl⟩
  have M1 := Lib.hid e1
  have R1 := Lib.hid hr1
  have C1 := Lib.hid hc1
  have q1 : m1 ≤ c1 := by rw [e1]; exact hc1
  rw [← e1]
  obtain ⟨m2, e2⟩ : ∃ m, m = (l2.map mkS).length := ⟨_, rfl⟩
  have M2 := Lib.hid e2
  have R2 := Lib.hid hr2
  have C2 := Lib.hid hc2
  have q2 : m2 ≤ c2 := by rw [e2]; exact hc2
  rw [← e2]
  clear hg e0 e1 e2 hr1 hc1 hr2 hc2
  go_enter Tryz.func3, Tryz.ntmps3
  change Code.wp _ _ _ _ (w.drewN 0)
  rcases Nat.lt_or_ge 2147483647 n0 with hz0 | hz0
  · go_wp2
    go_ret
    exact Hfin.out _
  obtain ⟨t1, z1, y1⟩ := fits_f (ws := l1)
  have g1 := gd_fits R1.out C1.out z1
  rw [← M1.out] at g1
  have G := Lib.hid g1
  have F1 := Lib.hid y1
  clear g1 z1 y1
  go_wp2_with fail
  refine (G.out _).mono ?_
  rintro e u1 ⟨rfl, j1, rfl⟩
  clear G
  cases t1 with
  | false => go_wp2; go_ret; exact Hfin.out _
  | true =>
  obtain ⟨t2, z2, y2⟩ := fits_f (ws := l2)
  have g2 := gd_fits R2.out C2.out z2
  rw [← M2.out] at g2
  have G := Lib.hid g2
  have F2 := Lib.hid y2
  clear g2 z2 y2
  go_wp2_with fail
  refine (G.out _).mono ?_
  rintro e u2 ⟨rfl, j2, rfl⟩
  clear G
  cases t2 with
  | false => go_wp2; go_ret; exact Hfin.out _
  | true =>
  have hbj : Below w.heap.size w (w.drewN j2) := below_drewN (Below.refl _ _) _
  have Hbj := Lib.hid hbj
  clear hbj
  generalize w.drewN j2 = wj at Hbj ⊢
  have hb0 : Below w.heap.size w (wj.alloc (.cells #[.int .i64 1, .string (mkS b0), .bool true, .slice A1 m1 c1, .slice A2 m2 c2, .slice none 0 0] 26)) := Hbj.out.alloc Hbj.out.size _
  have hB0 := Blk.lit wj #[.int .i64 1, .string (mkS b0), .bool true, .slice A1 m1 c1, .slice A2 m2 c2, .slice none 0 0] 26
  have Hb0 := Lib.hid hb0
  have HB0 := Lib.hid hB0
  clear hb0 hB0
  obtain ⟨wb, hwb⟩ : ∃ q, q = wj.heap.size := ⟨_, rfl⟩
  rw [← hwb] at HB0
  have Hwb := Lib.hid hwb
  obtain ⟨w0, hw0⟩ : ∃ q, q = wj.alloc (.cells #[.int .i64 1, .string (mkS b0), .bool true, .slice A1 m1 c1, .slice A2 m2 c2, .slice none 0 0] 26) := ⟨_, rfl⟩
  have Hw0 := Lib.hid hw0
  rw [← hw0] at Hb0 HB0
  clear hwb hw0
  go_upto_region 4 with (fail)
  rw [← Hw0.out, ← Hwb.out]
  clear Hw0 Hwb Hbj
  have hcell : ∀ w', Below w0.heap.size w0 w' → w'.cell? ⟨wb, 0, none⟩ = some (.int .i64 1) ∧ w'.cell? ⟨wb, 1, none⟩ = some (.string (mkS b0)) ∧ w'.cell? ⟨wb, 2, none⟩ = some (.bool true) ∧ w'.cell? ⟨wb, 3, none⟩ = some (.slice A1 m1 c1) ∧ w'.cell? ⟨wb, 4, none⟩ = some (.slice A2 m2 c2) ∧ w'.cell? ⟨wb, 5, none⟩ = some (.slice none 0 0) := fun w' hb => by
    have h := HB0.out.of_heap (hb.block _ HB0.out.lt)
    exact ⟨h.cell (i := 0) (by simp), h.cell (i := 1) (by simp), h.cell (i := 2) (by simp), h.cell (i := 3) (by simp), h.cell (i := 4) (by simp), h.cell (i := 5) (by simp)⟩
  have Hcell := Lib.hid hcell
  clear hcell
  have Hf2 : Hid (∀ k, LawQ w (.returned (.bool true)) (w0.drewN k)) := Lib.hid (fun k => ⟨rfl, below_drewN Hb0.out k⟩)
  obtain ⟨t, z, y⟩ := line_f (F2.out (by first | rfl | trivial)).2 (F2.out (by first | rfl | trivial)).1
  have g := gd_line (Kd.C_below R2.out Hb0.out) C2.out z
  rw [← M2.out] at g
  have G := Lib.hid g
  have Y := Lib.hid y
  clear g z y
  go_wp2_with fail
  refine (G.out 0).mono ?_
  rintro e u3 ⟨rfl, j3, rfl⟩
  clear G
  cases t with
  | false => go_wp2; go_ret; exact Hf2.out _
  | true =>
  have W2 : Hid (∀ x ∈ l2, WordL x) := Lib.hid (fun x hx => ((Y.out (by first | rfl | trivial)).1 x hx).word)
  have T2 : Hid (l2.length ≤ 20) := Lib.hid (Y.out (by first | rfl | trivial)).2
  clear Y
  rcases Nat.lt_or_ge 60 n0 with h60 | h60
  · go_wp2
    go_ret
    exact Hf2.out _
  rcases Nat.eq_zero_or_pos m1 with e0 | hpos
  · subst e0
    go_wp2
    go_ret
    exact Hf2.out _
  have hpos2 : ¬ (m1 : Int) < 1 := by omega
  have hn0 : b0.length ≤ 60 := by rw [← N0.out]; exact h60
  have hio : ∀ k, Calls Tryz.prog 8 #[.agg #[.int .i64 1, .string (mkS b0), .bool true, .slice A1 m1 c1, .slice A2 m2 c2, .slice none 0 0]] (w0.drewN k) (IOQ b0 l1 (w0.drewN k)) := fun k => by
    have h := itemOk_any (w := w0.drewN k) (nb := b0) (ps := l1) (bs := l2) (A1 := A1) (A2 := A2) (c1 := c1) (c2 := c2) hn0 (Kd.C_drewN (Kd.C_below R1.out Hb0.out) k) C1.out (F1.out (by first | rfl | trivial)).2 (F1.out (by first | rfl | trivial)).1 (Kd.C_drewN (Kd.C_below R2.out Hb0.out) k) C2.out (F2.out (by first | rfl | trivial)).2 (F2.out (by first | rfl | trivial)).1
    rw [← M1.out, ← M2.out] at h
    exact h
  have HIO := Lib.hid hio
  obtain ⟨k0, k1, k2, k3, k4, k5⟩ := Hcell.out (w0.drewN j3) (below_drewN (Below.refl _ _) _)
  clear hio
  go_wp2_with fail
  refine (HIO.out _).mono ?_
  rintro e w1 ⟨r, rfl, hr, hb1⟩
  have hb01 : Below w0.heap.size w0 w1 := (below_drewN (Below.refl _ _) j3).trans (hb1.mono (Nat.le_refl _))
  have Hb01 := Lib.hid hb01
  have Hr := Lib.hid hr
  clear hb1 hb01 hr HIO k0 k1 k2 k3 k4 k5
  cases r with
  | false =>
    have Hend : Hid (∀ k, LawQ w (.returned (.bool true)) (w1.drewN k)) := Lib.hid (fun k => ⟨rfl, below_drewN (Hb0.out.trans (Hb01.out.mono Hb0.out.size)) k⟩)
    go_wp2
    go_ret
    first | exact Hend.out 0 | exact Hend.out _
  | true =>
  obtain ⟨hPN, hPs, hnd, hp5⟩ := Hr.out (by first | rfl | trivial)
  have hbw1 : Below w.heap.size w w1 := Hb0.out.trans (Hb01.out.mono Hb0.out.size)
  obtain ⟨k0, k1, k2, k3, k4, k5⟩ := Hcell.out w1 Hb01.out
  have hp0 : l1 ≠ [] := fun e => by have := M1.out; rw [e] at this; simp at this; omega
  have hit : Calls Tryz.prog 11 #[.agg #[.int .i64 1, .string (mkS b0), .bool true, .slice A1 m1 c1, .slice A2 m2 c2, .slice none 0 0]] w1 (ITQ (defA b0 l1 l2 []) w1) := by
    have h := itemText_any (w := w1) (nb := b0) (ps := l1) (bs := l2) (A1 := A1) (A2 := A2) (c1 := c1) (c2 := c2) hn0 (Kd.C_below R1.out hbw1) C1.out hp5 (fun x hx => (hPs x hx).2) (Kd.C_below R2.out hbw1) C2.out T2.out (fun x hx => ⟨(W2.out x hx).len, (W2.out x hx).nnl⟩)
    rw [← M1.out, ← M2.out] at h
    exact h
  obtain ⟨T, n, s', t1, t2, t3, t4⟩ := args_run (y := yMain (defA b0 l1 l2 [])) hPN hn0 hp0 (by omega) hPs hnd W2.out T2.out
  have hlen1 := parB_len l1 (fun x hx => (hPs x hx).2)
  have hlen2 := bodB_len l2 (fun x hx => (W2.out x hx).len)
  have hT2 := T2.out
  have hdl : (defA b0 l1 l2 []).length ≤ 5000 := by
    unfold defA
    simp only [List.length_cons, List.length_append, List.length_nil]
    have : kwDefine.length = 6 := rfl
    omega
  have hasc : ascii (defA b0 l1 l2 []) := by
    have ha1 : ∀ ps : List Bs, (∀ p ∈ ps, PName p) → ascii (parB ps) := by
      intro ps
      induction ps with
      | nil => intro _ y hy; simp [parB] at hy
      | cons x r ih =>
        intro hps
        cases r with
        | nil => exact (hps x (by simp)).ascii
        | cons q r =>
          show ascii (x ++ 44 :: 32 :: parB (q :: r))
          exact ascii_app (hps x (by simp)).ascii (ascii_cons (by decide) (ascii_cons (by decide) (ih (fun p hp => hps p (by simp at hp ⊢; right; exact hp)))))
    have ha2 : ascii (bodB l2) := by
      intro y hy
      obtain ⟨x, hx, hy⟩ := List.mem_flatMap.1 hy
      rcases List.mem_cons.1 hy with rfl | hy
      · decide
      · exact (W2.out x hx).ascii y hy
    unfold defA
    exact ascii_cons (by decide) (ascii_app (by unfold ascii; decide) (ascii_cons (by decide) (ascii_app hPN.ascii (ascii_cons (by decide) (ascii_app (ha1 l1 (fun p hp => (hPs p hp).1)) (ascii_cons (by decide) (ascii_app ha2 (ascii_cons (by decide) (by intro b h; cases h)))))))))
  have hmk : ∀ t ∈ l2.map tokW, -1000000 ≤ t.1 ∧ t.1 < 1000000 := fun t ht => by
    obtain ⟨x, hx, rfl⟩ := List.mem_map.1 ht
    have := (W2.out x hx).kind
    exact ⟨this.2.2.2.2.2.1, this.2.2.2.2.2.2.1⟩
  have HM : Hid (∀ w', Below w.heap.size w w' → Calls Tryz.prog 9 #[.slice (some ⟨w'.heap.size, 0, none⟩) 1 1, .slice none 0 0, .string (mkS b0)] (w'.alloc (.cells #[.string mainName, .string (mkS (defA b0 l1 l2 []))] 51)) (MOQ true l1 (l2.map tokW) (w'.alloc (.cells #[.string mainName, .string (mkS (defA b0 l1 l2 []))] 51)))) := Lib.hid (fun w' hb =>
    mof (oa := some l1) (TK := l2.map tokW) (ob := true) (by omega) t1 hasc t2 t3 (.inl ⟨t4, rfl⟩) (by omega) (by simp; omega) (by simp; omega) hmk (Hg.out.only (Only.ofBelow hb) (fun k hk e => by omega)) (Nat.le_trans hB hb.size))
  obtain ⟨kt, hkt⟩ := (texts_f (ws := l1) (by omega)).rounds
  have hto : Ev (fun k => laws_tokensOf.f k (l2.map mkS)) ((l2.map tokW).map s56) := by
    have h := tokens_f (ws := l2) kindW (by omega) (fun x hx => ⟨by have := (W2.out x hx).len; omega, (W2.out x hx).ascii, (W2.out x hx).ev⟩)
    have el : (l2.map fun w => (⟨kindW w, mkS w⟩ : S71)) = (l2.map tokW).map s56 := by rw [List.map_map]; rfl
    rwa [el] at h
  obtain ⟨ko, hko⟩ := hto.rounds
  obtain ⟨ks, hks⟩ := (same_f ((l2.map tokW).map s56) (by simp; omega)).rounds
  obtain ⟨tx, htx⟩ : ∃ x, x = mkS (defA b0 l1 l2 []) := ⟨_, rfl⟩
  have HIT := Lib.hid hit
  have Hkt := Lib.hid hkt
  have Hko := Lib.hid hko
  have Hks := Lib.hid hks
  have Hbw1 := Lib.hid hbw1
  clear hit hkt hko hks hto hbw1 hPN hPs hnd hp5 hp0 t1 t2 t3 t4 hlen1 hlen2 hdl hasc hmk htx
  go_wp2_with fail
  refine HIT.out.mono ?_
  rintro e w2 ⟨rfl, hb2⟩
  have Hbw2 : Hid (Below w.heap.size w w2) := Lib.hid (Hbw1.out.trans (hb2.mono Hbw1.out.size))
  clear hb2 k0 k1 k2 k3 k4 k5
  go_wp2_with fail
  refine fileOf_any.mono ?_
  rintro e w3 ⟨rfl, rfl⟩
  go_wp2_with fail
  refine (HM.out _ (by first | exact Hbw2.out | exact below_drewN Hbw2.out _)).mono ?_
  rintro e w4 ⟨aa, al, ac, ta, tl, tc, rfl, hS, hTk, hb4⟩
  obtain ⟨ha1, ha2, ha3⟩ := kd_strA hS
  obtain ⟨hq1, hq2, hq3⟩ := kd_tokens hTk
  have hbw4 : Below w.heap.size w w4 := by
    refine Below.trans ?_ (hb4.mono ?_)
    · first | exact Hbw2.out.alloc Hbw2.out.size _ | exact (below_drewN Hbw2.out _).alloc Hbw2.out.size _
    · have := Hbw2.out.size; simp; omega
  have hal : al = m1 := by rw [ha1, M1.out]
  subst hal
  have hst : Calls Tryz.prog 12 #[.slice aa al ac, .slice A1 al c1] w4 fun e w' => e = .returned (.bool true) ∧ ∃ j, w' = w4.drewN j := by
    have h := spec_SameTexts.calls kt aa ac (l1.map mkS) A1 c1 (l1.map mkS) true w4 ha3 ha2 (Kd.C_below R1.out hbw4) C1.out Hkt.out
    rw [← ha1] at h
    refine h.mono ?_
    rintro e w' ⟨rfl, ⟨j, rfl⟩⟩
    exact ⟨rfl, j, rfl⟩
  have htt : ∀ j, Calls Tryz.prog 14 #[.slice A2 m2 c2] (w4.drewN j) fun e w' => ∃ A c, e = .returned (.slice A ((l2.map tokW).map s56).length c) ∧ ((l2.map tokW).map s56).length ≤ c ∧ Kd.C k71 w' A ((l2.map tokW).map s56).length ((l2.map tokW).map s56) ∧ Below w4.heap.size w4 w' := fun j => by
    have h := laws_tokensOf.calls ko A2 c2 (l2.map mkS) _ (w4.drewN j) (Kd.C_drewN (Kd.C_below R2.out hbw4) j) C2.out Hko.out
    rw [← M2.out] at h
    refine h.mono ?_
    rintro e w' ⟨v0, rfl, hR, hb⟩
    obtain ⟨A, c, rfl, h1, h2⟩ := Kd.R_reads hR
    exact ⟨A, c, rfl, h1, h2, (below_drewN (Below.refl _ _) j).trans (hb.mono (Nat.le_refl _))⟩
  obtain ⟨tn, htn⟩ : ∃ q, q = ((l2.map tokW).map s56).length := ⟨_, rfl⟩
  rw [← htn] at hq1 hq2 hq3 htt
  subst hq1
  have Hst := Lib.hid hst
  have Htt := Lib.hid htt
  have Hq3 := Lib.hid hq3
  have Htn := Lib.hid htn
  have Hbw4 := Lib.hid hbw4
  clear hS hTk hb4 ha1 ha2 ha3 hq3 hbw4 hst htt htn
  go_wp2_with fail
  refine Hst.out.mono ?_
  rintro e w5 ⟨rfl, j5, rfl⟩
  go_wp2_with fail
  refine (Htt.out _).mono ?_
  rintro e w6 ⟨A, c, rfl, hc6, hC6, hb6⟩
  have hss : Calls Tryz.prog 13 #[.slice ta tl tc, .slice A tl c] w6 (SQA w6) := by
    have h := spec_SameTokens.calls ks ta tc ((l2.map tokW).map s56) A c ((l2.map tokW).map s56) true w6 (by rw [← Htn.out]; exact Kd.C_below Hq3.out hb6) (by rw [← Htn.out]; exact hq2) (by rw [← Htn.out]; exact hC6) (by rw [← Htn.out]; exact hc6) Hks.out
    rw [← Htn.out] at h
    exact h
  have Hss := Lib.hid hss
  have Hb6 : Hid (Below w.heap.size w w6) := Lib.hid (Hbw4.out.trans (hb6.mono Hbw4.out.size))
  clear hC6 hb6 hss
  go_wp2_with fail
  refine Hss.out.mono ?_
  rintro e w7 ⟨rfl, hb7⟩
  have Hend : Hid (LawQ w (.returned (.bool true)) w7) := Lib.hid ⟨rfl, Hb6.out.trans (hb7.mono Hb6.out.size)⟩
  clear hb7
  go_wp2
  go_ret
  exact Hend.out
end
end Go.Proofs.YtkoeeolmbhobkaaGreatDoor
