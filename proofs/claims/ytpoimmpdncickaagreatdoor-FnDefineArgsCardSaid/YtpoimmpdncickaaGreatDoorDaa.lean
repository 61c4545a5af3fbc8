/- The law FnDefineArgs's walk: it returns true. -/
import Derived.Test.YtpoimmpdncickaaGreatDoorJ12
import Derived.Test.YtpoimmpdncickaaGreatDoorJ9
/- A macro with an argument: the lines' tokens, what is told of them; plain lists. -/
namespace Go.Proofs.YtpoimmpdncickaaGreatDoor
open Go Go.RowKit Lex Go.Proofs.YtpoimmpdncickaaGreatDoorW.PrintWords Go.Proofs.YtpoimmpdncickaaGreatDoor.PHelp
set_option linter.unusedVariables false
set_option linter.unusedSimpArgs false

/-- The file. -/
def argF (name p : Bs) (body arg rest : List Bs) : Bs := 35 :: (kwDefine ++ 32 :: (name ++ 40 :: (p ++ 41 :: 32 :: (textB body ++ 10 :: (name ++ 40 :: (textB arg ++ 41 :: 32 :: (textB rest ++ 10 :: [])))))))

theorem adv_le2 : ∀ (z : Bs) (c : Nat), adv c z ≤ c + z.length
  | [], c => by simp [adv]
  | a :: z, c => by
    have h := adv_le2 z (if a = 10 then 1 else c + 1)
    simp only [adv, List.length_cons]
    split at h <;> rename_i h10
    · rw [if_pos h10]; omega
    · rw [if_neg h10]; omega
theorem pc_sign {c : UInt8} {p tail : Bs} {ts : List (Int × Bs)} (hc : isPlain c = true) (h1 : two (c.toNat : Int) = none) (hp : blanks p) (h : Pc tail ts) : Pc (p ++ c :: tail) (((c.toNat : Int), [c]) :: ts) :=
  .cons (z := p ++ [c]) (r' := tail) (.one (k := (c.toNat : Int)) (x := [c]) hp (.char hc) (by omega) (by simp) (by intro d n e; rw [h1] at e; cases e)) (by omega) h

/-- The tokens of a definition up to its bracket, with the bracket's place. -/
theorem tl_open {name X : Bs} {ts : List (Int × Bs)} (hn : PName name) (hnl : name.length ≤ 60) (h5 : Pc X ts) (l c : Nat) (hc : c ≤ 1000000) :
    ∃ t kt nt op T, TL (35 :: (kwDefine ++ 32 :: (name ++ 40 :: X))) l c (t :: kt :: nt :: op :: T) ∧ Tok.kx t = (35, [35]) ∧ Tok.kx kt = (-2, kwDefine) ∧ Tok.kx nt = (-2, name) ∧ Tok.kx op = (40, [40]) ∧ op.col = nt.col + 1 ∧ nt.col < 10000000 ∧ T.map Tok.kx = ts := by
  have h1 : TNext (35 :: (kwDefine ++ 32 :: (name ++ 40 :: X))) 35 [35] [35] (kwDefine ++ 32 :: (name ++ 40 :: X)) :=
    .one (ws := []) (k := ((35 : UInt8).toNat : Int)) (x := [35]) (by intro b h; cases h) (.char (by decide)) (by decide) (by simp) (by intro d n e; cases e)
  have h2 : TNext (kwDefine ++ 32 :: (name ++ 40 :: X)) (-2) kwDefine kwDefine (32 :: (name ++ 40 :: X)) :=
    .one (ws := []) (x := kwDefine) (by intro b h; cases h) (.ident (c := 100) (x := [101, 102, 105, 110, 101]) (by decide) (by decide) (fun c hc => by simp at hc; subst hc; decide)) (by decide) (by decide) (by intro d n e; cases e)
  obtain ⟨c0, y, rfl, n1, n2⟩ := hn
  have h3 : TNext (32 :: ((c0 :: y) ++ 40 :: X)) (-2) (c0 :: y) (32 :: (c0 :: y)) (40 :: X) :=
    .one (ws := [32]) (x := c0 :: y) blanks_one (.ident n1 n2 (fun c hc => by simp at hc; subst hc; decide)) (by decide) (Nat.le_trans hnl (by decide)) (by intro d n e; cases e)
  have h4 : TNext (40 :: X) 40 [40] [40] X :=
    .one (ws := []) (k := ((40 : UInt8).toNat : Int)) (x := [40]) (by intro b h; cases h) (.char (by decide)) (by decide) (by simp) (by intro d n e; cases e)
  obtain ⟨T, t1, t2⟩ := h5.tl (lineAt (lineAt (lineAt (lineAt l 35) (-2)) (-2)) 40) (adv (adv (adv (adv c [35]) kwDefine) (32 :: (c0 :: y))) [40])
  refine ⟨_, _, _, _, T, .cons h1 (by decide) (.cons h2 (by decide) (.cons h3 (by decide) (.cons h4 (by decide) t1))), rfl, rfl, rfl, rfl, by simp [adv], ?_, t2⟩
  have e1 := adv_le2 (32 :: (c0 :: y)) (adv (adv c [35]) kwDefine)
  have e2 := adv_le2 kwDefine (adv c [35])
  have e3 := adv_le2 [35] c
  simp only [List.length_cons, List.length_nil] at e1 e3 hnl
  have : kwDefine.length = 6 := rfl
  show adv (adv (adv c [35]) kwDefine) (32 :: (c0 :: y)) < 10000000
  omega

theorem WordL.kindc {w : Bs} (h : WordL w) {c : UInt8} (hc : kindW w = (c.toNat : Int)) : w = [c] := by
  have hw := h.wd
  generalize hk : kindW w = kd at hw hc
  cases hw with
  | p1 => omega
  | p2 => omega
  | p3 => omega
  | p4 => omega
  | nl => exact absurd rfl h.nnl
  | @mark d hd =>
    have : d = c := UInt8.toNat_inj.1 (by omega)
    rw [this]
  | name _ => omega
  | num hn => omega
  | quo hq => omega

section
variable {y : Wy} {s : Sg} {R : List (Int × Bs)} {mac : Bs → Option Mc} {mn : Nat}

theorem subK_words {p : Bs} (hp : PName p) {arg body : List Bs} (hb : ∀ w ∈ body, WordL w) : subK p (arg.map tokW) (body.map tokW) = (body.flatMap (repW p arg)).map tokW := by
  induction body with
  | nil => rfl
  | cons w r ih =>
    have e : subK p (arg.map tokW) ((w :: r).map tokW) = (if (tokW w).1 = -2 ∧ (tokW w).2 = p then arg.map tokW else [tokW w]) ++ subK p (arg.map tokW) (r.map tokW) := by simp [subK]
    rw [e, ih (fun x hx => hb x (by simp [hx])), List.flatMap_cons, List.map_append]
    congr 1
    by_cases h : w = p
    · have hk : kindW w = -2 := (hb w (by simp)).name_kind (h ▸ hp)
      have e1 : (tokW w).1 = -2 ∧ (tokW w).2 = p := ⟨hk, h⟩
      rw [if_pos e1]
      simp [repW, h]
    · have e1 : ¬ ((tokW w).1 = -2 ∧ (tokW w).2 = p) := fun e => h e.2
      rw [if_neg e1]
      simp [repW, h]

/-- A macro is used with its argument. -/
theorem st_maca {nm : ByteArray} {name p : Bs} {arg body : List Bs} (h : At s nm [] ((-2, name) :: (40, [40]) :: (arg.map tokW ++ (41, [41]) :: R)) mac [] mn) (hnl : name.length ≤ 60) (hpn : PName p) (hpl : p.length ≤ 60) (hm : mac name = some ⟨some [p], body.map tokW⟩)
    (ha : ∀ w ∈ arg, WordL w ∧ mac w = none ∧ w ≠ [40] ∧ w ≠ [41] ∧ w ≠ [44]) (ha0 : arg ≠ []) (hal : arg.length ≤ 20) (hb : ∀ w ∈ body, WordL w ∧ mac w = none) (hb0 : body ≠ []) (hbl : body.length ≤ 20) :
    ∃ l s1, StT y l s s1 ∧ l.map Fd.kx = (body.flatMap (repW p arg)).map tokW ∧ At s1 nm [] R mac [] mn := by
  obtain ⟨dead, a, q1, q2, q3, q4, q5, q6, q7, q8, q9⟩ := h
  obtain ⟨t, T1, hT, hk, hx, h2⟩ := kx_cons q6
  obtain ⟨op, T2, e2, hok, hox, h3⟩ := kx_cons h2
  obtain ⟨bd, T3, e3, hbd, h4⟩ := List.map_eq_append_iff.1 h3
  obtain ⟨e, T4, e4, hek, hex, h5⟩ := kx_cons h4
  subst e4 e3 e2
  have hx' : t.x = name := hx
  have hbt : ∀ q ∈ bd, argTok q := fun q hq => by
    have hmm : Tok.kx q ∈ arg.map tokW := hbd ▸ List.mem_map_of_mem hq
    obtain ⟨w, hwm, ee⟩ := List.mem_map.1 hmm
    obtain ⟨w1, w2, w3, w4, w5⟩ := ha w hwm
    have hkd := w1.kind
    have k1 : q.k = kindW w := by have := congrArg Prod.fst ee; exact this.symm
    have k2 : q.x = w := by have := congrArg Prod.snd ee; exact this.symm
    refine ⟨⟨k2 ▸ w1.ascii, k2 ▸ hkd.2.2.2.2.2.2.2.1, by rw [k2]; have := w1.len; omega⟩, by rw [k1]; exact hkd.2.2.1, by rw [k1]; exact hkd.1, by rw [k1]; exact hkd.2.1, fun e => w3 (w1.kindc (c := 40) (by rw [← k1]; exact e)), fun e => w4 (w1.kindc (c := 41) (by rw [← k1]; exact e)), fun e => w5 (w1.kindc (c := 44) (by rw [← k1]; exact e))⟩
  have hbdl : bd.length = arg.length := by have := congrArg List.length hbd; simpa using this
  obtain ⟨b0, br, hbe⟩ : ∃ b0 br, body.flatMap (repW p arg) = b0 :: br := by
    cases hc : body.flatMap (repW p arg) with
    | cons b0 br => exact ⟨b0, br, rfl⟩
    | nil =>
      exfalso
      cases body with
      | nil => exact hb0 rfl
      | cons w r =>
        rw [List.flatMap_cons] at hc
        have h1 := (List.append_eq_nil_iff.1 hc).1
        unfold repW at h1
        split at h1
        · exact ha0 h1
        · cases h1
  have hsub : subK p (bd.map Tok.kx) (body.map tokW) = (b0 :: br).map tokW := by rw [hbd, subK_words hpn (fun w hw => (hb w hw).1), hbe]
  have hall : ∀ w ∈ b0 :: br, WordL w ∧ mac w = none := fun w hw => by
    rw [← hbe] at hw
    obtain ⟨q, hq, hw⟩ := List.mem_flatMap.1 hw
    unfold repW at hw
    split at hw
    · exact ⟨(ha w hw).1, (ha w hw).2.1⟩
    · simp at hw; rw [hw]; exact hb q hq
  have hlen : (b0 :: br).length ≤ 1000 := by
    have h1 := repW_len p arg hal body
    rw [hbe] at h1
    omega
  have hb0w := hall b0 (by simp)
  have hb0k := hb0w.1.kind
  have hb0l := hb0w.1.len
  have hsl : (slAb a.nm e.line (subK p (bd.map Tok.kx) (body.map tokW))).ts = sTok e.line (tokW b0) :: (br.map tokW).map (sTok e.line) := by rw [hsub]; rfl
  obtain ⟨l1, s1, c1, c2, c3, c4⟩ := st_body (y := y) (R := R) (a := { a with cur := e, ts := T4 }) (nm := nm) (mac := mac) (mn := mn) (rest := []) (ifs := []) (by simp) (by simp) rfl br
    { s with ab := { slAb a.nm e.line (subK p (bd.map Tok.kx) (body.map tokW)) with cur := sTok e.line (tokW b0), ts := (br.map tokW).map (sTok e.line) } :: { a with cur := e, ts := T4 } :: [], bol := (sTok e.line (tokW b0)).k == 10, text := (sTok e.line (tokW b0)).x }
    { slAb a.nm e.line (subK p (bd.map Tok.kx) (body.map tokW)) with cur := sTok e.line (tokW b0), ts := (br.map tokW).map (sTok e.line) } (fun x hx => ⟨(hall x (by simp [hx])).1, fun _ => (hall x (by simp [hx])).2⟩) rfl q5 (by simp [Tok.kx, sTok]) q4 q5 h5 q7 q8 q9
  have hnx : Nx y 0 1 s (sTok e.line (tokW b0)).k { s with ab := { slAb a.nm e.line (subK p (bd.map Tok.kx) (body.map tokW)) with cur := sTok e.line (tokW b0), ts := (br.map tokW).map (sTok e.line) } :: { a with cur := e, ts := T4 } :: [], bol := (sTok e.line (tokW b0)).k == 10, text := (sTok e.line (tokW b0)).x } :=
    .maca (dead := dead) (a := a) (rest := []) (t := t) (op := op) (body := bd) (e := e) (ts := T4) (m := ⟨some [p], body.map tokW⟩) (p := p) q1 q3 hT (by simp; omega) (fun q hq => by simp at hq; rw [hq]; exact q4) hk (by rw [hx']; omega) (by rw [q7, hx']; exact hm) rfl (by omega) hok hbt (fun e => by rw [e] at hbdl; exact ha0 (List.eq_nil_of_length_eq_zero hbdl.symm)) hek (by omega) (by simp; omega) (fun q hq => by
        obtain ⟨x, hx1, rfl⟩ := List.mem_map.1 hq
        exact ⟨(hb x hx1).1.kind.1, by show x.length ≤ 1000; have := (hb x hx1).1.len; omega⟩) (by omega)
      (.tok (dead := []) (a := slAb a.nm e.line (subK p (bd.map Tok.kx) (body.map tokW))) (rest := { a with cur := e, ts := T4 } :: []) rfl (by simp) hsl (by simp) hb0k.2.2.2.1 hb0k.1 hb0k.2.1 (by show b0.length ≤ 1000; omega) (fun _ => by rw [show (sTok e.line (tokW b0)).x = b0 from rfl]; show s.mac b0 = none; rw [q7]; exact hb0w.2) (by show s.ifs.length < 1000; rw [q8]; simp) (by show onB s.ifs = true; rw [q8]; rfl))
  refine ⟨⟨(sTok e.line (tokW b0)).k, (sTok e.line (tokW b0)).x, a.nm, e.line⟩ :: l1, s1, .cons hnx hb0k.1 hb0k.2.2.2.2.2.1 hb0k.2.2.2.2.2.2.1 rfl (by simp) c1, ?_, c3⟩
  rw [List.map_cons, c2, hbe]
  simp [Fd.kx, sTok, tokW]
end

theorem arg_told (y : Wy) {name p : Bs} {body arg rest : List Bs} (hn : PName name) (hnl : name.length ≤ 60) (hp : PName p) (hpl : p.length ≤ 60) (hb : ∀ w ∈ body, WordL w) (ha : ∀ w ∈ arg, WordL w) (hr : ∀ w ∈ rest, WordL w) (hb0 : body ≠ []) (ha0 : arg ≠ []) (lb : body.length ≤ 20) (la : arg.length ≤ 20) (lr : rest.length ≤ 20)
    (nb : name ∉ body) (na : name ∉ arg) (nr : name ∉ rest) (a1 : ([40] : Bs) ∉ arg) (a2 : ([41] : Bs) ∉ arg) (a3 : ([44] : Bs) ∉ arg) :
    ∃ T l s' mac mn, TL (argF name p body arg rest) 1 1 T ∧ StT y l ⟨[tzAb mainName T], 0, fun _ => none, [], true, []⟩ s' ∧ At s' mainName [] [] mac [] mn ∧ shown (l.map Fd.kx) = body.flatMap (repW p arg) ++ rest ∧ l.length ≤ 1000 ∧ ∀ f ∈ l, -1000000 ≤ f.k ∧ f.k < 1000000 := by
  have hbl : blanks [] := by intro b h; cases h
  have r1 : Pc ([32] ++ (textB rest ++ 10 :: [])) _ := pc_line hr .nil [32] blanks_one
  have r2 := pc_words ha (tail := 41 :: ([32] ++ (textB rest ++ 10 :: []))) (fun p hp => pc_sign (c := 41) (by decide) rfl hp r1) [] hbl
  have r3 := pc_nm hn hnl (s := 40) (by decide) hbl (pc_sign (c := 40) (p := []) (by decide) rfl hbl r2)
  have r4 := pc_words hb (tail := 10 :: (name ++ 40 :: (textB arg ++ 41 :: ([32] ++ (textB rest ++ 10 :: []))))) (fun p hp => pc_nl hp (by simpa using r3)) [32] blanks_one
  have r5 := pc_nm hp hpl (s := 41) (by decide) hbl (pc_sign (c := 41) (p := []) (by decide) rfl hbl r4)
  obtain ⟨t, kt, nt, op, T, h1, hk, hkk, hnk, hok, hcol, hcb, h2⟩ := tl_open hn hnl r5 1 1 (by omega)
  obtain ⟨pt, T1, e1, hpk, hpx, h3⟩ := kx_cons h2
  obtain ⟨cl, T2, e2, hck, hcx, h4⟩ := kx_cons h3
  obtain ⟨bd, T3, e3, hbd, h5⟩ := List.map_eq_append_iff.1 h4
  obtain ⟨nl, T4, e4, hnlk, hnlx, h6⟩ := kx_cons h5
  subst e4 e3 e2 e1
  have hnx : nt.x = name := congrArg Prod.snd hnk
  have hpx' : pt.x = p := hpx
  have hok2 : ∀ q ∈ bd, okTok q ∧ q.k ≠ 10 ∧ q.k ≠ 92 ∧ q.k ≠ -1 ∧ q.k ≠ 0 := fun q hq => by
    have hm : Tok.kx q ∈ body.map tokW := hbd ▸ List.mem_map_of_mem hq
    obtain ⟨w, hwm, e⟩ := List.mem_map.1 hm
    have hkd := (hb w hwm).kind
    have k1 : q.k = kindW w := by have := congrArg Prod.fst e; exact this.symm
    obtain ⟨o1, o2, o3⟩ := tok_words hb hbd q hq
    exact ⟨o1, by rw [k1]; exact hkd.2.2.1, by rw [k1]; exact hkd.2.2.2.2.1, o2, o3⟩
  obtain ⟨a0, ha0'⟩ : ∃ a0, a0 = tzAb mainName (t :: kt :: nt :: op :: (pt :: cl :: (bd ++ nl :: T4))) := ⟨_, rfl⟩
  have hs1 : Hs y ⟨[{ a0 with cur := t, ts := kt :: nt :: op :: ([pt, cl] ++ (bd ++ nl :: T4)) }], 0, fun _ => none, [], true, []⟩ true _ :=
    .defargs (dead := []) (a := { a0 with cur := t, ts := kt :: nt :: op :: ([pt, cl] ++ (bd ++ nl :: T4)) }) (rest := []) (kt := kt) (nt := nt) (op := op) (pt := [pt, cl]) (bd := bd) (nl := nl) (ts := T4) (P := [p]) ⟨rfl, rfl, by simp, by simp, rfl, congrArg Prod.fst hkk, congrArg Prod.snd hkk, by simp⟩ (fun q hq => by simp at hq; rw [hq]; show a0.istz = true; rw [ha0']; rfl) (congrArg Prod.fst hnk) (by rw [hnx]; omega) rfl (by show 0 < 1000000; omega)
      (congrArg Prod.fst hok) hcol hcb (by rw [← hpx']; exact .name hpk (.close hck)) (by simp) (by simp) (fun q hq => by simp at hq; rw [hq]; omega) hok2 hnlk (by have := congrArg List.length hbd; simp at this; omega)
  have hmac : (fun z => if z = nt.x then some (⟨some [p], bd.map Tok.kx⟩ : Mc) else none) = fun z => if z = name then some (⟨some [p], body.map tokW⟩ : Mc) else none := by
    funext z; rw [hnx, hbd]
  have hno : ∀ w, w ≠ name → (fun z => if z = name then some (⟨some [p], body.map tokW⟩ : Mc) else none) w = none := fun w hw => by simp [hw]
  obtain ⟨s1, hnx1, e1, e2, e3, e4, e6⟩ : ∃ s1, Nx y 0 0 ⟨[a0], 0, fun _ => none, [], true, []⟩ 35 s1 ∧ s1.ab = [{ a0 with cur := nl, ts := T4 }] ∧ (s1.mac = fun z => if z = nt.x then some (⟨some [p], bd.map Tok.kx⟩ : Mc) else none) ∧ s1.ifs = [] ∧ s1.mn = 1 ∧ s1.text = [35] :=
    ⟨_, .hash (s := ⟨[a0], 0, fun _ => none, [], true, []⟩) (dead := []) (a := a0) (rest := []) (t := t) (ts := kt :: nt :: op :: ([pt, cl] ++ (bd ++ nl :: T4))) rfl (by simp) (by rw [ha0']; rfl) (by simp) (congrArg Prod.fst hk) rfl hs1, rfl, rfl, rfl, rfl, rfl⟩
  have hst1 : StT y [⟨35, s1.text, a0.nm, nl.line⟩] ⟨[a0], 0, fun _ => none, [], true, []⟩ s1 :=
    .cons hnx1 (by decide) (by decide) (by decide) (a := { a0 with cur := nl, ts := T4 }) (rest := []) e1 (by simp) .nil
  rw [e6, ha0'] at hst1
  have hat : At s1 mainName [] ((-2, name) :: (40, [40]) :: (arg.map tokW ++ (41, [41]) :: (rest.map tokW ++ (10, [10]) :: []))) (fun z => if z = name then some (⟨some [p], body.map tokW⟩ : Mc) else none) [] 1 :=
    ⟨[], { a0 with cur := nl, ts := T4 }, by rw [e1]; rfl, by simp, by simp, by show a0.istz = true; rw [ha0']; rfl, by show a0.nm = mainName; rw [ha0']; rfl, h6, e2.trans hmac, e3, e4⟩
  obtain ⟨l2, s2, b1, b2, b3⟩ := st_maca (y := y) hat hnl hp hpl (by simp) (fun w hw => ⟨ha w hw, hno w (fun e => na (e ▸ hw)), fun e => a1 (e ▸ hw), fun e => a2 (e ▸ hw), fun e => a3 (e ▸ hw)⟩) ha0 la (fun w hw => ⟨hb w hw, hno w (fun e => nb (e ▸ hw))⟩) hb0 lb
  obtain ⟨l3, s3, c1, c2, c3, _⟩ := st_ws (y := y) (by simp) (by simp) rfl rest s2 (fun w hw => ⟨hr w hw, hno w (fun e => nr (e ▸ hw))⟩) b3
  obtain ⟨l4, s4, d1, d2, d3, _, _⟩ := st_nl (y := y) c3 (by simp) (by simp) rfl
  have hs := hst1.app (b1.app (c1.app d1))
  have hsw : ∀ w ∈ body.flatMap (repW p arg), WordL w := fun w hw => by
    obtain ⟨q, hq, hw⟩ := List.mem_flatMap.1 hw
    unfold repW at hw
    split at hw
    · exact ha w hw
    · simp at hw; rw [hw]; exact hb q hq
  have m2 := congrArg List.length b2
  have m3 := congrArg List.length c2
  have m4 := congrArg List.length d2
  have m5 := repW_len p arg la body
  rw [List.length_map, List.length_map] at m2 m3
  rw [List.length_map] at m4
  have hlen : ([⟨35, [35], (tzAb mainName (t :: kt :: nt :: op :: (pt :: cl :: (bd ++ nl :: T4)))).nm, nl.line⟩] ++ (l2 ++ (l3 ++ l4)) : List Fd).length ≤ 1000 := by
    rw [List.length_append, List.length_append, List.length_append]
    simp at m3 m4 ⊢
    omega
  refine ⟨_, _, s4, _, _, ?_, hs, d3, ?_, hlen, hs.kinds⟩
  · exact h1
  · rw [List.map_append, List.map_append, List.map_append, b2, c2, d2, shown_app, shown_app, shown_app, shown_words hsw, shown_words hr]
    simp [shown, isShown, Fd.kx]
section
variable {w : World} {ev : Value} {b0 : Bs} {b1 : Bs} {l2 : List Bs} {A2 : Option Addr} {c2 : Nat} {l3 : List Bs} {A3 : Option Addr} {c3 : Nat} {l4 : List Bs} {A4 : Option Addr} {c4 : Nat}
set_option maxRecDepth 100000 in
set_option maxHeartbeats 4000000 in
theorem defargs_law (hr2 : Kd.C Kd.string w A2 (l2.map mkS).length (l2.map mkS)) (hc2 : (l2.map mkS).length ≤ c2) (hr3 : Kd.C Kd.string w A3 (l3.map mkS).length (l3.map mkS)) (hc3 : (l3.map mkS).length ≤ c3) (hr4 : Kd.C Kd.string w A4 (l4.map mkS).length (l4.map mkS)) (hc4 : (l4.map mkS).length ≤ c4) (hg : Glob w ev) (hB : 21 ≤ w.heap.size) :
    Calls Tryz.prog 3 #[.string (mkS b0), .string (mkS b1), .slice A2 (l2.map mkS).length c2, .slice A3 (l3.map mkS).length c3, .slice A4 (l4.map mkS).length c4] w (LawQ w) := by
  have Hfin := Lib.hid (lawq_drewN w)
  have Hg := Lib.hid hg
  have s0 := mkS_size b0
  obtain ⟨n0, e0⟩ : ∃ n, n = b0.length := ⟨_, rfl⟩
  rw [← e0] at s0
  have N0 := Lib.hid e0
  have s1 := mkS_size b1
  obtain ⟨n1, e1⟩ : ∃ n, n = b1.length := ⟨_, rfl⟩
  rw [← e1] at s1
  have N1 := Lib.hid e1
  obtain ⟨m2, e2⟩ : ∃ m, m = (l2.map mkS).length := ⟨_, rfl⟩
  have M2 := Lib.hid e2
  have R2 := Lib.hid hr2
  have C2 := Lib.hid hc2
  have q2 : m2 ≤ c2 := by rw [e2]; exact hc2
  rw [← e2]
  obtain ⟨m3, e3⟩ : ∃ m, m = (l3.map mkS).length := ⟨_, rfl⟩
  have M3 := Lib.hid e3
  have R3 := Lib.hid hr3
  have C3 := Lib.hid hc3
  have q3 : m3 ≤ c3 := by rw [e3]; exact hc3
  rw [← e3]
  obtain ⟨m4, e4⟩ : ∃ m, m = (l4.map mkS).length := ⟨_, rfl⟩
  have M4 := Lib.hid e4
  have R4 := Lib.hid hr4
  have C4 := Lib.hid hc4
  have q4 : m4 ≤ c4 := by rw [e4]; exact hc4
  rw [← e4]
  clear hg e0 e1 e2 e3 e4 hr2 hc2 hr3 hc3 hr4 hc4
  go_enter Tryz.func3, Tryz.ntmps3
  change Code.wp _ _ _ _ (w.drewN 0)
  rcases Nat.lt_or_ge 2147483647 n0 with hz0 | hz0
  · go_wp2
    go_ret
    exact Hfin.out _
  rcases Nat.lt_or_ge 2147483647 n1 with hz1 | hz1
  · go_wp2
    go_ret
    exact Hfin.out _
  obtain ⟨t2, z2, y2⟩ := fits_f (ws := l2)
  have g2 := gd_fits R2.out C2.out z2
  rw [← M2.out] at g2
  have G := Lib.hid g2
  have F2 := Lib.hid y2
  clear g2 z2 y2
  go_wp2_with fail
  refine (G.out _).mono ?_
  rintro e u1 ⟨rfl, j1, rfl⟩
  clear G
  cases t2 with
  | false => go_wp2; go_ret; exact Hfin.out _
  | true =>
  obtain ⟨t3, z3, y3⟩ := fits_f (ws := l3)
  have g3 := gd_fits R3.out C3.out z3
  rw [← M3.out] at g3
  have G := Lib.hid g3
  have F3 := Lib.hid y3
  clear g3 z3 y3
  go_wp2_with fail
  refine (G.out _).mono ?_
  rintro e u2 ⟨rfl, j2, rfl⟩
  clear G
  cases t3 with
  | false => go_wp2; go_ret; exact Hfin.out _
  | true =>
  obtain ⟨t4, z4, y4⟩ := fits_f (ws := l4)
  have g4 := gd_fits R4.out C4.out z4
  rw [← M4.out] at g4
  have G := Lib.hid g4
  have F4 := Lib.hid y4
  clear g4 z4 y4
  go_wp2_with fail
  refine (G.out _).mono ?_
  rintro e u3 ⟨rfl, j3, rfl⟩
  clear G
  cases t4 with
  | false => go_wp2; go_ret; exact Hfin.out _
  | true =>
  obtain ⟨t2, z2, y2⟩ := line_f (F2.out (by first | rfl | trivial)).2 (F2.out (by first | rfl | trivial)).1
  have g2 := gd_line R2.out C2.out z2
  rw [← M2.out] at g2
  have G := Lib.hid g2
  have Y := Lib.hid y2
  clear g2 z2 y2
  go_wp2_with fail
  refine (G.out _).mono ?_
  rintro e u4 ⟨rfl, j4, rfl⟩
  clear G
  cases t2 with
  | false => go_wp2; go_ret; exact Hfin.out _
  | true =>
  have W2 : Hid (∀ x ∈ l2, WordL x) := Lib.hid (fun x hx => ((Y.out (by first | rfl | trivial)).1 x hx).word)
  have T2 : Hid (l2.length ≤ 20) := Lib.hid (Y.out (by first | rfl | trivial)).2
  clear Y
  obtain ⟨t3, z3, y3⟩ := line_f (F3.out (by first | rfl | trivial)).2 (F3.out (by first | rfl | trivial)).1
  have g3 := gd_line R3.out C3.out z3
  rw [← M3.out] at g3
  have G := Lib.hid g3
  have Y := Lib.hid y3
  clear g3 z3 y3
  go_wp2_with fail
  refine (G.out _).mono ?_
  rintro e u5 ⟨rfl, j5, rfl⟩
  clear G
  cases t3 with
  | false => go_wp2; go_ret; exact Hfin.out _
  | true =>
  have W3 : Hid (∀ x ∈ l3, WordL x) := Lib.hid (fun x hx => ((Y.out (by first | rfl | trivial)).1 x hx).word)
  have T3 : Hid (l3.length ≤ 20) := Lib.hid (Y.out (by first | rfl | trivial)).2
  clear Y
  obtain ⟨t4, z4, y4⟩ := line_f (F4.out (by first | rfl | trivial)).2 (F4.out (by first | rfl | trivial)).1
  have g4 := gd_line R4.out C4.out z4
  rw [← M4.out] at g4
  have G := Lib.hid g4
  have Y := Lib.hid y4
  clear g4 z4 y4
  go_wp2_with fail
  refine (G.out _).mono ?_
  rintro e u6 ⟨rfl, j6, rfl⟩
  clear G
  cases t4 with
  | false => go_wp2; go_ret; exact Hfin.out _
  | true =>
  have W4 : Hid (∀ x ∈ l4, WordL x) := Lib.hid (fun x hx => ((Y.out (by first | rfl | trivial)).1 x hx).word)
  have T4 : Hid (l4.length ≤ 20) := Lib.hid (Y.out (by first | rfl | trivial)).2
  clear Y
  rcases Nat.eq_zero_or_pos m2 with e0 | hpos2
  · subst e0
    go_wp2
    go_ret
    exact Hfin.out _
  obtain ⟨x2, r2, e0⟩ : ∃ x r, l2 = x :: r := by
    cases hc : l2 with
    | nil => have := M2.out; rw [hc] at this; simp at this; omega
    | cons x r => exact ⟨x, r, rfl⟩
  have B2 := Lib.hid e0
  obtain ⟨ad2, hA, hcell⟩ := (Kd.reads_of_C (d := ByteArray.empty) R2.out).2.2 (by rw [← M2.out]; exact hpos2)
  subst hA
  have hc2 : w.cell? ad2 = some (.string (mkS x2)) := by
    have := hcell 0 (by rw [← M2.out]; exact hpos2)
    have e : ad2.add 0 = ad2 := by simp [Addr.add]
    rw [e, e0] at this
    exact this
  have qa2 : ((m2 : Int) == 0) = false := by simp; omega
  have qb2 : (0 : Int) < (m2 : Int) := by omega
  clear hcell e0
  rcases Nat.eq_zero_or_pos m3 with e0 | hpos3
  · subst e0
    go_wp2
    go_ret
    exact Hfin.out _
  obtain ⟨x3, r3, e0⟩ : ∃ x r, l3 = x :: r := by
    cases hc : l3 with
    | nil => have := M3.out; rw [hc] at this; simp at this; omega
    | cons x r => exact ⟨x, r, rfl⟩
  have B3 := Lib.hid e0
  obtain ⟨ad3, hA, hcell⟩ := (Kd.reads_of_C (d := ByteArray.empty) R3.out).2.2 (by rw [← M3.out]; exact hpos3)
  subst hA
  have hc3 : w.cell? ad3 = some (.string (mkS x3)) := by
    have := hcell 0 (by rw [← M3.out]; exact hpos3)
    have e : ad3.add 0 = ad3 := by simp [Addr.add]
    rw [e, e0] at this
    exact this
  have qa3 : ((m3 : Int) == 0) = false := by simp; omega
  have qb3 : (0 : Int) < (m3 : Int) := by omega
  clear hcell e0
  obtain ⟨te, heq⟩ : ∃ r, ((mkS b0).toList == (mkS b1).toList) = r := ⟨_, rfl⟩
  cases te with
  | true => go_wp2; go_ret; exact Hfin.out _
  | false =>
  have E0_1 : Hid (b0 ≠ b1) := Lib.hid (fun e => by rw [e] at heq; simp at heq)
  obtain ⟨t0, z0, y0⟩ := plain_f b0 (by rw [← N0.out]; exact hz0)
  have G := Lib.hid (gd_plain (w := w) z0)
  have Y := Lib.hid y0
  clear z0 y0
  go_wp2_with fail
  refine (G.out _).mono ?_
  rintro e u7 ⟨rfl, j7, rfl⟩
  clear G
  cases t0 with
  | false => go_wp2; go_ret; exact Hfin.out _
  | true =>
  have X0 : Hid (PName b0) := Lib.hid (Y.out (by first | rfl | trivial)).2
  clear Y
  obtain ⟨t1, z1, y1⟩ := plain_f b1 (by rw [← N1.out]; exact hz1)
  have G := Lib.hid (gd_plain (w := w) z1)
  have Y := Lib.hid y1
  clear z1 y1
  go_wp2_with fail
  refine (G.out _).mono ?_
  rintro e u8 ⟨rfl, j8, rfl⟩
  clear G
  cases t1 with
  | false => go_wp2; go_ret; exact Hfin.out _
  | true =>
  have X1 : Hid (PName b1) := Lib.hid (Y.out (by first | rfl | trivial)).2
  clear Y
  rcases Nat.lt_or_ge 60 n0 with h60 | h60_0
  · go_wp2
    go_ret
    exact Hfin.out _
  rcases Nat.lt_or_ge 60 n1 with h60 | h60_1
  · go_wp2
    go_ret
    exact Hfin.out _
  have g2 := gd_has R2.out C2.out (has_f b0 (F2.out (by first | rfl | trivial)).2)
  rw [← M2.out] at g2
  obtain ⟨t2, ht2⟩ : ∃ r, (l2.any fun w => w == b0) = r := ⟨_, rfl⟩
  rw [ht2] at g2
  have G := Lib.hid g2
  have O := Lib.hid ht2
  clear g2 ht2
  go_wp2_with fail
  refine (G.out _).mono ?_
  rintro e u9 ⟨rfl, j9, rfl⟩
  clear G
  cases t2 with
  | true => go_wp2; go_ret; exact Hfin.out _
  | false =>
  have O2_0 : Hid (b0 ∉ l2) := Lib.hid (fun h => by
    have h2 : (l2.any fun w => w == b0) = true := List.any_eq_true.2 ⟨b0, h, by simp⟩
    rw [O.out] at h2
    cases h2)
  clear O
  have g3 := gd_has R3.out C3.out (has_f b0 (F3.out (by first | rfl | trivial)).2)
  rw [← M3.out] at g3
  obtain ⟨t3, ht3⟩ : ∃ r, (l3.any fun w => w == b0) = r := ⟨_, rfl⟩
  rw [ht3] at g3
  have G := Lib.hid g3
  have O := Lib.hid ht3
  clear g3 ht3
  go_wp2_with fail
  refine (G.out _).mono ?_
  rintro e u10 ⟨rfl, j10, rfl⟩
  clear G
  cases t3 with
  | true => go_wp2; go_ret; exact Hfin.out _
  | false =>
  have O3_0 : Hid (b0 ∉ l3) := Lib.hid (fun h => by
    have h2 : (l3.any fun w => w == b0) = true := List.any_eq_true.2 ⟨b0, h, by simp⟩
    rw [O.out] at h2
    cases h2)
  clear O
  have g4 := gd_has R4.out C4.out (has_f b0 (F4.out (by first | rfl | trivial)).2)
  rw [← M4.out] at g4
  obtain ⟨t4, ht4⟩ : ∃ r, (l4.any fun w => w == b0) = r := ⟨_, rfl⟩
  rw [ht4] at g4
  have G := Lib.hid g4
  have O := Lib.hid ht4
  clear g4 ht4
  go_wp2_with fail
  refine (G.out _).mono ?_
  rintro e u11 ⟨rfl, j11, rfl⟩
  clear G
  cases t4 with
  | true => go_wp2; go_ret; exact Hfin.out _
  | false =>
  have O4_0 : Hid (b0 ∉ l4) := Lib.hid (fun h => by
    have h2 : (l4.any fun w => w == b0) = true := List.any_eq_true.2 ⟨b0, h, by simp⟩
    rw [O.out] at h2
    cases h2)
  clear O
  have g3 := gd_has R3.out C3.out (has_f [40] (F3.out (by first | rfl | trivial)).2)
  rw [← M3.out] at g3
  obtain ⟨t3, ht3⟩ : ∃ r, (l3.any fun w => w == [40]) = r := ⟨_, rfl⟩
  rw [ht3] at g3
  have G : Hid (Gd w 13 #[.slice (some ad3) m3 c3, .string ⟨#[40]⟩] (.bool t3)) := Lib.hid g3
  have O := Lib.hid ht3
  clear g3 ht3
  go_wp2_with fail
  refine (G.out _).mono ?_
  rintro e u12 ⟨rfl, j12, rfl⟩
  clear G
  cases t3 with
  | true => go_wp2; go_ret; exact Hfin.out _
  | false =>
  have O3_c40 : Hid (([40] : Bs) ∉ l3) := Lib.hid (fun h => by
    have h2 : (l3.any fun w => w == [40]) = true := List.any_eq_true.2 ⟨[40], h, by simp⟩
    rw [O.out] at h2
    cases h2)
  clear O
  have g3 := gd_has R3.out C3.out (has_f [41] (F3.out (by first | rfl | trivial)).2)
  rw [← M3.out] at g3
  obtain ⟨t3, ht3⟩ : ∃ r, (l3.any fun w => w == [41]) = r := ⟨_, rfl⟩
  rw [ht3] at g3
  have G : Hid (Gd w 13 #[.slice (some ad3) m3 c3, .string ⟨#[41]⟩] (.bool t3)) := Lib.hid g3
  have O := Lib.hid ht3
  clear g3 ht3
  go_wp2_with fail
  refine (G.out _).mono ?_
  rintro e u13 ⟨rfl, j13, rfl⟩
  clear G
  cases t3 with
  | true => go_wp2; go_ret; exact Hfin.out _
  | false =>
  have O3_c41 : Hid (([41] : Bs) ∉ l3) := Lib.hid (fun h => by
    have h2 : (l3.any fun w => w == [41]) = true := List.any_eq_true.2 ⟨[41], h, by simp⟩
    rw [O.out] at h2
    cases h2)
  clear O
  have g3 := gd_has R3.out C3.out (has_f [44] (F3.out (by first | rfl | trivial)).2)
  rw [← M3.out] at g3
  obtain ⟨t3, ht3⟩ : ∃ r, (l3.any fun w => w == [44]) = r := ⟨_, rfl⟩
  rw [ht3] at g3
  have G : Hid (Gd w 13 #[.slice (some ad3) m3 c3, .string ⟨#[44]⟩] (.bool t3)) := Lib.hid g3
  have O := Lib.hid ht3
  clear g3 ht3
  go_wp2_with fail
  refine (G.out _).mono ?_
  rintro e u14 ⟨rfl, j14, rfl⟩
  clear G
  cases t3 with
  | true => go_wp2; go_ret; exact Hfin.out _
  | false =>
  have O3_c44 : Hid (([44] : Bs) ∉ l3) := Lib.hid (fun h => by
    have h2 : (l3.any fun w => w == [44]) = true := List.any_eq_true.2 ⟨[44], h, by simp⟩
    rw [O.out] at h2
    cases h2)
  clear O
  have hb2 : l2 ≠ [] := by rw [B2.out]; simp
  have hb3 : l3 ≠ [] := by rw [B3.out]; simp
  have hn1 : b0.length ≤ 60 := by rw [← N0.out]; exact h60_0
  have hn2 : b1.length ≤ 60 := by rw [← N1.out]; exact h60_1
  have htl1 := textB_len l3 (fun x hx => (W3.out x hx).len)
  have htl2 := textB_len l2 (fun x hx => (W2.out x hx).len)
  have htl3 := textB_len l4 (fun x hx => (W4.out x hx).len)
  have hT1 := T3.out
  have hT2 := T2.out
  have hT3 := T4.out
  have g1 := gd_text R3.out C3.out (text_f (by omega) (fun x hx => (W3.out x hx).len))
  have g2 := gd_text R2.out C2.out (text_f (by omega) (fun x hx => (W2.out x hx).len))
  have g3 := gd_text R4.out C4.out (text_f (by omega) (fun x hx => (W4.out x hx).len))
  rw [← M3.out] at g1
  rw [← M2.out] at g2
  rw [← M4.out] at g3
  have hx : (⟨#[35, 100, 101, 102, 105, 110, 101, 32]⟩ ++ mkS b0 ++ ⟨#[40]⟩ ++ mkS b1 ++ ⟨#[41, 32]⟩ ++ mkS (textB l2) ++ ⟨#[10]⟩ ++ mkS b0 ++ ⟨#[40]⟩ ++ mkS (textB l3) ++ ⟨#[41, 32]⟩ ++ mkS (textB l4) ++ ⟨#[10]⟩ : ByteArray) = mkS (argF b0 b1 l2 l3 l4) := by
    have e1 : (⟨#[35, 100, 101, 102, 105, 110, 101, 32]⟩ : ByteArray) = mkS [35, 100, 101, 102, 105, 110, 101, 32] := rfl
    have e2 : (⟨#[40]⟩ : ByteArray) = mkS [40] := rfl
    have e3 : (⟨#[10]⟩ : ByteArray) = mkS [10] := rfl
    have e4 : (⟨#[41, 32]⟩ : ByteArray) = mkS [41, 32] := rfl
    rw [e1, e2, e3, e4]
    simp only [mkS_app]
    congr 1
    simp [argF, kwDefine]
  have hlen : (argF b0 b1 l2 l3 l4).length ≤ 5000 := by
    unfold argF
    simp only [List.length_cons, List.length_append, List.length_nil]
    have : kwDefine.length = 6 := rfl
    omega
  have hnil : ascii [] := by intro b h; cases h
  have hasc : ascii (argF b0 b1 l2 l3 l4) := ascii_cons (by decide) (ascii_app (by unfold ascii; decide) (ascii_cons (by decide) (ascii_app X0.out.ascii (ascii_cons (by decide) (ascii_app X1.out.ascii (ascii_cons (by decide) (ascii_cons (by decide) (ascii_app (ascii_text W2.out) (ascii_cons (by decide) (ascii_app X0.out.ascii (ascii_cons (by decide) (ascii_app (ascii_text W3.out) (ascii_cons (by decide) (ascii_cons (by decide) (ascii_app (ascii_text W4.out) (ascii_cons (by decide) hnil))))))))))))))))
  obtain ⟨T, fl, s', mac, mn, t1, t2, t3, t4, t5, t6⟩ := arg_told (yExp (argF b0 b1 l2 l3 l4)) X0.out hn1 X1.out hn2 W2.out W3.out W4.out hb2 hb3 hT2 hT1 hT3 O2_0.out O3_0.out O4_0.out O3_c40.out O3_c41.out O3_c44.out
  have hrepl := replaced_f b1 l3 (ws := l2) (by omega) hT1
  obtain ⟨kr, hkr⟩ := hrepl.rounds
  have hrl := repW_len b1 l3 hT1 l2
  have GS : Hid (∀ w' A n c, Below w.heap.size w w' → Kd.C Kd.string w' A n ((l2.flatMap (repW b1 l3) ++ l4).map mkS) → n = ((l2.flatMap (repW b1 l3) ++ l4).map mkS).length → n ≤ c → ∀ g, Files w' g 1 [(mainBs, mkS (argF b0 b1 l2 l3 l4))] → Calls Tryz.prog 15 #[.slice (some ⟨g, 0, none⟩) 1 1, .slice none 0 0, .slice A n c] w' (SQ w')) := Lib.hid (fun w' A n c hb hC hn hnc g hr =>
    shows_true (text := argF b0 b1 l2 l3 l4) hr t1 hasc (by omega) t2 t3 (by omega) t6 (by rw [t4]; exact hC) (by rw [t4]; exact hn) hnc (Hg.out.only (Only.ofBelow hb) (fun k hk e => by omega)) (Nat.le_trans hB hb.size))
  obtain ⟨x1', hx1⟩ : ∃ x, x = mkS (textB l3) := ⟨_, rfl⟩
  obtain ⟨x2', hx2⟩ : ∃ x, x = mkS (textB l2) := ⟨_, rfl⟩
  obtain ⟨x3, hx3⟩ : ∃ x, x = mkS (textB l4) := ⟨_, rfl⟩
  have z1 : x1'.size = (textB l3).length := by rw [hx1, mkS_size]
  have z2 : x2'.size = (textB l2).length := by rw [hx2, mkS_size]
  have z3 : x3.size = (textB l4).length := by rw [hx3, mkS_size]
  rw [← hx1] at g1 hx
  rw [← hx2] at g2 hx
  rw [← hx3] at g3 hx
  obtain ⟨p1, hp1⟩ : ∃ p, p = (textB l3).length := ⟨_, rfl⟩
  obtain ⟨p2, hp2⟩ : ∃ p, p = (textB l2).length := ⟨_, rfl⟩
  obtain ⟨p3, hp3⟩ : ∃ p, p = (textB l4).length := ⟨_, rfl⟩
  rw [← hp1] at z1 htl1
  rw [← hp2] at z2 htl2
  rw [← hp3] at z3 htl3
  have hp1' : p1 ≤ 1300 := by omega
  have hp2' : p2 ≤ 1300 := by omega
  have hp3' : p3 ≤ 1300 := by omega
  have G1 := Lib.hid g1
  have G2 := Lib.hid g2
  have G3 := Lib.hid g3
  have HX := Lib.hid hx
  have HKR := Lib.hid hkr
  have hm2 : m2 ≤ 20 := by have := M2.out; simp at this; omega
  have hm3 : m4 ≤ 20 := by have := M4.out; simp at this; omega
  have HRL := Lib.hid hrl
  clear g1 g2 g3 hx hkr hrepl t1 t2 t3 t4 t5 t6 hlen hasc hx1 hx2 hx3 hp1 hp2 hp3 htl1 htl2 htl3 hT1 hT2 hT3 hrl hb2 hn1
  go_wp2_with fail
  refine (G2.out _).mono ?_
  rintro e v2 ⟨rfl, i2, rfl⟩
  go_wp2_with fail
  refine (G1.out _).mono ?_
  rintro e v1 ⟨rfl, i1, rfl⟩
  go_wp2_with fail
  refine (G3.out _).mono ?_
  rintro e v3 ⟨rfl, i3, rfl⟩
  go_wp2_with fail
  rw [HX.out]
  refine fileOf_any.mono ?_
  rintro e w9 ⟨rfl, rfl⟩
  have hfil := files_one (w.drewN i3) (argF b0 b1 l2 l3 l4)
  have hbe : Below w.heap.size w ((w.drewN i3).alloc (.cells #[.string mainName, .string (mkS (argF b0 b1 l2 l3 l4))] 33)) := (below_drewN (Below.refl _ _) _).alloc (Nat.le_refl _) _
  have Hfil := Lib.hid hfil
  have Hbe := Lib.hid hbe
  have hsz9 : ((w.drewN i3).alloc (.cells #[.string mainName, .string (mkS (argF b0 b1 l2 l3 l4))] 33)).heap.size = w.heap.size + 1 := by simp
  have Hsz9 := Lib.hid hsz9
  clear hfil hbe hsz9
  generalize (w.drewN i3).alloc (.cells #[.string mainName, .string (mkS (argF b0 b1 l2 l3 l4))] 33) = w9 at Hfil Hbe Hsz9 ⊢
  obtain ⟨n4, hn4⟩ : ∃ n, n = ((l2.flatMap (repW b1 l3)).map mkS).length := ⟨_, rfl⟩
  have hrep : ∀ k, Calls Tryz.prog 17 #[.slice (some ad2) m2 c2, .string (mkS b1), .slice (some ad3) m3 c3] (w9.drewN k) fun e w' => ∃ A9 c9, e = .returned (.slice A9 n4 c9) ∧ w'.ownsRow w9.heap.size 9 1 (.slice A9 n4 c9) n4 (((l2.flatMap (repW b1 l3)).map mkS).map Value.string) ∧ Below w9.heap.size w9 w' := fun k => by
    have h := laws_replaced.calls kr (some ad2) c2 (l2.map mkS) (mkS b1) (some ad3) c3 (l3.map mkS) _ (w9.drewN k) (Kd.C_drewN (Kd.C_below R2.out Hbe.out) k) C2.out (Kd.C_drewN (Kd.C_below R3.out Hbe.out) k) C3.out HKR.out
    rw [← M2.out, ← M3.out] at h
    refine h.mono ?_
    rintro e w' ⟨v0, rfl, hR, hb2⟩
    have ho := own_of_R hR
    rw [← hn4] at ho
    obtain ⟨A2, c2, rfl, h1, h2⟩ := Kd.R_reads hR
    rw [← hn4] at ho ⊢
    exact ⟨A2, c2, rfl, ho, (below_drewN (Below.refl _ _) k).trans (hb2.mono (Nat.le_refl _))⟩
  have hn4b : n4 ≤ 500 := by
    rw [hn4, List.length_map]
    have := HRL.out
    have := M2.out
    simp at this
    omega
  have Hrep := Lib.hid hrep
  have Hn4 := Lib.hid hn4
  have hm3' : m4 = (l4.map mkS).length := M4.out
  have HM3 := Lib.hid hm3'
  have hk3 : ∀ w', Below w.heap.size w w' → Kd.C Kd.string w' A4 m4 (l4.map mkS) := fun w' hb => by have := Kd.C_below R4.out hb; rwa [← M4.out] at this
  have HK3 := Lib.hid hk3
  clear hrep hn4 hm3' hk3
  go_wp2_with fail
  refine (Hrep.out 0).mono ?_
  rintro e w11 ⟨A9, c9, rfl, hC4, hb11⟩
  have Hrow11 := Lib.hid hC4
  have Hb11 := Lib.hid hb11
  have Hbw11 : Hid (Below w.heap.size w w11) := Lib.hid (Hbe.out.trans (hb11.mono Hbe.out.size))
  clear hC4 hb11 Hrep
  go_wp2_with (at_builtin; refine wpList_append_kd rfl _ _ rfl w9.heap.size _ A4 m4 c4 rfl rfl n4 (((l2.flatMap (repW b1 l3)).map mkS).map Value.string) (l4.map mkS) ?d1 ?d2 ?d3 ?d4 ?d5 ?d6 ?_)
  case d1 => exact Hrow11.out
  case d2 => exact HK3.out _ Hbw11.out
  case d3 => exact HM3.out
  case d4 => exact q4
  case d5 => omega
  case d6 => exact Hb11.out.size
  intro v' w12 hown hgrow
  obtain ⟨a12, c12, rfl⟩ : ∃ a c, v' = .slice a (n4 + m4) c := by
    obtain ⟨_, ⟨e, h0⟩ | ⟨g, cap, cur, e, _⟩⟩ := hown
    · exact ⟨none, 0, by rw [e, h0]⟩
    · exact ⟨_, cap, e⟩
  have hlen12 : ((l2.flatMap (repW b1 l3) ++ l4).map mkS).length = n4 + m4 := by rw [List.map_append, List.length_append, ← HM3.out, ← Hn4.out]
  have hkd := kd_strs (b := w9.heap.size) (l := (l2.flatMap (repW b1 l3) ++ l4).map mkS) (a := a12) (n := n4 + m4) (c := c12) (w := w12) (by rw [hlen12, List.map_append, List.map_append]; simpa using hown)
  have hgf : (w.drewN i3).heap.size < w9.heap.size := by rw [Hsz9.out]; show w.heap.size < _; omega
  have hf11 : Files w11 (w.drewN i3).heap.size 1 [(mainBs, mkS (argF b0 b1 l2 l3 l4))] := ownsRow_only Hfil.out (fun k hk => by cases hk; exact Hb11.out.block _ hgf)
  have ho12 := (Only.refl (fun q => (Value.slice A9 n4 c9).ownBlock = some q) w11).grown hgrow (fun k hk _ => hk)
  have hf12 : Files w12 (w.drewN i3).heap.size 1 [(mainBs, mkS (argF b0 b1 l2 l3 l4))] := row_only hf11 ho12 (fun k e hk ht => typed_ne ht (ownBlock_row Hrow11.out k e).2 (fun T a b => by rw [a] at b; revert b; decide) rfl)
  have hb12 : Below w.heap.size w w12 := Hbw11.out.trans (ho12.below Hbw11.out.size (fun k hk e => by have := (ownBlock_row Hrow11.out k e).1; have := Hbe.out.size; omega))
  have hgs := GS.out w12 a12 (n4 + m4) c12 hb12 (by have := hkd.2.2; rwa [hlen12] at this) hlen12.symm (by have := hkd.2.1; omega) _ hf12
  have HGS := Lib.hid hgs
  have Hb12 := Lib.hid hb12
  clear hkd hgf hf11 ho12 hf12 hb12 hgs hown hgrow hlen12
  go_wp2_with fail
  refine HGS.out.mono ?_
  rintro e w13 ⟨rfl, hb13⟩
  have Hend : Hid (LawQ w (.returned (.bool true)) w13) := Lib.hid ⟨rfl, Hb12.out.trans (hb13.mono Hb12.out.size)⟩
  clear hb13
  go_wp2
  go_ret
  exact Hend.out
end
end Go.Proofs.YtpoimmpdncickaaGreatDoor
