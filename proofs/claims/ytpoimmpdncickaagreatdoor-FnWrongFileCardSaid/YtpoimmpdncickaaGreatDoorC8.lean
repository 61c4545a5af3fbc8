/- The input: macros invoked with an argument. -/
import Derived.Test.YtpoimmpdncickaaGreatDoorJ8
import Derived.Test.YtpoimmpdncickaaGreatDoorB8
import Derived.Lib.BufferMore
/- collectArgument: the words of an argument without brackets and commas. -/
namespace Go.Proofs.YtpoimmpdncickaaGreatDoor
open Go Go.RowKit Lex
set_option linter.unusedVariables false
set_option linter.unusedSimpArgs false

section
variable {w w' : World} {B ib : Nat} {C : Cfg} {ab ab' : List Ab} {mn : Nat} {mac : Bs → Option Mc} {ifs : List Bool} {bol : Bool} {text : Bs} {S S' : Nat → Value} {rs rs' : List RS} {ev : Value}

/-- In the loop: 'done' has been taken. -/
def CoLoop (B ib : Nat) (C : Cfg) (a : Ab) (rest : List Ab) (mn : Nat) (mac : Bs → Option Mc) (ifs : List Bool) (bol : Bool) (text : Bs) (L : List Tok) (ts : List Tok) (w : World) (n : Nat) (v6 v7 : Value) (wr : World) : Prop :=
  ∃ done todo c, L = done ++ todo ∧ todo ≠ [] ∧ n = todo.length ∧ v6 = .int .i64 0 ∧ wr.ownsRow w.heap.size 116 2 v7 done.length (cellsT (done.map Tok.kx)) ∧
    Inp wr B ib C ({ a with cur := c, ts := todo ++ ts } :: rest) mn mac ifs bol text ∧ Soft B C.bl w wr

def CoQ (B ib : Nat) (C : Cfg) (ab : List Ab) (mn : Nat) (mac : Bs → Option Mc) (ifs : List Bool) (bol : Bool) (text : Bs) (k : Int) (body : List (Int × Bs)) (w : World) (e : Ending) (w' : World) : Prop :=
  ∃ ta tl tc, e = .returned (.tuple #[.slice ta tl tc, .int .i32 k]) ∧ w'.ownsRow w.heap.size 116 2 (.slice ta tl tc) body.length (cellsT body) ∧ Inp w' B ib C ab mn mac ifs bol text ∧ Soft B C.bl w w'

/-- What an argument's words are. -/
def argTok (t : Tok) : Prop := okTok t ∧ t.k ≠ 10 ∧ t.k ≠ -1 ∧ t.k ≠ 0 ∧ t.k ≠ 40 ∧ t.k ≠ 41 ∧ t.k ≠ 44

set_option maxRecDepth 100000 in
set_option maxHeartbeats 4000000 in
theorem collect_plain {a : Ab} {rest : List Ab} {body : List Tok} {e : Tok} {ts : List Tok} {mp : Value} (h : Inp w B ib C (a :: rest) mn mac ifs bol text) (htz : ∀ q ∈ a :: rest, q.istz = true) (hats : a.ts = body ++ e :: ts)
    (hb : ∀ t ∈ body, argTok t) (he : e.k = 41 ∨ e.k = 44) (hbl : body.length ≤ 1000) (hC : C.lim ≤ w.heap.size) (hg : Glob w ev) (hB : 21 ≤ B) (hl : (a :: rest).length < 500) :
    Calls Tryz.prog 98 #[.pointer (some ⟨ib, 0, none⟩), mp] w (CoQ B ib C ({ a with cur := e, ts := ts } :: rest) mn mac ifs bol text e.k (body.map Tok.kx) w) := by
  obtain ⟨i0, hi, hz0, hz1, hz2⟩ := info_parts infoTok
  have H0 := Lib.hid h
  obtain ⟨ek, hek⟩ : ∃ q, q = e.k := ⟨_, rfl⟩
  rw [← hek] at he ⊢
  have Hek := Lib.hid hek
  clear hek
  have Htz := Lib.hid htz
  have Hats := Lib.hid hats
  have Hb := Lib.hid hb
  have He := Lib.hid he
  have Hg := Lib.hid hg
  have hl2 : ∀ q : Ab, (q :: rest).length < 500 := fun q => by simpa using hl
  have Hl2 := Lib.hid hl2
  clear h htz hats hb he hg hl hl2
  go_enter Tryz.func98, Tryz.ntmps98
  go_wp2
  go_loopg [6, 7] (body.length + 1) (fun n v6 v7 wr => CoLoop B ib C a rest mn mac ifs bol text (body ++ [e]) ts w n v6 v7 wr)
  case atStart => exact ⟨[], body ++ [e], a.cur, rfl, by simp, by simp, rfl, World.ownsRow_nil _ _ _ _, by have := H0.out; rw [show ({ a with cur := a.cur, ts := (body ++ [e]) ++ ts } : Ab) = a by rw [List.append_assoc, List.singleton_append, ← Hats.out]]; exact this, Soft.refl _ _ _⟩
  case round =>
    obtain ⟨done, todo, c, hL, hne, rfl, rfl, hown, hI, hS⟩ := hrel
    cases todo with
    | nil => exact absurd rfl hne
    | cons t todo =>
      have Hn := Lib.hid (inNext (dead := []) (t := t) (ts := todo ++ ts) hI (fun _ h => by cases h) rfl (hS.glob Hg.out hB) hB (Hl2.out _))
      cases todo with
      | nil => as_aux_lemma =>
        obtain ⟨hd, ht⟩ := List.append_inj' hL rfl
        obtain rfl : e = t := by simpa using ht
        have hown' : wr.ownsRow w.heap.size 116 2 u7 (body.map Tok.kx).length (cellsT (body.map Tok.kx)) := by rw [List.length_map, hd]; exact hown
        obtain ⟨ta, tl, tc, rfl⟩ : ∃ ta tl tc, u7 = .slice ta tl tc := by
          obtain ⟨_, ⟨e, e0⟩ | ⟨g, cap, cur, e, _⟩⟩ := hown
          · exact ⟨_, _, _, e⟩
          · exact ⟨_, _, _, e⟩
        have Hown := Lib.hid hown'
        have HS := Lib.hid hS
        clear hL hd ht hown hown' hI hS
        rw [← Hek.out] at Hn
        go_wp2_with fail
        refine Hn.out.mono ?_
        rintro e' w1 ⟨rfl, h1, s1⟩
        have Hfin : Hid (CoQ B ib C ({ a with cur := e, ts := ts } :: rest) mn mac ifs bol text ek (body.map Tok.kx) w (.returned (.tuple #[.slice ta tl tc, .int .i32 ek])) w1) :=
          Lib.hid ⟨_, _, _, rfl, s1.row Hown.out (mt2_not (by decide)), by simpa using h1, HS.out.trans s1⟩
        clear h1 s1
        rcases He.out with hk | hk
        · subst hk
          clear He Hek Hn
          go_wp2
          go_ret2
          exact Hfin.out
        · subst hk
          clear He Hek Hn
          go_wp2
          go_ret2
          exact Hfin.out
      | cons t1 todo => as_aux_lemma =>
        have hmem : t ∈ body := by
          have h1 := congrArg List.dropLast hL
          rw [List.dropLast_concat] at h1
          rw [h1, List.dropLast_append_of_ne_nil (by simp)]
          simp
        obtain ⟨hok, g1, g2, g3, g4, g5, g6⟩ := Hb.out t hmem
        have b1 : (t.k == 10) = false := by simp [g1]
        have b2 : (t.k == -1) = false := by simp [g2]
        have b3 : (t.k == 40) = false := by simp [g4]
        have b4 : (t.k == 41) = false := by simp [g5]
        have b5 : (t.k == 44) = false := by simp [g6]
        have hlen : done.length + (t1 :: todo).length = body.length := by
          have := congrArg List.length hL
          simp at this ⊢; omega
        have hdl : done.length ≤ 1001 := by simp at hlen; omega
        have Htx := Lib.hid (fun (w1 : World) (h1 : Inp w1 B ib C ({ a with cur := t, ts := (t1 :: todo) ++ ts } :: rest) mn mac ifs bol text) => inText h1 g3 (Hl2.out _))
        have Hown := Lib.hid hown
        have HL := Lib.hid hL
        have HS := Lib.hid hS
        have Hok := Lib.hid hok
        have hwr : w.heap.size ≤ wr.heap.size := hS.size
        have Hwr := Lib.hid hwr
        obtain ⟨tk, htk⟩ : ∃ tk, tk = t.k := ⟨_, rfl⟩
        rw [← htk] at b1 b2 b3 b4 b5 Hn
        have Htk := Lib.hid htk
        clear hmem g1 g2 g3 g4 g5 g6 hlen hown hL hI hS hok hwr htk
        go_wp2_with fail
        refine Hn.out.mono ?_
        rintro e' w2 ⟨rfl, hI2, hS2⟩
        have Ht2 := Lib.hid (Htx.out w2 hI2)
        have Hown2 := Lib.hid (hS2.row Hown.out (mt2_not (by decide)))
        have HS2 := Lib.hid (HS.out.trans hS2)
        have Hsz2 := Lib.hid (Nat.le_trans Hwr.out hS2.size)
        clear hI2 hS2
        go_wp2_with fail
        refine Ht2.out.mono ?_
        rintro e' w3 ⟨rfl, hI3, hS3⟩
        have HI3 := Lib.hid hI3
        have Hown3 := Lib.hid (hS3.row Hown2.out (mt2_not (by decide)))
        have HS3 := Lib.hid (HS2.out.trans hS3)
        have Hsz3 := Lib.hid (Nat.le_trans Hsz2.out hS3.size)
        have Hmk := Lib.hid (make_any tk t.x w3 Hok.out.1 Hok.out.2.1 Hok.out.2.2)
        clear hI3 hS3
        go_wp2_with fail
        refine Hmk.out.mono ?_
        rintro e' w4 ⟨rfl, hb4⟩
        have HI4 := Lib.hid (HI3.out.below hb4)
        have Hown4 := Lib.hid (ownsRow_only Hown3.out (fun k hk => hb4.block k (Hown3.out.lt k hk).2))
        have HS4 := Lib.hid (HS3.out.trans (Soft.ofBelow hb4))
        have Hsz4 := Lib.hid (Nat.le_trans Hsz3.out hb4.size)
        clear hb4
        go_wp2_with (at_builtin; refine wpList_append_own _ rfl _ _ 113 rfl w.heap.size 116 i0 (.agg #[.int .i32 0, .string ⟨#[]⟩]) 2 24 Tryz.underlying113 hi hz0 hz1 hz2 rfl (by decide) _ _ _ rfl (Hown4.out.alloc _) ⟨w4.heap.size, 0, none⟩ 1 1 [.int .i32 tk, .string (mkS t.x)] rfl rfl ?c1 ?c2 ?c3 ?c4 ?c5 ?_)
        case c1 => exact cellTwo _ _ _ _
        case c2 => intro u hu; simp at hu; rcases hu with rfl | rfl <;> rfl
        case c3 => unfold maxLen; omega
        case c4 => omega
        case c5 => have := Hsz4.out; simp; omega
        intro v' w5 hown5 hgrow _
        have HI5 : Hid (Inp w5 B ib C ({ a with cur := t, ts := (t1 :: todo) ++ ts } :: rest) mn mac ifs bol text) := Lib.hid (by
          have h1 := HI4.out.below ((Below.refl w4.heap.size w4).alloc (Nat.le_refl _) (.cells #[.int .i32 tk, .string (mkS t.x)] 116))
          refine h1.rowed (fun q hq => tz_mem Htz.out q hq) ((Only.refl (fun k => u7.ownBlock = some k) _).grown hgrow (fun k hk _ => hk)) (fun k hk _ => ?_)
          have hr := ownBlock_row (Hown4.out.alloc (.cells #[.int .i32 tk, .string (mkS t.x)] 116)) k hk
          exact ⟨by have := hr.1; omega, .inl hr.2⟩)
        have HS5 : Hid (Soft B C.bl w w5) := Lib.hid ((HS4.out.trans (Soft.ofBelow ((Below.refl w4.heap.size w4).alloc (Nat.le_refl _) (.cells #[.int .i32 tk, .string (mkS t.x)] 116)))).new ((Only.refl (fun k => u7.ownBlock = some k) _).grown hgrow (fun k hk _ => hk)) (fun k hk => (Hown4.out.lt k hk).1))
        have hown5' : w5.ownsRow w.heap.size 116 2 v' (done ++ [t]).length (cellsT ((done ++ [t]).map Tok.kx)) := by
          rw [List.length_append, List.map_append, List.map_cons, List.map_nil, cellsT_snoc]
          show w5.ownsRow w.heap.size 116 2 v' (done.length + 1) (cellsT (done.map Tok.kx) ++ [.int .i32 t.k, .string (mkS t.x)])
          rw [← Htk.out]
          exact hown5
        have Hown5 := Lib.hid hown5'
        clear hown5 hgrow hown5'
        go_wp2
        go_roundg (t1 :: todo).length
        case measure => simp
        case rel => exact ⟨done ++ [t], t1 :: todo, t, by rw [HL.out]; simp, by simp, rfl, rfl, Hown5.out, HI5.out, HS5.out⟩
end
section
variable {w w' : World} {B ib : Nat} {C : Cfg} {ab ab' : List Ab} {mn : Nat} {mac : Bs → Option Mc} {ifs : List Bool} {bol : Bool} {text : Bs} {S S' : Nat → Value} {rs rs' : List RS} {ev : Value}

theorem Soft.untyped {bl : Bool} {k : Nat} {T : TypeId} (h : Mut bl w k) (hT : ¬ MT2 bl T) : ¬ Typed w k (· = T) := fun ht => by
  rcases h with hm | ⟨es, c, hm⟩
  · exact not_typed hm hT ht
  · obtain ⟨c', T', h1, _⟩ := ht
    rw [h1] at hm; cases hm
theorem MacAt.soft {bl : Bool} {L b : Nat} {x : Bs} {m : Mc} (h : MacAt w L b x m) (s : Soft B bl w w') : MacAt w' L b x m :=
  h.only s (fun k hk hlt => ⟨Soft.untyped hk.2 (mt2_not (.inr (.inl rfl))), Soft.untyped hk.2 (mt2_not (.inl rfl)), Soft.untyped hk.2 (mt2_not (.inr (.inr (.inl rfl))))⟩)

theorem infoToks : (Tryz.prog.info? 113).map (fun i => (i.zero, i.size, i.bytes)) = some (some (.slice none 0 0), 1, 24) := by kernel_rfl

/-- The macro's first two parts, as cells: its arguments are there. -/
theorem MacAt.argc {L b : Nat} {x : Bs} {m : Mc} {P : List Bs} (h : MacAt w L b x m) (hP : m.args = some P) : ∃ aa ac, w.cell? ⟨b, 0, none⟩ = some (.string (mkS x)) ∧ w.cell? ⟨b, 1, none⟩ = some (.slice (some aa) P.length ac) ∧ Strs w (.slice (some aa) P.length ac) (P.map mkS) := by
  obtain ⟨S, hB, hlt, h0, h2, h1⟩ := h
  rw [hP] at h1
  obtain ⟨⟨aa, an, ac, hSa⟩, hst⟩ := h1
  have hn : an = P.length := by
    rw [hSa] at hst
    obtain ⟨_, ⟨e, e0⟩ | ⟨g, cap, cur, e, _⟩⟩ := hst
    · cases e
    · injection e with _ e2 _; rw [e2, List.length_map]
  subst hn
  rw [hSa] at hst
  exact ⟨aa, ac, by rw [hB.cell_eq (i := 0) (by decide) h0], by rw [hB.cell_eq (i := 1) (by decide) hSa], hst⟩

def ArQ (B ib : Nat) (C : Cfg) (ab : List Ab) (mn : Nat) (mac : Bs → Option Mc) (ifs : List Bool) (bol : Bool) (text : Bs) (p : Bs) (body : List (Int × Bs)) (w : World) (e : Ending) (w' : World) : Prop :=
  ∃ mb n ta tl tc, e = .returned (.map (some mb)) ∧ w.heap.size ≤ mb ∧ SMap w' mb n (fun y => if y = p then some (.slice ta tl tc) else none) ∧ w'.ownsRow w.heap.size 116 2 (.slice ta tl tc) body.length (cellsT body) ∧ Inp w' B ib C ab mn mac ifs bol text ∧ Soft B C.bl w w'

set_option maxRecDepth 100000 in
set_option maxHeartbeats 4000000 in
theorem argsFor_one {a : Ab} {rest : List Ab} {body : List Tok} {e : Tok} {ts : List Tok} {b L : Nat} {x p : Bs} {m : Mc} (h : Inp w B ib C (a :: rest) mn mac ifs bol text) (hm : MacAt w L b x m) (hargs : m.args = some [p]) (hp : p.length ≤ 1000) (htz : ∀ q ∈ a :: rest, q.istz = true) (hats : a.ts = body ++ e :: ts)
    (hb : ∀ t ∈ body, argTok t) (he : e.k = 41) (hbl : body.length ≤ 1000) (hC : C.lim ≤ w.heap.size) (hg : Glob w ev) (hB : 21 ≤ B) (hl : (a :: rest).length < 500) :
    Calls Tryz.prog 76 #[.pointer (some ⟨ib, 0, none⟩), .pointer (some ⟨b, 0, none⟩)] w (ArQ B ib C ({ a with cur := e, ts := ts } :: rest) mn mac ifs bol text p (body.map Tok.kx) w) := by
  obtain ⟨i1, hi, hz0, hz1, hz2⟩ := info_parts infoToks
  have hco := collect_plain (mp := .pointer (some ⟨b, 0, none⟩)) h htz hats hb (.inl he) hbl hC hg hB hl
  rw [he] at hco
  have Hco := Lib.hid hco
  have Hm := Lib.hid hm
  have Hargs := Lib.hid hargs
  have hmm := @run_makeMap Tryz.prog
  clear h hm hargs htz hats hb he hg hl hco
  go_enter Tryz.func76, Tryz.ntmps76
  go_wp2
  refine wp_loop_rounds 1 ?_
  rw [rounds_succ]
  go_wp2_with fail
  refine Hco.out.mono ?_
  rintro e' w1 ⟨ta, tl, tc, rfl, hrow, h1, s1⟩
  obtain ⟨aa, ac, kb0, kb1, hst⟩ := (Hm.out.soft s1).argc Hargs.out
  have Hrow := Lib.hid hrow
  have H1 := Lib.hid h1
  have S1 := Lib.hid s1
  have Hst := Lib.hid hst
  clear hrow h1 s1 hst
  go_wp2_with (at_builtin; refine wpList_append_own _ rfl _ _ 163 rfl w1.heap.size 113 i1 (.slice none 0 0) 1 24 Tryz.underlying163 hi hz0 hz1 hz2 rfl (by decide) (.slice none 0 0) 0 [] rfl (World.ownsRow_nil _ _ _ _) ⟨w1.heap.size, 0, none⟩ 1 1 [.slice ta tl tc] rfl rfl ?c1 ?c2 ?c3 ?c4 ?c5 ?_)
  case c1 => exact cellOneI w1 _ _
  case c2 => intro u hu; simp at hu; subst hu; rfl
  case c3 => unfold maxLen; omega
  case c4 => omega
  case c5 => simp
  intro v' w2 hown hgrow _
  obtain ⟨g9, c9, rfl⟩ : ∃ g9 c9, v' = .slice (some ⟨g9, 0, none⟩) 1 c9 := by
    obtain ⟨_, ⟨_, h0⟩ | ⟨g, cap, cur, e, _⟩⟩ := hown
    · cases h0
    · exact ⟨g, cap, e⟩
  obtain ⟨g, rfl⟩ : ∃ g, aa = ⟨g, 0, none⟩ := by
    obtain ⟨_, ⟨e, e0⟩ | ⟨g, cap, cur, e, _⟩⟩ := Hst.out
    · cases e
    · cases e; exact ⟨g, rfl⟩
  have hb12 : Below w1.heap.size w1 w2 := ((Below.refl _ _).alloc (Nat.le_refl _) (.cells #[.slice ta tl tc] 113)).trans ⟨hgrow.os, hgrow.tape, hgrow.output, hgrow.size, fun k hk => hgrow.block k (by simp; omega) (fun e => by simp [Value.ownBlock] at e)⟩
  have kg : w1.cell? ⟨g, 0, none⟩ = some (.string (mkS p)) := Hst.out.cells (g := g) rfl 0 _ rfl
  have lb : b < w1.heap.size := by
    obtain ⟨S, hB, _⟩ := Hm.out.soft S1.out
    exact hB.lt
  have lg : g < w1.heap.size := (ownBlock_row Hst.out g rfl).2.lt
  have qb0 : w2.cell? ⟨b, 0, none⟩ = some (.string (mkS x)) := (hb12.cell (p := ⟨b, 0, none⟩) lb).trans kb0
  have qb1 : w2.cell? ⟨b, 1, none⟩ = some (.slice (some ⟨g, 0, none⟩) 1 ac) := (hb12.cell (p := ⟨b, 1, none⟩) lb).trans kb1
  have qg : w2.cell? ⟨g, 0, none⟩ = some (.string (mkS p)) := (hb12.cell (p := ⟨g, 0, none⟩) lg).trans kg
  have qr : w2.cell? ⟨g9, 0, none⟩ = some (.slice ta tl tc) := hown.cells (g := g9) rfl 0 _ rfl
  have lb2 : b < w2.heap.size := Nat.lt_of_lt_of_le lb hb12.size
  have lg2 : g < w2.heap.size := Nat.lt_of_lt_of_le lg hb12.size
  have l92 : g9 < w2.heap.size := (ownBlock_row hown g9 rfl).2.lt
  have hb23 : Below w2.heap.size w2 (w2.alloc (.map #[] 0)) := (Below.refl _ _).alloc (Nat.le_refl _) _
  have rb0 : (w2.alloc (.map #[] 0)).cell? ⟨b, 0, none⟩ = some (.string (mkS x)) := (hb23.cell (p := ⟨b, 0, none⟩) lb2).trans qb0
  have rb1 : (w2.alloc (.map #[] 0)).cell? ⟨b, 1, none⟩ = some (.slice (some ⟨g, 0, none⟩) 1 ac) := (hb23.cell (p := ⟨b, 1, none⟩) lb2).trans qb1
  have rg : (w2.alloc (.map #[] 0)).cell? ⟨g, 0, none⟩ = some (.string (mkS p)) := (hb23.cell (p := ⟨g, 0, none⟩) lg2).trans qg
  have rr : (w2.alloc (.map #[] 0)).cell? ⟨g9, 0, none⟩ = some (.slice ta tl tc) := (hb23.cell (p := ⟨g9, 0, none⟩) l92).trans qr
  obtain ⟨w4, hup, hm4, ho4⟩ := (SMap.new w2).update Tryz.underlying135 (by omega) p (by omega) (.slice ta tl tc)
  have hbe : Below w1.heap.size w1 w4 := (hb12.trans (hb23.mono hb12.size)).trans (ho4.below (Nat.le_trans hb12.size hb23.size) (fun k hk e => by have := hb12.size; omega))
  have hfin : ArQ B ib C ({ a with cur := e, ts := ts } :: rest) mn mac ifs bol text p (body.map Tok.kx) w (.returned (.map (some w2.heap.size))) w4 :=
    ⟨w2.heap.size, 1, ta, tl, tc, rfl, Nat.le_trans S1.out.size hb12.size, hm4, ownsRow_only Hrow.out (fun k hk => hbe.block k (ownBlock_row Hrow.out k hk).2.lt), H1.out.below hbe, S1.out.trans (Soft.ofBelow hbe)⟩
  have Hfin := Lib.hid hfin
  have Hup := Lib.hid hup
  clear hown hgrow hb12 hb23 hup hm4 ho4 hbe hfin kb0 kb1 kg lb lg lb2 lg2 l92 hi hz0 hz1 hz2 Hrow H1 S1 Hst Hco Hm Hargs
  go_wp2_with fail
  generalize hw3 : w2.alloc (.map #[] 0) = w3 at rb0 rb1 rg rr Hup ⊢
  refine wp_loop_rounds 2 ?_
  rw [rounds_succ]
  go_wp2
  rw [Hup.out]
  go_wp2
  rw [rounds_succ]
  go_wp2
  go_ret
  exact Hfin.out
end
/-- The macro's tokens, the argument's for each one of its name. -/
def subK (p : Bs) (arg : List (Int × Bs)) (l : List (Int × Bs)) : List (Int × Bs) := l.flatMap fun t => if t.1 = -2 ∧ t.2 = p then arg else [t]
theorem subK_snoc (p : Bs) (arg l : List (Int × Bs)) (t : Int × Bs) : subK p arg (l ++ [t]) = subK p arg l ++ if t.1 = -2 ∧ t.2 = p then arg else [t] := by simp [subK]
theorem subK_len (p : Bs) (arg : List (Int × Bs)) (ha : arg.length ≤ 100) : ∀ l : List (Int × Bs), (subK p arg l).length ≤ 101 * l.length
  | [] => by simp [subK]
  | t :: r => by
    have ih := subK_len p arg ha r
    have e : subK p arg (t :: r) = (if t.1 = -2 ∧ t.2 = p then arg else [t]) ++ subK p arg r := by simp [subK]
    rw [e, List.length_append, List.length_cons]
    split
    · omega
    · simp; omega
theorem cellsT_app (x y : List (Int × Bs)) : cellsT (x ++ y) = cellsT x ++ cellsT y := by simp [cellsT]
section
variable {w w' : World} {B ib : Nat} {C : Cfg} {ab ab' : List Ab} {mn : Nat} {mac : Bs → Option Mc} {ifs : List Bool} {bol : Bool} {text : Bs} {S S' : Nat → Value} {rs rs' : List RS} {ev : Value}

def ILoop (p : Bs) (arg l : List (Int × Bs)) (w : World) (n : Nat) (v77 v6 : Value) (wr : World) : Prop :=
  ∃ i, v77 = .int .i64 (i : Nat) ∧ wr.ownsRow w.heap.size 116 2 v6 (subK p arg (l.take i)).length (cellsT (subK p arg (l.take i))) ∧ i + n = l.length ∧ i ≤ l.length ∧ Below w.heap.size w wr

set_option maxRecDepth 100000 in
set_option maxHeartbeats 4000000 in
theorem invoke_one {a : Ab} {rest : List Ab} {op e : Tok} {body ts : List Tok} {b L : Nat} {x p : Bs} {m : Mc} (h : Inp w B ib C (a :: rest) mn mac ifs bol text) (hm : MacAt w L b x m) (hargs : m.args = some [p]) (hp : p.length ≤ 1000) (htz : ∀ q ∈ a :: rest, q.istz = true) (hats : a.ts = op :: (body ++ e :: ts))
    (hop : op.k = 40) (hb : ∀ t ∈ body, argTok t) (hb0 : body ≠ []) (he : e.k = 41) (hbl : body.length ≤ 100) (hml : m.toks.length ≤ 100) (hmt : ∀ t ∈ m.toks, t.1 ≠ -1 ∧ t.2.length ≤ 1000) (hC : C.lim ≤ w.heap.size) (hg : Glob w ev) (hB : 21 ≤ B) (hl : (a :: rest).length ≤ 100) :
    Calls Tryz.prog 53 #[.pointer (some ⟨ib, 0, none⟩), .pointer (some ⟨b, 0, none⟩)] w (InvQ B ib C (slAb a.nm e.line (subK p (body.map Tok.kx) m.toks) :: { a with cur := e, ts := ts } :: rest) mn mac ifs bol text w) := by
  obtain ⟨i0, hi, hz0, hz1, hz2⟩ := info_parts infoTok
  have Hn := Lib.hid (inNext (dead := []) (t := op) (ts := body ++ e :: ts) h (fun _ h => by cases h) hats hg hB (by simp at hl ⊢; omega))
  rw [hop] at Hn
  have Harg := Lib.hid (fun (w1 : World) (h1 : Inp w1 B ib C ({ a with cur := op, ts := body ++ e :: ts } :: rest) mn mac ifs bol text) (hm1 : MacAt w1 L b x m) (hC1 : C.lim ≤ w1.heap.size) (hg1 : Glob w1 ev) => argsFor_one h1 hm1 hargs hp (tz_mem htz) rfl hb he (by omega) hC1 hg1 hB (by simp at hl ⊢; omega))
  obtain ⟨aa, ac, kb0, kb1, _⟩ := hm.argc hargs
  have hsn := fun (W : World) (ad : Addr) (l c : Nat) => Lib.run_eql_slice_some_nil (P := Tryz.prog) W ad l c Tryz.underlying22
  have hsn2 := fun (W : World) (ad : Addr) (l c : Nat) => Lib.run_eql_slice_some_nil (P := Tryz.prog) W ad l c Tryz.underlying113
  have hsn3 := Lib.run_eql_slice_nil (P := Tryz.prog)
  have Hm := Lib.hid hm
  have Hg := Lib.hid hg
  have hargl : (body.map Tok.kx).length ≤ 100 := by simpa using hbl
  have harg0 : body.map Tok.kx ≠ [] := by simpa using hb0
  have hargk : ∀ t ∈ body.map Tok.kx, t.1 ≠ -1 := fun t ht => by
    obtain ⟨q, hq, rfl⟩ := List.mem_map.1 ht
    exact (hb q hq).2.2.1
  obtain ⟨arg, harg⟩ : ∃ q, q = body.map Tok.kx := ⟨_, rfl⟩
  rw [← harg] at hargl harg0 Harg hargk ⊢
  have Hargk := Lib.hid hargk
  have Hmt := Lib.hid hmt
  have Hp := Lib.hid hp
  have hlt100 : (({ a with cur := e, ts := ts } : Ab) :: rest).length ≤ 100 := by simpa using hl
  have Hlt := Lib.hid hlt100
  have Harg0 := Lib.hid harg0
  clear h hm hargs htz hats hop hb hb0 he hg hl harg hmt hp hlt100 harg0 hargk
  go_enter Tryz.func53, Tryz.ntmps53
  go_wp2_with fail
  refine Hn.out.mono ?_
  rintro e' w1 ⟨rfl, h1, s1⟩
  have Hm1 := Lib.hid (Hm.out.soft s1)
  have Ha1 := Lib.hid (Harg.out w1 h1 Hm1.out (Nat.le_trans hC s1.size) (s1.glob Hg.out hB))
  have S1 := Lib.hid s1
  clear h1 s1 kb0 kb1 Hn Harg
  go_wp2_with fail
  refine Ha1.out.mono ?_
  rintro e' w2 ⟨mb, nm2, ta, tl, tc, rfl, hmb, hmap, hrow, h2, s2⟩
  have hm2 := Hm1.out.soft s2
  obtain ⟨S, hBm, hltm, hS0, hS2, hS1⟩ := hm2
  obtain ⟨va, vl, vc, hSv⟩ : ∃ va vl vc, S 2 = .slice va vl vc := by
    obtain ⟨_, ⟨e, e0⟩ | ⟨g, cap, cur, e, _⟩⟩ := hS2
    · exact ⟨_, _, _, e⟩
    · exact ⟨_, _, _, e⟩
  rw [hSv] at hS2
  have hvl : vl = m.toks.length := by
    obtain ⟨_, ⟨e, e0⟩ | ⟨g, cap, cur, e, _⟩⟩ := hS2
    · cases e; exact e0.symm
    · cases e; rfl
  subst hvl
  have kb2 : w2.cell? ⟨b, 2, none⟩ = some (.slice va m.toks.length vc) := hBm.cell_eq (i := 2) (by decide) hSv
  have HTk : Hid (Toki w2 (.slice va m.toks.length vc) m.toks) := Lib.hid hS2
  have Hmap := Lib.hid hmap
  have Hrow := Lib.hid hrow
  have H2 := Lib.hid h2
  have S2 := Lib.hid (S1.out.trans s2)
  have hst : ILoop p arg m.toks w2 m.toks.length (.int .i64 0) (.slice none 0 0) w2 := ⟨0, rfl, by simpa [subK, cellsT] using World.ownsRow_nil _ _ _ _, by omega, by omega, Below.refl _ _⟩
  have Hst := Lib.hid hst
  obtain ⟨vl, hvl⟩ : ∃ q, q = m.toks.length := ⟨_, rfl⟩
  rw [← hvl] at kb2 HTk Hst hml
  have Hvl := Lib.hid hvl
  clear hmap hrow h2 s2 hBm hltm hS0 hS2 hS1 hSv hst hvl Ha1 Hm1 Hm S1 hmb
  go_wp2
  go_loopg [77, 6] vl (fun n v77 v6 wr => ILoop p arg m.toks w2 n v77 v6 wr)
  case atStart => exact Hst.out
  case round =>
    clear Hst
    obtain ⟨i, rfl, hown, hin, hil, hbr⟩ := hrel
    have hv := Hvl.out
    rcases Nat.lt_or_ge i vl with hlt | hge
    · obtain ⟨t, ht⟩ : ∃ t, m.toks[i]? = some t := ⟨m.toks[i]'(by omega), List.getElem?_eq_getElem _⟩
      rw [hv] at HTk
      obtain ⟨gt, cap, hva, hcap, hcm, kt0, kt1⟩ := HTk.out.cell ht
      cases hva
      have hgt : gt < w2.heap.size := (ownBlock_row HTk.out gt rfl).2.lt
      have kr0 : wr.cell? ⟨gt, i * 2, none⟩ = some (.int .i32 t.1) := (hbr.cell (p := ⟨gt, i * 2, none⟩) hgt).trans kt0
      have kr1 : wr.cell? ⟨gt, i * 2 + 1, none⟩ = some (.string (mkS t.2)) := (hbr.cell (p := ⟨gt, i * 2 + 1, none⟩) hgt).trans kt1
      have hlt2 : (i : Int) < (vl : Int) := by omega
      have e3 : IntKind.i64.wrap ((i : Int) + 1) = (i : Int) + 1 := IntWalk.i64_in _ (by omega)
      have hgk : gk - 1 < gk := by omega
      have hsub := subK_len p arg hargl (m.toks.take i)
      have htl := List.length_take_le i m.toks
      obtain ⟨nn, hnn⟩ : ∃ q, q = (subK p arg (m.toks.take i)).length := ⟨_, rfl⟩
      rw [← hnn] at hown hsub
      have hn4 : nn ≤ 20000 := by omega
      have htake : m.toks.take (i + 1) = m.toks.take i ++ [t] := by rw [List.take_add_one, ht]; rfl
      have hal : Below wr.heap.size wr (wr.alloc (.cells #[.int .i32 t.1, .string (mkS t.2)] 116)) := (Below.refl _ _).alloc (Nat.le_refl _) _
      have hbr2 : Below w2.heap.size w2 (wr.alloc (.cells #[.int .i32 t.1, .string (mkS t.2)] 116)) := hbr.trans (hal.mono hbr.size)
      have hmp := Hmap.out.of_heap (hbr2.block _ Hmap.out.lt)
      have hlook := hmp.look Tryz.underlying135 (z := .slice none 0 0) (fun w => by kernel_rfl) t.2 (by have := (Hmt.out t (List.mem_of_getElem? ht)).2; omega)
      have hnext : ∀ (v' : Value) (w5 : World) (k : Nat) (d : List (Int × Bs)), (if t.1 = -2 ∧ t.2 = p then arg else [t]) = d → w5.ownsRow w2.heap.size 116 2 v' (nn + d.length) (cellsT (subK p arg (m.toks.take i)) ++ cellsT d) → Below w2.heap.size w2 w5 → ILoop p arg m.toks w2 (gk - 1) (.int .i64 ((i + 1 : Nat) : Int)) v' w5 := fun v' w5 k d hd hr hbw =>
        ⟨i + 1, rfl, by rw [htake, subK_snoc, hd, List.length_append, ← hnn, cellsT_app]; exact hr, by omega, by omega, hbw⟩
      have Hnext := Lib.hid hnext
      have Hown := Lib.hid hown
      have Hbr := Lib.hid hbr
      have Hbr2 := Lib.hid hbr2
      have Ht := Lib.hid ht
      clear hown hbr hbr2 ht hnext hnn hsub htl htake hal hmp kt0 kt1 hin hil hv hlt
      have hone : ∀ W : World, W.heap.size = wr.heap.size + 1 → ∀ j u, [Value.int .i32 t.1, .string (mkS t.2)][j]? = some u → (W.alloc (.cells #[.int .i32 t.1, .string (mkS t.2)] 116)).cell? (Addr.add ⟨wr.heap.size + 1, 0, none⟩ j) = some u := fun W hW => by
        have h1 := cellTwo W (.int .i32 t.1) (.string (mkS t.2)) 116
        rwa [hW] at h1
      have Hone := Lib.hid hone
      clear hone
      obtain ⟨bq, hbq⟩ : ∃ q, (t.1 == -2) = q := ⟨_, rfl⟩
      have hbq' : (t.1 != -2) = !bq := by rw [← hbq]; rfl
      cases bq with
      | false => as_aux_lemma =>
        have hd : (if t.1 = -2 ∧ t.2 = p then arg else [t]) = [t] := by
          have : t.1 ≠ -2 := by simpa using hbq
          simp [this]
        have Hd := Lib.hid hd
        clear hd hlook
        go_wp2_with (at_builtin; refine wpList_append_own _ rfl _ _ 113 rfl w2.heap.size 116 i0 (.agg #[.int .i32 0, .string ⟨#[]⟩]) 2 24 Tryz.underlying113 hi hz0 hz1 hz2 rfl (by decide) _ _ _ rfl ((Hown.out.alloc _).alloc _) ⟨wr.heap.size + 1, 0, none⟩ 1 1 [.int .i32 t.1, .string (mkS t.2)] rfl rfl ?c1 ?c2 ?c3 ?c4 ?c5 ?_)
        case c1 => exact Hone.out _ (by simp)
        case c2 => intro u hu; simp at hu; rcases hu with rfl | rfl <;> rfl
        case c3 => unfold maxLen; omega
        case c4 => omega
        case c5 => have := Hbr.out.size; simp; omega
        intro v' w5 hown5 hgrow _
        have hbw : Below w2.heap.size w2 w5 := (Hbr2.out.alloc Hbr2.out.size _).trans ⟨hgrow.os, hgrow.tape, hgrow.output, hgrow.size, fun k hk => hgrow.block k (by have := Hbr.out.size; simp; omega) (fun e => by have := (ownBlock_row Hown.out k e.symm).1; omega)⟩
        have Hrel := Lib.hid (Hnext.out v' w5 0 [t] Hd.out hown5 hbw)
        clear hown5 hgrow hbw
        go_wp2
        go_roundg (gk - 1)
        case measure => exact hgk
        case rel => exact Hrel.out
      | true =>
        have ht2 : t.1 = -2 := by simpa using hbq
        by_cases hp2 : t.2 = p
        · as_aux_lemma =>
          have hl2 : (Instr.lookup 135 (.map (some mb)) (.string (mkS t.2)) false).run Tryz.prog (wr.alloc (.cells #[.int .i32 t.1, .string (mkS t.2)] 116)) = .ok (.slice ta tl tc) (wr.alloc (.cells #[.int .i32 t.1, .string (mkS t.2)] 116)) := by simpa [hp2] using hlook
          have Hd : Hid ((if t.1 = -2 ∧ t.2 = p then arg else [t]) = arg) := Lib.hid (by simp [ht2, hp2])
          obtain ⟨ga, rfl, rfl⟩ : ∃ ga, ta = some ⟨ga, 0, none⟩ ∧ tl = arg.length := by
            obtain ⟨_, ⟨e, e0⟩ | ⟨g, cap, cur, e, _⟩⟩ := Hrow.out
            · exact absurd (List.eq_nil_of_length_eq_zero e0) Harg0.out
            · cases e; exact ⟨g, rfl, rfl⟩
          have hga : ga < w2.heap.size := (ownBlock_row Hrow.out ga rfl).2.lt
          obtain ⟨al, hal⟩ : ∃ q, q = arg.length := ⟨_, rfl⟩
          have Hal := Lib.hid hal
          rw [← hal] at hl2 hargl
          clear hlook hal ht2 hp2
          go_wp2_with (at_builtin; refine wpList_append_own _ rfl _ _ 113 rfl w2.heap.size 116 i0 (.agg #[.int .i32 0, .string ⟨#[]⟩]) 2 24 Tryz.underlying113 hi hz0 hz1 hz2 rfl (by decide) _ _ _ rfl (Hown.out.alloc _) ⟨ga, 0, none⟩ al tc (cellsT arg) rfl ?c0 ?c1 ?c2 ?c3 ?c4 ?c5 ?_)
          case c0 => rw [cellsT_len, Hal.out]
          case c1 => intro j u hu; have h1 := Hrow.out.cells (g := ga) rfl j u hu; rw [Addr.add_lit, Nat.zero_add] at h1 ⊢; exact (Hbr2.out.cell (p := ⟨ga, j, none⟩) hga).trans h1
          case c2 => intro u hu; obtain ⟨q, hq, hu⟩ := List.mem_flatMap.1 hu; simp at hu; rcases hu with rfl | rfl <;> rfl
          case c3 => unfold maxLen; omega
          case c4 => omega
          case c5 => have := Hbr.out.size; simp; omega
          intro v' w5 hown5 hgrow _
          have hbw : Below w2.heap.size w2 w5 := Hbr2.out.trans ⟨hgrow.os, hgrow.tape, hgrow.output, hgrow.size, fun k hk => hgrow.block k (by have := Hbr.out.size; simp; omega) (fun e => by have := (ownBlock_row Hown.out k e.symm).1; omega)⟩
          have Hrel := Lib.hid (Hnext.out v' w5 0 arg Hd.out (by rw [← Hal.out]; exact hown5) hbw)
          clear hown5 hgrow hbw
          go_wp2
          go_roundg (gk - 1)
          case measure => exact hgk
          case rel => exact Hrel.out
        · as_aux_lemma =>
          have hl2 : (Instr.lookup 135 (.map (some mb)) (.string (mkS t.2)) false).run Tryz.prog (wr.alloc (.cells #[.int .i32 t.1, .string (mkS t.2)] 116)) = .ok (.slice none 0 0) (wr.alloc (.cells #[.int .i32 t.1, .string (mkS t.2)] 116)) := by simpa [hp2] using hlook
          have Hd : Hid ((if t.1 = -2 ∧ t.2 = p then arg else [t]) = [t]) := Lib.hid (by simp [hp2])
          clear hlook ht2 hp2
          go_wp2_with (at_builtin; refine wpList_append_own _ rfl _ _ 113 rfl w2.heap.size 116 i0 (.agg #[.int .i32 0, .string ⟨#[]⟩]) 2 24 Tryz.underlying113 hi hz0 hz1 hz2 rfl (by decide) _ _ _ rfl ((Hown.out.alloc _).alloc _) ⟨wr.heap.size + 1, 0, none⟩ 1 1 [.int .i32 t.1, .string (mkS t.2)] rfl rfl ?c1 ?c2 ?c3 ?c4 ?c5 ?_)
          case c1 => exact Hone.out _ (by simp)
          case c2 => intro u hu; simp at hu; rcases hu with rfl | rfl <;> rfl
          case c3 => unfold maxLen; omega
          case c4 => omega
          case c5 => have := Hbr.out.size; simp; omega
          intro v' w5 hown5 hgrow _
          have hbw : Below w2.heap.size w2 w5 := (Hbr2.out.alloc Hbr2.out.size _).trans ⟨hgrow.os, hgrow.tape, hgrow.output, hgrow.size, fun k hk => hgrow.block k (by have := Hbr.out.size; simp; omega) (fun e => by have := (ownBlock_row Hown.out k e.symm).1; omega)⟩
          have Hrel := Lib.hid (Hnext.out v' w5 0 [t] Hd.out hown5 hbw)
          clear hown5 hgrow hbw
          go_wp2
          go_roundg (gk - 1)
          case measure => exact hgk
          case rel => exact Hrel.out
    · have hlt2 : ¬ (i : Int) < (vl : Int) := by omega
      have htake : m.toks.take i = m.toks := List.take_of_length_le (by omega)
      rw [htake] at hown
      have hsub := subK_len p arg hargl m.toks
      have htl : (subK p arg m.toks).length < 1000000 := by omega
      have htk : ∀ t ∈ subK p arg m.toks, t.1 ≠ -1 := fun t ht => by
        obtain ⟨q, hq, ht⟩ := List.mem_flatMap.1 ht
        split at ht
        · exact Hargk.out t ht
        · simp at ht; rw [ht]; exact (Hmt.out q hq).1
      obtain ⟨sub, hsb⟩ : ∃ q, q = subK p arg m.toks := ⟨_, rfl⟩
      rw [← hsb] at hown htl htk ⊢
      obtain ⟨xa, xl, xc, rfl⟩ : ∃ xa xl xc, u6 = .slice xa xl xc := by
        obtain ⟨_, ⟨e, e0⟩ | ⟨g, cap, cur, e, _⟩⟩ := hown
        · exact ⟨_, _, _, e⟩
        · exact ⟨_, _, _, e⟩
      have ht : Toki wr (.slice xa xl xc) sub := ownsRow_low hown (Nat.zero_le _)
      have hI := H2.out.below hbr
      have Ht := Lib.hid ht
      have H := Lib.hid hI
      have SR := Lib.hid (S2.out.trans (Soft.ofBelow hbr))
      have hBw : B ≤ wr.heap.size := Nat.le_trans hI.low.1 (Nat.le_of_lt hI.low.2)
      have hlr : (({ a with cur := e, ts := ts } : Ab) :: rest).length < 500 := by have := Hlt.out; omega
      have Hsb := Lib.hid hsb
      clear hown ht hI hbr hin hil hv hge htake hsub hsb HTk Hmap Hrow H2 S2 Hvl hml kb2
      go_wp2_with fail
      go_region_held3 (fun w' => True) (first | trivial | assumption)
        (first
          | (go_at_call 55; refine (inBase (H.out.drewN 1) hlr).mono ?_; rintro e' w5 ⟨bb, m1, rfl, hpb, rfl⟩; have HPB := Lib.hid hpb; clear hpb)
          | (go_at_call 37; refine (inLine (H.out.drewN _) hlr).mono ?_; rintro e' w5 ⟨rfl, m2, rfl⟩)
          | (go_at_call 74; refine (newSlice_any (w := wr.drewN _) (B := B) hBw (Ht.out.drewN _)).mono ?_; rintro e' w5 ⟨sl, rfl, hsl, hle, hbel⟩; have HW1 : Hid (Below wr.heap.size wr w5) := Lib.hid ⟨hbel.os, hbel.tape, hbel.output, hbel.size, hbel.block⟩; have HSL := Lib.hid hsl; have HBEL := Lib.hid hbel; have HLE := Lib.hid hle; clear hsl hle hbel)
          | (go_at_call 31; refine (inPush_sl (H.out.drewN _) HBEL.out HSL.out HLE.out htl htk HPB.out Hlt.out).mono ?_; rintro e' w6 hq; have Hq : Hid (InvQ B ib C (slAb a.nm e.line sub :: { a with cur := e, ts := ts } :: rest) mn mac ifs bol text w e' w6) := Lib.hid ⟨hq.1, hq.2.1, SR.out.trans ((Soft.ofBelow HW1.out).trans hq.2.2)⟩; obtain ⟨rfl, _⟩ := hq))
      go_wp2
      go_end0
      rw [← Hsb.out]
      exact Hq.out
end
end Go.Proofs.YtpoimmpdncickaaGreatDoor
