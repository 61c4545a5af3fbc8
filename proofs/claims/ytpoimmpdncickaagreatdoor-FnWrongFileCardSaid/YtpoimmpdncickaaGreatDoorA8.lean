/- The input: macros with arguments are laid down. -/
import Derived.Test.YtpoimmpdncickaaGreatDoorJ8
import Derived.WalkMore
/- slices.Contains over strings: a string that is none of a list's. -/
namespace Go.Proofs.YtpoimmpdncickaaGreatDoor
open Go Go.RowKit Lex
set_option linter.unusedVariables false
set_option linter.unusedSimpArgs false

section
variable {w : World} {g n c : Nat} {l : List Bs} {x : Bs}

theorem Strs.cell (h : Strs w (.slice (some ⟨g, 0, none⟩) n c) (l.map mkS)) {i : Nat} {y : Bs} (hy : l[i]? = some y) : w.cell? ⟨g, i, none⟩ = some (.string (mkS y)) := by
  have h' : w.ownsRow 0 9 1 (.slice (some ⟨g, 0, none⟩) n c) (l.map mkS).length ((l.map mkS).map Value.string) := h
  have := h'.cells (g := g) rfl i (.string (mkS y)) (by rw [List.getElem?_map, List.getElem?_map, hy]; rfl)
  rwa [Addr.add_lit, Nat.zero_add] at this

theorem mkS_ne {x y : Bs} (h : x ≠ y) : ((mkS x).toList == (mkS y).toList) = false := by
  rw [mkS_toList, mkS_toList]; simpa using h

def IxLoop (l : List Bs) (w : World) (k : Nat) (v : Value) (wr : World) : Prop := ∃ i m, v = .int .i64 (i : Nat) ∧ i + k = l.length ∧ wr = w.drewN m

set_option maxRecDepth 100000 in
set_option maxHeartbeats 1000000 in
theorem index_none (hs : Strs w (.slice (some ⟨g, 0, none⟩) n c) (l.map mkS)) (hx : x ∉ l) (hn : n = l.length) (hl : n < 1000) :
    Calls Tryz.prog 133 #[.slice (some ⟨g, 0, none⟩) n c, .string (mkS x)] w (fun e w' => e = .returned (.int .i64 (-1)) ∧ ∃ m, w' = w.drewN m) := by
  have hnc : n ≤ c := by
    obtain ⟨_, ⟨e, _⟩ | ⟨g', cap', cur, e, _, _, h1, h2⟩⟩ := hs
    · cases e
    · cases e; simpa [hn] using h1
  have Hs := Lib.hid hs
  have Hx := Lib.hid hx
  have Hn := Lib.hid hn
  clear hs hx hn
  go_enter Tryz.func133, Tryz.ntmps133
  go_wp2
  go_loopg [8] n (fun k v8 wr => IxLoop l w k v8 wr)
  case atStart => exact ⟨0, 0, rfl, by have := Hn.out; omega, rfl⟩
  case round =>
    obtain ⟨i, m, rfl, hik, rfl⟩ := hrel
    have hn := Hn.out
    rcases Nat.lt_or_ge i n with hlt | hge
    · obtain ⟨y, hy⟩ : ∃ y, l[i]? = some y := ⟨l[i]'(by omega), List.getElem?_eq_getElem _⟩
      have hc : (w.drewN m).cell? ⟨g, i, none⟩ = some (.string (mkS y)) := Hs.out.cell hy
      have hne : ((mkS x).toList == (mkS y).toList) = false := mkS_ne (fun e => Hx.out (by rw [e]; exact List.mem_of_getElem? hy))
      have hlt2 : (i : Int) < (n : Int) := by omega
      have hin' : i + 1 + (gk - 1) = l.length := by omega
      have hgk : gk - 1 < gk := by omega
      have e3 : IntKind.i64.wrap ((i : Int) + 1) = (i : Int) + 1 := IntWalk.i64_in _ (by omega)
      clear hy hik hn
      go_wp2
      go_roundg (gk - 1)
      case measure => exact hgk
      case rel => exact ⟨i + 1, m, by go_num, hin', rfl⟩
    · have hlt2 : ¬ (i : Int) < (n : Int) := by omega
      clear hik hn hge
      go_wp2
      go_ret
      exact ⟨rfl, m, rfl⟩

set_option maxRecDepth 100000 in
set_option maxHeartbeats 1000000 in
theorem strs_contains_none (hs : Strs w (.slice (some ⟨g, 0, none⟩) n c) (l.map mkS)) (hx : x ∉ l) (hn : n = l.length) (hl : n < 1000) :
    Calls Tryz.prog 112 #[.slice (some ⟨g, 0, none⟩) n c, .string (mkS x)] w (fun e w' => e = .returned (.bool false) ∧ ∃ m, w' = w.drewN m) := by
  have H := Lib.hid (index_none hs hx hn hl)
  clear hs hx hn
  go_enter Tryz.func112, Tryz.ntmps112
  go_wp2_with fail
  refine H.out.mono ?_
  rintro e w1 ⟨rfl, m, rfl⟩
  go_wp2
  go_ret
  exact ⟨rfl, m, rfl⟩
end
theorem infoStrA : (Tryz.prog.info? 9).map (fun i => (i.zero, i.size, i.bytes)) = some (some (.string ⟨#[]⟩), 1, 16) := by kernel_rfl

/-- The names of arguments and what stands between them, up to the bracket (true: a name may come). -/
inductive Ph : Bool → List Bs → List Tok → Prop
  | name {t ps pt} : t.k = -2 → Ph false ps pt → Ph true (t.x :: ps) (t :: pt)
  | comma {t ps pt} : t.k = 44 → Ph true ps pt → Ph false ps (t :: pt)
  | close {t} : t.k = 41 → Ph false [] [t]

section
variable {w w' : World} {B ib : Nat} {C : Cfg} {ab ab' : List Ab} {mn : Nat} {mac : Bs → Option Mc} {ifs : List Bool} {bol : Bool} {text : Bs} {S S' : Nat → Value} {rs rs' : List RS} {ev : Value}

/-- In the first loop: the names 'done' have been taken. -/
def MALoop (B ib : Nat) (C : Cfg) (a : Ab) (rest : List Ab) (mn : Nat) (mac : Bs → Option Mc) (ifs : List Bool) (bol : Bool) (text : Bs) (P : List Bs) (R : List Tok) (w : World) (n : Nat) (v8 v9 : Value) (wr : World) : Prop :=
  ∃ done ps pt acc g c cur dl, P = done ++ ps ∧ dl = done.length ∧ v8 = .slice (some ⟨g, 0, none⟩) dl c ∧ v9 = .bool acc ∧ wr.ownsRow w.heap.size 9 1 (.slice (some ⟨g, 0, none⟩) dl c) dl ((done.map mkS).map Value.string) ∧
    Inp wr B ib C ({ a with cur := cur, ts := pt ++ R } :: rest) mn mac ifs bol text ∧ Soft B C.bl w wr ∧ n + 1 = pt.length ∧ Ph acc ps pt

theorem cellOne (w : World) (x : Value) (T : TypeId) : ∀ j u, [x][j]? = some u → (w.alloc (.cells #[x] T)).cell? ((⟨w.heap.size, 0, none⟩ : Addr).add j) = some u := by
  intro j u h
  have hB := Blk.lit w #[x] T
  rw [Addr.add_lit, Nat.zero_add]
  have hj := (List.getElem?_eq_some_iff.1 h).1
  obtain rfl : j = 0 := by simp at hj; omega
  exact hB.cell_eq (i := 0) (by simp) (by simpa using h)

theorem Ph.len {b : Bool} {ps : List Bs} {pt : List Tok} (h : Ph b ps pt) : ps.length ≤ pt.length ∧ 1 ≤ pt.length ∧ (b = true → 2 ≤ pt.length) := by
  induction h with
  | name _ _ ih => simp; omega
  | comma _ _ ih => simp; omega
  | close => simp

set_option maxRecDepth 100000 in
set_option maxHeartbeats 8000000 in
theorem macroDef_args {a : Ab} {rest : List Ab} {op : Tok} {P : List Bs} {pt bd : List Tok} {nl : Tok} {ts : List Tok} {nm : ByteArray} (h : Inp w B ib C (a :: rest) mn mac ifs bol text) (htz : ∀ q ∈ a :: rest, q.istz = true) (hak : a.cur.k ≠ 0) (hats : a.ts = op :: (pt ++ (bd ++ nl :: ts)))
    (hop : op.k = 40) (hcol : op.col = a.cur.col + 1) (hcb : a.cur.col < 10000000) (hP : Ph true P pt) (hnd : P.Nodup) (hpl : P.length ≤ 100) (hpx : ∀ p ∈ P, p.length ≤ 1000) (hb : ∀ t ∈ bd, okTok t ∧ t.k ≠ 10 ∧ t.k ≠ 92 ∧ t.k ≠ -1 ∧ t.k ≠ 0) (hnl : nl.k = 10) (hbl : bd.length ≤ 1000) (hC : C.lim ≤ w.heap.size) (hg : Glob w ev) (hB : 21 ≤ B) (hl : (a :: rest).length < 500) :
    Calls Tryz.prog 89 #[.pointer (some ⟨ib, 0, none⟩), .string nm] w (MDQ B ib C ({ a with cur := nl, ts := ts } :: rest) mn mac ifs bol text (some P) (bd.map Tok.kx) w) := by
  obtain ⟨i0, hi, hz0, hz1, hz2⟩ := info_parts infoTok
  obtain ⟨j0, gi, gz0, gz1, gz2⟩ := info_parts infoStrA
  obtain ⟨cc, hcc⟩ : ∃ cc, cc = a.cur.col := ⟨_, rfl⟩
  have hcol' : op.col = cc + 1 := by rw [hcol, hcc]
  have Hcol := Lib.hid (inCol h (htz a (by simp)) hak (by rw [hats]; simp) hl)
  rw [← hcc] at Hcol hcb
  have hpt := hP.len
  have hl2 : ∀ q : Ab, (q :: rest).length < 500 := fun q => by simpa using hl
  have Hcol2 := Lib.hid (fun (w1 : World) (h1 : Inp w1 B ib C ({ a with cur := op, ts := pt ++ (bd ++ nl :: ts) } :: rest) mn mac ifs bol text) => inCol h1 (htz a (by simp)) (by show op.k ≠ 0; rw [hop]; decide) (by simp) (hl2 _))
  rw [hcol'] at Hcol2
  have ecol : IntKind.i64.wrap ((cc : Int) + 1) = (cc : Int) + 1 := IntWalk.i64_in _ (by omega)
  have ecol2 : (((cc + 1 : Nat) : Int) == (cc : Int) + 1) = true := by simp
  have Htz := Lib.hid htz
  have Hats := Lib.hid hats
  have Hop := Lib.hid hop
  have HP := Lib.hid hP
  have Hnd := Lib.hid hnd
  have Hpx := Lib.hid hpx
  have Hb := Lib.hid hb
  have Hnl := Lib.hid hnl
  have Hg := Lib.hid hg
  have Hlow := Lib.hid h.low
  have Hl2 := Lib.hid hl2
  have Hl := Lib.hid hl
  have Hpt := Lib.hid hpt
  clear h htz hats hop hcol hcol' hcc hP hnd hpx hb hnl hg hl hl2 hpt hak
  go_enter Tryz.func89, Tryz.ntmps89
  go_wp2_with fail
  refine Hcol.out.mono ?_
  rintro e w1 ⟨rfl, h1, s1⟩
  have hn := inNext (dead := []) (t := op) (ts := pt ++ (bd ++ nl :: ts)) h1 (fun _ h => by cases h) (by rw [Hats.out]) (s1.glob Hg.out hB) hB Hl.out
  rw [Hop.out] at hn
  have Hn := Lib.hid hn
  have S1 := Lib.hid s1
  clear h1 s1 hn
  go_wp2_with fail
  refine Hn.out.mono ?_
  rintro e w2 ⟨rfl, h2, s2⟩
  have Hc2 := Lib.hid (Hcol2.out w2 h2)
  have S2 := Lib.hid (S1.out.trans s2)
  clear h2 s2
  go_wp2_with fail
  refine Hc2.out.mono ?_
  rintro e w3 ⟨rfl, h3, s3⟩
  have S3 := S2.out.trans s3
  have hst : MALoop B ib C a rest mn mac ifs bol text P (bd ++ nl :: ts) w (pt.length - 1) (.slice (some ⟨w3.heap.size, 0, none⟩) 0 0) (.bool true) (w3.alloc (.cells #[] 9)) := by
    have hb1 : Below w3.heap.size w3 (w3.alloc (.cells #[] 9)) := (Below.refl _ _).alloc (Nat.le_refl _) _
    exact ⟨[], P, pt, true, w3.heap.size, 0, op, 0, rfl, rfl, rfl, rfl, ⟨rfl, .inr ⟨w3.heap.size, 0, _, rfl, S3.size, heap_alloc_new w3 _, Nat.le_refl _, by unfold maxLen; omega, rfl, rfl⟩⟩, h3.below hb1, S3.trans (Soft.ofBelow hb1), by have := Hpt.out; omega, HP.out⟩
  have Hst := Lib.hid hst
  clear h3 s3 S3 hst
  go_wp2
  go_step3
  go_wp2
  go_step3
  go_wp2
  generalize hw4 : w3.alloc (.cells #[] 9) = w4
  rw [hw4] at Hst
  clear hw4
  go_loopg [8, 9] (pt.length - 1) (fun n v8 v9 wr => MALoop B ib C a rest mn mac ifs bol text P (bd ++ nl :: ts) w n v8 v9 wr)
  case atStart => exact Hst.out
  case round =>
    clear Hst
    obtain ⟨dn0, ps, qt, acc, g, c, cur, dl, hPd, hdl, rfl, rfl, hown, hI, hS, hnq, hph⟩ := hrel
    have Hown := Lib.hid hown
    have HS := Lib.hid hS
    have HPd := Lib.hid hPd
    have Hdl := Lib.hid hdl
    have Hnq := Lib.hid hnq
    have hdl2 : dl ≤ 100 := by have := congrArg List.length hPd; simp at this; omega
    cases hph with
    | @name t ps' qt' hk hph => as_aux_lemma =>
      have hn := inNext (dead := []) (t := t) (ts := qt' ++ (bd ++ nl :: ts)) hI (fun _ h => by cases h) rfl (hS.glob Hg.out hB) hB (Hl2.out _)
      rw [hk] at hn
      have Hn := Lib.hid hn
      have hmem : t.x ∈ P := by rw [hPd]; simp
      have hnot : t.x ∉ dn0 := fun hm => by
        have h1 := Hnd.out
        rw [hPd] at h1
        exact (List.nodup_append.1 h1).2.2 _ hm _ (by simp) rfl
      have htx : t.x.length ≤ 1000 := Hpx.out _ hmem
      have Htx := Lib.hid (fun (w1 : World) (h1 : Inp w1 B ib C ({ a with cur := t, ts := qt' ++ (bd ++ nl :: ts) } :: rest) mn mac ifs bol text) => inText h1 (by show t.k ≠ 0; rw [hk]; decide) (Hl2.out _))
      have Hnot := Lib.hid hnot
      have Hph := Lib.hid hph
      clear hn hI hS hown hPd hdl hnq hk hmem hnot hph
      go_wp2_with fail
      refine Hn.out.mono ?_
      rintro e w5 ⟨rfl, h5, s5⟩
      have Ht5 := Lib.hid (Htx.out w5 h5)
      have S5 := Lib.hid (HS.out.trans s5)
      have Hown5 := Lib.hid (s5.row Hown.out (mt2_not (by decide)))
      clear h5 s5
      go_wp2_with fail
      refine Ht5.out.mono ?_
      rintro e w6 ⟨rfl, h6, s6⟩
      have Hown6 := Lib.hid (s6.row Hown5.out (mt2_not (by decide)))
      have S6 := Lib.hid (S5.out.trans s6)
      have H6 := Lib.hid h6
      have hcon := strs_contains_none (w := w6) (g := g) (n := dl) (c := c) (l := dn0) (x := t.x) (by have := ownsRow_low Hown6.out (Nat.zero_le _); unfold Strs; rw [List.length_map, ← Hdl.out]; exact this) Hnot.out Hdl.out (by omega)
      have Hcon := Lib.hid hcon
      clear h6 s6 hcon
      go_wp2_with fail
      refine Hcon.out.mono ?_
      rintro e w7 ⟨rfl, m7, rfl⟩
      have H7 := Lib.hid (H6.out.drewN m7)
      have S7 : Hid (Soft B C.bl w (w6.drewN m7)) := Lib.hid (S6.out.trans ((Soft.refl B C.bl w6).drewN m7))
      have Hown7 : Hid ((w6.drewN m7).ownsRow w.heap.size 9 1 (.slice (some ⟨g, 0, none⟩) dl c) dl ((dn0.map mkS).map Value.string)) := Lib.hid (ownsRow_only Hown6.out (fun _ _ => rfl))
      have Hsz7 := Lib.hid (S7.out.size)
      clear Hcon
      generalize w6.drewN m7 = w7 at H7 S7 Hown7 Hsz7 ⊢
      go_wp2_with (at_builtin; refine wpList_append_own _ rfl _ _ 22 rfl w.heap.size 9 j0 (.string ⟨#[]⟩) 1 16 Tryz.underlying22 gi gz0 gz1 gz2 rfl (by decide) _ _ _ rfl (Hown7.out.alloc _) ⟨w7.heap.size, 0, none⟩ 1 1 [.string (mkS t.x)] rfl rfl ?c1 ?c2 ?c3 ?c4 ?c5 ?_)
      case c1 => exact cellOne _ _ _
      case c2 => intro u hu; simp at hu; subst hu; rfl
      case c3 => unfold maxLen; omega
      case c4 => omega
      case c5 => have := Hsz7.out; simp; omega
      intro v' w8 hown8 hgrow _
      have HI8 : Hid (Inp w8 B ib C ({ a with cur := t, ts := qt' ++ (bd ++ nl :: ts) } :: rest) mn mac ifs bol text) := Lib.hid (by
        have h1 := H7.out.below ((Below.refl w7.heap.size w7).alloc (Nat.le_refl _) (.cells #[.string (mkS t.x)] 9))
        refine h1.rowed (fun q hq => tz_mem Htz.out q hq) ((Only.refl (fun k => (Value.slice (some ⟨g, 0, none⟩) dl c).ownBlock = some k) _).grown hgrow (fun k hk _ => hk)) (fun k hk _ => ?_)
        have hr := ownBlock_row (Hown7.out.alloc (.cells #[.string (mkS t.x)] 9)) k hk
        exact ⟨by have := hr.1; omega, .inr hr.2⟩)
      have HS8 : Hid (Soft B C.bl w w8) := Lib.hid ((S7.out.trans (Soft.ofBelow ((Below.refl w7.heap.size w7).alloc (Nat.le_refl _) (.cells #[.string (mkS t.x)] 9)))).new ((Only.refl (fun k => (Value.slice (some ⟨g, 0, none⟩) dl c).ownBlock = some k) _).grown hgrow (fun k hk _ => hk)) (fun k hk => (Hown7.out.lt k hk).1))
      obtain ⟨g8, c8, rfl⟩ : ∃ g8 c8, v' = .slice (some ⟨g8, 0, none⟩) (dl + 1) c8 := by
        obtain ⟨_, ⟨_, h0⟩ | ⟨g, cap, cur, e, _⟩⟩ := hown8
        · omega
        · exact ⟨g, cap, e⟩
      have Hown8 := Lib.hid hown8
      have hfin : MALoop B ib C a rest mn mac ifs bol text P (bd ++ nl :: ts) w (gk - 1) (.slice (some ⟨g8, 0, none⟩) (dl + 1 : Nat) c8) (.bool false) w8 :=
        ⟨dn0 ++ [t.x], ps', qt', false, g8, c8, t, dl + 1, by rw [HPd.out]; simp, by simp [Hdl.out], rfl, rfl, by simpa using hown8, HI8.out, HS8.out, by have := Hnq.out; have := Hph.out.len; simp at *; omega, Hph.out⟩
      have Hfin := Lib.hid hfin
      have hgk : gk - 1 < gk := by have := Hnq.out; have := Hph.out.len; simp at *; omega
      clear hown8 hgrow hfin
      go_wp2
      go_roundg (gk - 1)
      case measure => exact hgk
      case rel => exact Hfin.out
    | @comma t _ qt' hk hph => as_aux_lemma =>
      have hn := inNext (dead := []) (t := t) (ts := qt' ++ (bd ++ nl :: ts)) hI (fun _ h => by cases h) rfl (hS.glob Hg.out hB) hB (Hl2.out _)
      rw [hk] at hn
      have Hn := Lib.hid hn
      have Hph := Lib.hid hph
      clear hn hI hS hown hPd hdl hnq hk hph
      go_wp2_with fail
      refine Hn.out.mono ?_
      rintro e w5 ⟨rfl, h5, s5⟩
      have hfin : MALoop B ib C a rest mn mac ifs bol text P (bd ++ nl :: ts) w (gk - 1) (.slice (some ⟨g, 0, none⟩) dl c) (.bool true) w5 :=
        ⟨dn0, ps, qt', true, g, c, t, dl, HPd.out, Hdl.out, rfl, rfl, s5.row Hown.out (mt2_not (by decide)), h5, HS.out.trans s5, by have := Hnq.out; have := Hph.out.len; simp at *; omega, Hph.out⟩
      have Hfin := Lib.hid hfin
      have hgk : gk - 1 < gk := by have := Hnq.out; have := Hph.out.len; simp at *; omega
      clear h5 s5 hfin
      go_wp2
      go_roundg (gk - 1)
      case measure => exact hgk
      case rel => exact Hfin.out
    | @close t hk => as_aux_lemma =>
      have hn := inNext (dead := []) (t := t) (ts := bd ++ nl :: ts) hI (fun _ h => by cases h) rfl (hS.glob Hg.out hB) hB (Hl2.out _)
      rw [hk] at hn
      have Hn := Lib.hid hn
      obtain ⟨t0, L', hL'⟩ : ∃ t0 L', bd ++ [nl] = t0 :: L' := by
        cases bd with
        | nil => exact ⟨_, _, rfl⟩
        | cons x y => exact ⟨_, _, rfl⟩
      have hLts : bd ++ nl :: ts = t0 :: (L' ++ ts) := by
        have : bd ++ nl :: ts = (bd ++ [nl]) ++ ts := by simp
        rw [this, hL']; rfl
      have hLlen : L'.length = bd.length := by have := congrArg List.length hL'; simp at this; omega
      rw [hLts] at Hn
      have HL' := Lib.hid hL'
      have hdone : dn0 = P := by rw [hPd]; simp
      subst hdone
      clear hn hI hS hown hPd hdl hnq hk hLts hL'
      go_wp2_with fail
      refine Hn.out.mono ?_
      rintro e w5 ⟨rfl, h5, s5⟩
      have hn := inNext (dead := []) (t := t0) (ts := L' ++ ts) h5 (fun _ h => by cases h) rfl ((HS.out.trans s5).glob Hg.out hB) hB (Hl2.out _)
      have Hn5 := Lib.hid hn
      have S5 := Lib.hid (HS.out.trans s5)
      have Hown5 := Lib.hid (s5.row Hown.out (mt2_not (by decide)))
      clear h5 s5 hn
      go_wp2_with fail
      refine Hn5.out.mono ?_
      rintro e wA ⟨rfl, h6, s6⟩
      have HA := Lib.hid (s6.row Hown5.out (mt2_not (by decide)))
      have SA := Lib.hid (S5.out.trans s6)
      have H6 := Lib.hid h6
      have hCA : C.lim ≤ wA.heap.size := Nat.le_trans hC SA.out.size
      have HgA := Lib.hid (SA.out.glob Hg.out hB)
      clear h6 s6
      clear Hown Hown5 HS S5 Hn Hn5 Hcol Hcol2
      go_wp2
      rw [Exit.noGoto_normal]
      go_wp2
      go_loopg [7, 11] bd.length (fun n v7 v11 wr => MDLoop B ib C a rest mn mac ifs bol text (bd ++ [nl]) ts wA n v7 v11 wr)
      case atStart => exact ⟨[], t0, L', HL'.out, hLlen.symm, rfl, World.ownsRow_nil _ _ _ _, by have := H6.out; simpa using this, Soft.refl _ _ _⟩
      case round =>
        obtain ⟨done, t, todo, hL, rfl, rfl, hown, hI, hS⟩ := hrel
        cases todo with
        | nil =>
          obtain ⟨hd, ht⟩ := List.append_inj' hL rfl
          obtain rfl : nl = t := by simpa using ht
          have hown' := ownsRow_low hown (Nat.zero_le _)
          rw [← hd] at hown'
          obtain ⟨ta, tl, tc, rfl⟩ : ∃ ta tl tc, u11 = .slice ta tl tc := by
            obtain ⟨_, ⟨e, e0⟩ | ⟨g, cap, cur, e, _⟩⟩ := hown
            · exact ⟨_, _, _, e⟩
            · exact ⟨_, _, _, e⟩
          have Hfin : Hid (MDQ B ib C ({ a with cur := nl, ts := ts } :: rest) mn mac ifs bol text (some dn0) ((bd).map Tok.kx) w (.returned (.tuple #[.slice (some ⟨g, 0, none⟩) dl c, .slice ta tl tc])) wr) :=
            Lib.hid ⟨_, _, _, _, _, _, rfl, ⟨⟨_, _, _, rfl⟩, by have h1 := ownsRow_low (hS.row HA.out (mt2_not (by decide))) (Nat.zero_le _); unfold Strs; rw [List.length_map, ← Hdl.out]; exact h1⟩, by unfold Toki; rw [List.length_map]; exact hown', hI, SA.out.trans hS⟩
          have hk10 := Hnl.out
          clear hL hd ht hown hown' hI hS
          rw [hk10]
          go_wp2
          go_ret2
          exact Hfin.out
        | cons t1 todo =>
          have hmem : t ∈ bd := by
            have h1 := congrArg List.dropLast hL
            rw [List.dropLast_concat] at h1
            rw [h1, List.dropLast_append_of_ne_nil (by simp)]
            simp
          obtain ⟨hok, g1, g2, g3, g4⟩ := Hb.out t hmem
          have b1 : (t.k == 10) = false := by simp [g1]
          have b1' : (t.k != 10) = true := by simp [g1]
          have b2 : (t.k == -1) = false := by simp [g3]
          have b3 : (t.k == 92) = false := by simp [g2]
          have hlen : done.length + (t1 :: todo).length = (bd).length := by
            have := congrArg List.length hL
            simp at this ⊢; omega
          have hdl : done.length ≤ 1001 := by simp at hlen; omega
          have htx := inText hI (by exact g4) (Hl2.out _)
          have Htx := Lib.hid htx
          have Hown := Lib.hid hown
          have HL := Lib.hid hL
          have HS := Lib.hid hS
          have Hok := Lib.hid hok
          have hwr : wA.heap.size ≤ wr.heap.size := hS.size
          have Hwr := Lib.hid hwr
          obtain ⟨tk, htk⟩ : ∃ tk, tk = t.k := ⟨_, rfl⟩
          rw [← htk] at b1 b1' b2 b3 ⊢
          have Htk := Lib.hid htk
          clear hmem g1 g2 g3 g4 hlen htx hown hL hI hS hok hwr htk
          go_wp2_with fail
          refine Htx.out.mono ?_
          rintro e w3 ⟨rfl, hI3, hS3⟩
          have HI3 := Lib.hid hI3
          have Hown3 := Lib.hid (hS3.row Hown.out (mt2_not (by decide)))
          have HS3 := Lib.hid (HS.out.trans hS3)
          have Hsz3 := Lib.hid (Nat.le_trans Hwr.out hS3.size)
          have Hmk := Lib.hid (make_any tk t.x w3 Hok.out.1 Hok.out.2.1 Hok.out.2.2)
          clear hI3 hS3
          go_wp2_with fail
          refine Hmk.out.mono ?_
          rintro e w4 ⟨rfl, hb4⟩
          have HI4 := Lib.hid (HI3.out.below hb4)
          have Hown4 := Lib.hid (ownsRow_only Hown3.out (fun k hk => hb4.block k (Hown3.out.lt k hk).2))
          have HS4 := Lib.hid (HS3.out.trans (Soft.ofBelow hb4))
          have Hsz4 := Lib.hid (Nat.le_trans Hsz3.out hb4.size)
          clear hb4
          go_wp2_with (at_builtin; refine wpList_append_own _ rfl _ _ 113 rfl wA.heap.size 116 i0 (.agg #[.int .i32 0, .string ⟨#[]⟩]) 2 24 Tryz.underlying113 hi hz0 hz1 hz2 rfl (by decide) _ _ _ rfl (Hown4.out.alloc _) ⟨w4.heap.size, 0, none⟩ 1 1 [.int .i32 tk, .string (mkS t.x)] rfl rfl ?c1 ?c2 ?c3 ?c4 ?c5 ?_)
          case c1 => exact cellTwo _ _ _ _
          case c2 => intro u hu; simp at hu; rcases hu with rfl | rfl <;> rfl
          case c3 => unfold maxLen; omega
          case c4 => omega
          case c5 => have := Hsz4.out; simp; omega
          intro v' w5 hown5 hgrow _
          have HI5 : Hid (Inp w5 B ib C ({ a with cur := t, ts := (t1 :: todo) ++ ts } :: rest) mn mac ifs bol text) := Lib.hid (by
            have h1 := HI4.out.below ((Below.refl w4.heap.size w4).alloc (Nat.le_refl _) (.cells #[.int .i32 tk, .string (mkS t.x)] 116))
            refine h1.rowed (fun q hq => tz_mem Htz.out q hq) ((Only.refl (fun k => u11.ownBlock = some k) _).grown hgrow (fun k hk _ => hk)) (fun k hk _ => ?_)
            have hr := ownBlock_row (Hown4.out.alloc (.cells #[.int .i32 tk, .string (mkS t.x)] 116)) k hk
            exact ⟨by have := hr.1; omega, .inl hr.2⟩)
          have HS5 : Hid (Soft B C.bl wA w5) := Lib.hid ((HS4.out.trans (Soft.ofBelow ((Below.refl w4.heap.size w4).alloc (Nat.le_refl _) (.cells #[.int .i32 tk, .string (mkS t.x)] 116)))).new ((Only.refl (fun k => u11.ownBlock = some k) _).grown hgrow (fun k hk _ => hk)) (fun k hk => (Hown4.out.lt k hk).1))
          have hown5' : w5.ownsRow wA.heap.size 116 2 v' (done ++ [t]).length (cellsT ((done ++ [t]).map Tok.kx)) := by
            rw [List.length_append, List.map_append, List.map_cons, List.map_nil, cellsT_snoc]
            show w5.ownsRow wA.heap.size 116 2 v' (done.length + 1) (cellsT (done.map Tok.kx) ++ [.int .i32 t.k, .string (mkS t.x)])
            rw [← Htk.out]
            exact hown5
          have Hown5 := Lib.hid hown5'
          have Hn := Lib.hid (inNext (dead := []) (t := t1) (ts := todo ++ ts) HI5.out (fun _ h => by cases h) rfl (HS5.out.glob HgA.out hB) hB (Hl2.out _))
          clear hown5 hgrow hown5'
          go_wp2_with fail
          refine Hn.out.mono ?_
          rintro e w6 ⟨rfl, h6, s6⟩
          have H6 := Lib.hid h6
          have HS6 := Lib.hid (HS5.out.trans s6)
          have Hown6 := Lib.hid (s6.row Hown5.out (mt2_not (by decide)))
          clear h6 s6
          go_wp2
          go_roundg todo.length
          case measure => simp
          case rel => exact ⟨done ++ [t], t1, todo, by rw [HL.out]; simp, rfl, rfl, Hown6.out, H6.out, HS6.out⟩
end
section
variable {w w' : World} {B ib : Nat} {C : Cfg} {ab ab' : List Ab} {mn : Nat} {mac : Bs → Option Mc} {ifs : List Bool} {bol : Bool} {text : Bs} {S S' : Nat → Value} {rs rs' : List RS} {ev : Value}

set_option maxRecDepth 100000 in
set_option maxHeartbeats 1000000 in
theorem define_args {dead rest : List Ab} {a : Ab} {nt op : Tok} {P : List Bs} {pt bd : List Tok} {nl : Tok} {ts : List Tok} (h : Inp w B ib C (dead ++ a :: rest) mn mac ifs bol text) (hd : ∀ d ∈ dead, d.ts = []) (htz : ∀ q ∈ a :: rest, q.istz = true) (hats : a.ts = nt :: op :: (pt ++ (bd ++ nl :: ts)))
    (hnk : nt.k = -2) (hnx : nt.x.length ≤ 1000) (hmac : mac nt.x = none) (hmn : mn < 1000000)
    (hop : op.k = 40) (hcol : op.col = nt.col + 1) (hcb : nt.col < 10000000) (hP : Ph true P pt) (hnd : P.Nodup) (hpl : P.length ≤ 100) (hpx : ∀ p ∈ P, p.length ≤ 1000) (hb : ∀ t ∈ bd, okTok t ∧ t.k ≠ 10 ∧ t.k ≠ 92 ∧ t.k ≠ -1 ∧ t.k ≠ 0) (hnl : nl.k = 10) (hbl : bd.length ≤ 1000) (hC : C.lim ≤ w.heap.size) (hg : Glob w ev) (hB : 21 ≤ B) (hl : (dead ++ a :: rest).length < 500) :
    Calls Tryz.prog 67 #[.pointer (some ⟨ib, 0, none⟩)] w (MadeQ B ib C ({ a with cur := nl, ts := ts } :: rest) mn mac ifs bol text nt.x ⟨some P, bd.map Tok.kx⟩ (.tuple #[]) w) := by
  have Hn := Lib.hid (inMacroName h hd (t := nt) (ts := op :: (pt ++ (bd ++ nl :: ts))) hats hnk hg hB hl)
  have hl2 : ({ a with cur := nt, ts := op :: (pt ++ (bd ++ nl :: ts)) } :: rest : List Ab).length < 500 := by simp at hl ⊢; omega
  have Hdef := Lib.hid (fun (w1 : World) (h1 : Inp w1 B ib C ({ a with cur := nt, ts := op :: (pt ++ (bd ++ nl :: ts)) } :: rest) mn mac ifs bol text) (hC1 : C.lim ≤ w1.heap.size) (hg1 : Glob w1 ev) => macroDef_args (nm := mkS nt.x) h1 (tz_mem htz) (by show nt.k ≠ 0; rw [hnk]; decide) rfl hop hcol hcb hP hnd hpl hpx hb hnl hbl hC1 hg1 hB hl2)
  have Hg := Lib.hid hg
  have Hmac := Lib.hid hmac
  clear h hd htz hats hnk hmac hop hcol hcb hP hnd hpl hpx hb hnl hbl hg hl hl2
  go_enter Tryz.func67, Tryz.ntmps67
  go_wp2_with fail
  refine Hn.out.mono ?_
  rintro e w1 ⟨rfl, h1, s1⟩
  have Hd1 := Lib.hid (Hdef.out w1 h1 (Nat.le_trans hC s1.size) (s1.glob Hg.out hB))
  have S1 := Lib.hid s1
  clear h1 s1
  go_wp2_with fail
  refine Hd1.out.mono ?_
  rintro e w2 ⟨aa, al, ac, ta, tl, tc, rfl, ha2, ht2, h2, s2⟩
  have Hdm := Lib.hid (defineMacro_new (m := ⟨some P, bd.map Tok.kx⟩) h2 Hmac.out (by omega) hmn (Nat.le_trans hC (Nat.le_trans S1.out.size s2.size)) ha2 ht2)
  have S2 := Lib.hid (S1.out.trans s2)
  clear ha2 ht2 h2 s2
  go_wp2_with fail
  refine Hdm.out.mono ?_
  rintro e w3 ⟨L, ⟨rfl, h3, s3⟩, hL⟩
  have Hfin : Hid (MadeQ B ib C ({ a with cur := nl, ts := ts } :: rest) mn mac ifs bol text nt.x ⟨some P, bd.map Tok.kx⟩ (.tuple #[]) w (.returned (.tuple #[])) w3) := Lib.hid ⟨rfl, ⟨L, by omega, h3⟩, S2.out.trans s3⟩
  clear h3 s3 hL
  go_wp2
  go_end0
  exact Hfin.out

end
end Go.Proofs.YtpoimmpdncickaaGreatDoor
