/- The input's Next, readAll, NewInput, the table of files, and MacroOf. -/
import Derived.Test.YthiododffhdooaaGreatDoorJ8
import Derived.Defers
import Derived.Recover
import Derived.Deep.Upon
import Derived.Deep.AppendLies
/- The walk of the input's Next. -/
namespace Go.Proofs.YthiododffhdooaaGreatDoor
open Go Go.RowKit Lex
set_option linter.unusedVariables false
set_option linter.unusedSimpArgs false

section
variable {w w' : World} {B ib : Nat} {C : Cfg} {s s' : Sg} {ev : Value}

def NLoop (B ib : Nat) (C : Cfg) (k : Int) (s' : Sg) (w : World) (n : Nat) (v4 : Value) (wr : World) : Prop :=
  ∃ s nest, v4 = .int .i64 (nest : Nat) ∧ nest ≤ 99 ∧ Held wr B ib C s ∧ Nx nest n s k s' ∧ Soft B C.bl w wr

theorem lookup_nil_ne : ∀ u : World, (binOp BinOp.neq 95 (.pointer none) (.pointer none)).run Tryz.prog u = .ok (.bool false) u := fun u => by kernel_rfl

set_option maxRecDepth 100000 in
set_option maxHeartbeats 4000000 in
theorem next_in {n : Nat} {k : Int} (h : Held w B ib C s) (hn : Nx 0 n s k s') (hg : Glob w ev) (hB : 21 ≤ B) :
    Calls Tryz.prog 34 #[.pointer (some ⟨ib, 0, none⟩)] w (NxQ B ib C k s' w) := by
  have c7 : w.cell? ⟨ib, 7, none⟩ = some (.bool false) := by obtain ⟨L, _, h⟩ := h; exact h.c7
  have H := Lib.hid h
  have Hn := Lib.hid hn
  have Hg := Lib.hid hg
  clear h hn hg
  go_enter Tryz.func34, Tryz.ntmps34
  go_wp2
  go_loopg [4] n (fun n v4 wr => NLoop B ib C k s' w n v4 wr)
  case atStart => exact ⟨s, 0, rfl, by omega, H.out, Hn.out, Soft.refl _ _ _⟩
  case round =>
    clear H Hn c7
    obtain ⟨s1, nest, rfl, hnest, hH, hN, hS⟩ := hrel
    have hg1 := hS.glob Hg.out hB
    obtain ⟨L, hL, hI⟩ := hH
    have hnl : (nest : Int) < 100 := by omega
    cases hN with
    | @tok _ _ dead a rest t ts a1 a2 a3 a4 a5 a6 a7 a8 a9 a10 a11 => as_aux_lemma =>
      rw [a1] at hI
      have Hnx := Lib.hid (inNext hI a2 a3 hg1 hB a4)
      have hl2 : ({ a with cur := t, ts := ts } :: rest : List Ab).length < 500 := by simp at a4 ⊢; omega
      have Htx := Lib.hid (fun (w1 : World) (b : Bool) (h1 : Inp w1 B ib { C with lim := L } ({ a with cur := t, ts := ts } :: rest) s1.mn s1.mac s1.ifs b s1.text) => inText h1 a7 hl2)
      have Hen := Lib.hid (fun (w1 : World) (b : Bool) (h1 : Inp w1 B ib { C with lim := L } ({ a with cur := t, ts := ts } :: rest) s1.mn s1.mac s1.ifs b s1.text) => inEnabled h1 a10)
      rw [a11] at Hen
      have HS := Lib.hid (Soft.refl B C.bl wr)
      have HM := Lib.hid a9
      have b35 : (t.k == 35) = false := by simp [a5]
      have b1 : (t.k == -1) = false := by simp [a6]
      have hfin : ∀ w2 : World, Inp w2 B ib { C with lim := L } ({ a with cur := t, ts := ts } :: rest) s1.mn s1.mac s1.ifs (t.k == 10) s1.text → Soft B C.bl wr w2 → NxQ B ib C t.k { s1 with ab := { a with cur := t, ts := ts } :: rest, bol := t.k == 10, text := t.x } w (.returned (.int .i32 t.k)) (w2.setCell ⟨ib, 6, none⟩ (.string (mkS t.x))) := fun w2 h3 h4 => by
        obtain ⟨h5, h6⟩ := h3.setText t.x
        exact ⟨rfl, ⟨L, by have := h6.size; have := h4.size; omega, h5⟩, hS.trans (h4.trans h6)⟩
      have Hfin := Lib.hid hfin
      clear hI hS hL a1 a2 a3 a4 a5 a6 a7 a9 a10 a11 hl2 hg1 hfin
      obtain ⟨tk, htk⟩ : ∃ tk, tk = t.k := ⟨_, rfl⟩
      rw [← htk] at Hnx b35 b1 HM Hfin ⊢
      have Htk := Lib.hid htk
      clear htk
      cases hid : (tk == -2) with
      | true =>
        have hm := HM.out (by simpa using hid)
        have Hm := Lib.hid hm
        clear hm
        go_wp2_with fail
        refine Hnx.out.mono ?_
        rintro e w1 ⟨rfl, h1, s1'⟩
        have Ht1 := Lib.hid (Htx.out w1 _ h1)
        have S1 := Lib.hid (HS.out.trans s1')
        clear h1 s1'
        go_wp2_with fail
        refine Ht1.out.mono ?_
        rintro e w2 ⟨rfl, h2, s2⟩
        obtain ⟨c5, hlook⟩ := h2.mac_none Hm.out (by omega)
        dsimp only at c5 hlook
        have Hb := Lib.hid (h2.setBol (tk == 10))
        obtain ⟨k3, f3⟩ := h2.c3
        have S2 := Lib.hid (S1.out.trans s2)
        clear h2 s2
        go_wp2_with fail
        refine (Hen.out _ _ Hb.out.1).mono ?_
        rintro e w3 ⟨rfl, m3, rfl⟩
        have Ht3 := Lib.hid (Htx.out _ _ (Hb.out.1.drewN m3))
        have S3 := Lib.hid (S2.out.trans (Hb.out.2.trans ((Soft.refl B C.bl _).drewN m3)))
        clear k3 f3
        go_wp2_with fail
        refine Ht3.out.mono ?_
        rintro e w4 ⟨rfl, h4, s4⟩
        obtain ⟨k6, f6⟩ := h4.c6
        have Hend := Lib.hid (Hfin.out w4 h4 (S3.out.trans s4))
        clear h4 s4
        go_wp2
        go_ret
        exact Hend.out
      | false =>
        go_wp2_with fail
        refine Hnx.out.mono ?_
        rintro e w2 ⟨rfl, h2, s2⟩
        have S1 := HS
        have Hb := Lib.hid (h2.setBol (tk == 10))
        obtain ⟨k3, f3⟩ := h2.c3
        have S2 := Lib.hid (S1.out.trans s2)
        clear h2 s2
        go_wp2_with fail
        refine (Hen.out _ _ Hb.out.1).mono ?_
        rintro e w3 ⟨rfl, m3, rfl⟩
        have Ht3 := Lib.hid (Htx.out _ _ (Hb.out.1.drewN m3))
        have S3 := Lib.hid (S2.out.trans (Hb.out.2.trans ((Soft.refl B C.bl _).drewN m3)))
        clear k3 f3
        go_wp2_with fail
        refine Ht3.out.mono ?_
        rintro e w4 ⟨rfl, h4, s4⟩
        obtain ⟨k6, f6⟩ := h4.c6
        have Hend := Lib.hid (Hfin.out w4 h4 (S3.out.trans s4))
        clear h4 s4
        go_wp2
        go_ret
        exact Hend.out
    | @skip _ nn _ dead a rest t ts _ _ a1 a2 a3 a4 a5 a6 a7 a8 a9 a10 a11 a12 => as_aux_lemma =>
      rw [a1] at hI
      have Hnx := Lib.hid (inNext hI a2 a3 hg1 hB a4)
      have hl2 : ({ a with cur := t, ts := ts } :: rest : List Ab).length < 500 := by simp at a4 ⊢; omega
      have Htx := Lib.hid (fun (w1 : World) (b : Bool) (h1 : Inp w1 B ib { C with lim := L } ({ a with cur := t, ts := ts } :: rest) s1.mn s1.mac s1.ifs b s1.text) => inText h1 a7 hl2)
      have Hen := Lib.hid (fun (w1 : World) (b : Bool) (h1 : Inp w1 B ib { C with lim := L } ({ a with cur := t, ts := ts } :: rest) s1.mn s1.mac s1.ifs b s1.text) => inEnabled h1 a10)
      rw [a11] at Hen
      have HS := Lib.hid (Soft.refl B C.bl wr)
      have HM := Lib.hid a9
      have b35 : (t.k == 35) = false := by simp [a5]
      have b1 : (t.k == -1) = false := by simp [a6]
      have hfin : ∀ w2 : World, Inp w2 B ib { C with lim := L } ({ a with cur := t, ts := ts } :: rest) s1.mn s1.mac s1.ifs (t.k == 10) s1.text → Soft B C.bl wr w2 → NLoop B ib C k s' w nn (.int .i64 (nest : Nat)) w2 := fun w2 h3 h4 =>
        ⟨_, nest, rfl, hnest, ⟨L, by have := h4.size; omega, h3⟩, a12, hS.trans h4⟩
      have Hfin := Lib.hid hfin
      clear hI hS hL a1 a2 a3 a4 a5 a6 a7 a9 a10 a11 a12 hl2 hg1 hfin
      obtain ⟨tk, htk⟩ : ∃ tk, tk = t.k := ⟨_, rfl⟩
      rw [← htk] at Hnx b35 b1 HM Hfin
      clear htk
      cases hid : (tk == -2) with
      | true =>
        have Hm := Lib.hid (HM.out (by simpa using hid))
        go_wp2_with fail
        refine Hnx.out.mono ?_
        rintro e w1 ⟨rfl, h1, s1'⟩
        have Ht1 := Lib.hid (Htx.out w1 _ h1)
        have S1 := Lib.hid (HS.out.trans s1')
        clear h1 s1'
        go_wp2_with fail
        refine Ht1.out.mono ?_
        rintro e w2 ⟨rfl, h2, s2⟩
        obtain ⟨c5, hlook⟩ := h2.mac_none Hm.out (by omega)
        dsimp only at c5 hlook
        have Hb := Lib.hid (h2.setBol (tk == 10))
        obtain ⟨k3, f3⟩ := h2.c3
        have S2 := Lib.hid (S1.out.trans s2)
        clear h2 s2
        go_wp2_with fail
        refine (Hen.out _ _ Hb.out.1).mono ?_
        rintro e w3 ⟨rfl, m3, rfl⟩
        have S3 := Lib.hid (S2.out.trans (Hb.out.2.trans ((Soft.refl B C.bl _).drewN m3)))
        have Hend := Lib.hid (Hfin.out _ (Hb.out.1.drewN m3) S3.out)
        clear k3 f3
        go_wp2
        go_roundg nn
        case measure => simp
        case rel => exact Hend.out
      | false =>
        go_wp2_with fail
        refine Hnx.out.mono ?_
        rintro e w2 ⟨rfl, h2, s2⟩
        have S1 := HS
        have Hb := Lib.hid (h2.setBol (tk == 10))
        obtain ⟨k3, f3⟩ := h2.c3
        have S2 := Lib.hid (S1.out.trans s2)
        clear h2 s2
        go_wp2_with fail
        refine (Hen.out _ _ Hb.out.1).mono ?_
        rintro e w3 ⟨rfl, m3, rfl⟩
        have S3 := Lib.hid (S2.out.trans (Hb.out.2.trans ((Soft.refl B C.bl _).drewN m3)))
        have Hend := Lib.hid (Hfin.out _ (Hb.out.1.drewN m3) S3.out)
        clear k3 f3
        go_wp2
        go_roundg nn
        case measure => simp
        case rel => exact Hend.out
    | @mac _ nn _ dead a rest t ts m _ _ a1 a2 a3 a4 a5 a6 a7 a8 a9 a10 a11 a12 => as_aux_lemma =>
      rw [a1] at hI
      have Hnx := Lib.hid (inNext hI a2 a3 hg1 hB (by omega))
      rw [a5] at Hnx
      have hl2 : ({ a with cur := t, ts := ts } :: rest : List Ab).length < 500 := by simp at a4 ⊢; omega
      have hl3 : ({ a with cur := t, ts := ts } :: rest : List Ab).length ≤ 100 := by simp at a4 ⊢; omega
      have Htx := Lib.hid (fun (w1 : World) (b : Bool) (h1 : Inp w1 B ib { C with lim := L } ({ a with cur := t, ts := ts } :: rest) s1.mn s1.mac s1.ifs b s1.text) => inText h1 (by show t.k ≠ 0; rw [a5]; decide) hl2)
      have hfin : ∀ w2 : World, Inp w2 B ib { C with lim := L } (slAb a.nm t.line m.toks :: { a with cur := t, ts := ts } :: rest) s1.mn s1.mac s1.ifs s1.bol s1.text → Soft B C.bl wr w2 → NLoop B ib C k s' w nn (.int .i64 ((nest + 1 : Nat) : Int)) w2 := fun w2 h3 h4 =>
        ⟨_, nest + 1, rfl, by omega, ⟨L, by have := h4.size; omega, h3⟩, a12, hS.trans h4⟩
      have Hfin := Lib.hid hfin
      have Hinv := Lib.hid (fun (w1 : World) (b : Nat) (h1 : Inp w1 B ib { C with lim := L } ({ a with cur := t, ts := ts } :: rest) s1.mn s1.mac s1.ifs s1.bol s1.text) (hm : MacAt w1 L b t.x m) => invoke_plain (C := { C with lim := L }) h1 hm a8 hl3 a9 a10)
      have HM := Lib.hid a7
      clear hI hS hL a1 a2 a3 a4 a5 a7 a8 a9 a10 a12 hl2 hl3 hg1 hfin
      go_wp2_with fail
      refine Hnx.out.mono ?_
      rintro e w1 ⟨rfl, h1, s1'⟩
      have Ht1 := Lib.hid (Htx.out w1 _ h1)
      have S1 := Lib.hid s1'
      clear h1 s1'
      go_wp2_with fail
      refine Ht1.out.mono ?_
      rintro e w2 ⟨rfl, h2, s2⟩
      obtain ⟨b, c5, hlook, hma⟩ := h2.mac_some HM.out (by omega)
      dsimp only at c5 hlook
      have Hi2 := Lib.hid (Hinv.out w2 b h2 hma)
      have S2 := Lib.hid (S1.out.trans s2)
      have hnn : ∀ u : World, (binOp BinOp.neq 95 (.pointer (some ⟨b, 0, none⟩)) (.pointer none)).run Tryz.prog u = .ok (.bool true) u := fun u => by kernel_rfl
      clear h2 s2 hma
      go_wp2_with fail
      refine Hi2.out.mono ?_
      rintro e w3 ⟨rfl, h3, s3⟩
      have Hend := Lib.hid (Hfin.out w3 h3 (S2.out.trans s3))
      clear h3 s3
      have en : IntKind.i64.wrap ((nest : Int) + 1) = (nest : Int) + 1 := IntWalk.i64_in _ (by omega)
      go_wp2
      go_roundg nn
      case measure => simp
      case rel => exact Hend.out
    | @hash _ _ dead a rest t ts b s2 a1 a2 a3 a4 a5 a6 a7 => as_aux_lemma =>
      rw [a1] at hI
      have Hnx := Lib.hid (inNext hI a2 a3 hg1 hB a4)
      rw [a5, a6] at Hnx
      have Hh := Lib.hid (fun (w1 : World) (h1 : Inp w1 B ib { C with lim := L } ({ a with cur := t, ts := ts } :: rest) s1.mn s1.mac s1.ifs true s1.text) (hl : L ≤ w1.heap.size) (hg : Glob w1 ev) => hash_any (C := C) (s := { s1 with ab := { a with cur := t, ts := ts } :: rest }) ⟨L, hl, by rw [a6]; exact h1⟩ a7 hg hB)
      have HS := Lib.hid hS
      have HL := Lib.hid hL
      clear hI hS hL a1 a2 a3 a4 a5 a6 a7 hg1
      go_wp2_with fail
      refine Hnx.out.mono ?_
      rintro e w1 ⟨rfl, h1, s1'⟩
      have Hh1 := Lib.hid (Hh.out w1 h1 (Nat.le_trans HL.out s1'.size) ((HS.out.trans s1').glob Hg.out hB))
      have S1 := Lib.hid (HS.out.trans s1')
      have c3 := h1.c3.1
      clear h1 s1'
      go_wp2_with fail
      refine Hh1.out.mono ?_
      rintro e w2 ⟨rfl, ⟨L2, hL2, h2⟩, s2'⟩
      obtain ⟨k3, f3⟩ := h2.c3
      obtain ⟨k6, f6⟩ := h2.c6
      have Hend : Hid (NxQ B ib C 35 { s2 with bol := b, text := [35] } w (.returned (.int .i32 35)) ((w2.setCell ⟨ib, 3, none⟩ (.bool b)).setCell ⟨ib, 6, none⟩ (.string (mkS [35])))) := Lib.hid (by
        obtain ⟨h3, s3⟩ := h2.setBol b
        obtain ⟨h4, s4⟩ := h3.setText [35]
        exact ⟨rfl, ⟨L2, by have := s3.size; have := s4.size; omega, h4⟩, S1.out.trans (s2'.trans (s3.trans s4))⟩)
      clear h2 s2' c3
      go_wp2
      go_ret
      exact Hend.out
end
end Go.Proofs.YthiododffhdooaaGreatDoor

/- The input's Next at the end of all. -/
namespace Go.Proofs.YthiododffhdooaaGreatDoor
open Go Go.RowKit Lex
set_option linter.unusedVariables false
set_option linter.unusedSimpArgs false

section
variable {w w' : World} {B ib : Nat} {C : Cfg} {s s' : Sg} {ev : Value}

def NxEQ (B ib : Nat) (C : Cfg) (s : Sg) (w : World) (e : Ending) (w' : World) : Prop := e = .returned (.int .i32 (-1)) ∧ (∃ ab', Held w' B ib C { s with ab := ab', bol := false, text := [] }) ∧ Soft B C.bl w w'

theorem Inp.c4_nil {ab : List Ab} {mn : Nat} {mac : Bs → Option Mc} {bol : Bool} {text : Bs} (h : Inp w B ib C ab mn mac [] bol text) : ∃ ad c, w.cell? ⟨ib, 4, none⟩ = some (.slice ad 0 c) := by
  obtain ⟨S, rs, h⟩ := h
  obtain ⟨ad, c, hS⟩ : ∃ ad c, S 4 = .slice ad 0 c := by
    obtain ⟨_, ⟨e, e0⟩ | ⟨g, cap, cur, e, _⟩⟩ := h.env.ifr
    · exact ⟨_, _, e⟩
    · exact ⟨_, _, e⟩
  exact ⟨ad, c, h.stk.blk.cell_eq (by decide) hS⟩

set_option maxRecDepth 100000 in
set_option maxHeartbeats 4000000 in
theorem next_eof {dead : List Ab} {a : Ab} (h : Held w B ib C s) (hab : s.ab = dead ++ [a]) (hd : ∀ d ∈ dead, d.ts = []) (hts : a.ts = []) (htz : a.istz = true) (hifs : s.ifs = []) (hl : (dead ++ [a]).length < 500) (hg : Glob w ev) (hB : 21 ≤ B) :
    Calls Tryz.prog 34 #[.pointer (some ⟨ib, 0, none⟩)] w (NxEQ B ib C s w) := by
  obtain ⟨L, hL, hI⟩ := h
  have c7 := hI.c7
  rw [hab, hifs] at hI
  have Hnx := Lib.hid (inEof hI hd hts htz hg hB hl)
  have Htx := Lib.hid (fun (w1 : World) (b : Bool) (c : Nat) (h1 : Inp w1 B ib { C with lim := L } [{ a with cur := ⟨-1, [], a.cur.line, c⟩, ts := [] }] s.mn s.mac [] b s.text) => inText h1 (by show (-1 : Int) ≠ 0; decide) (by simp))
  have Hen := Lib.hid (fun (w1 : World) (b : Bool) (c : Nat) (h1 : Inp w1 B ib { C with lim := L } [{ a with cur := ⟨-1, [], a.cur.line, c⟩, ts := [] }] s.mn s.mac [] b s.text) => inEnabled h1 (by simp))
  have hfin : ∀ (w2 : World) (c : Nat), Inp w2 B ib { C with lim := L } [{ a with cur := ⟨-1, [], a.cur.line, c⟩, ts := [] }] s.mn s.mac [] false s.text → Soft B C.bl w w2 → NxEQ B ib C s w (.returned (.int .i32 (-1))) (w2.setCell ⟨ib, 6, none⟩ (.string (mkS []))) := fun w2 c h3 h4 => by
    obtain ⟨h5, h6⟩ := h3.setText []
    exact ⟨rfl, ⟨_, L, by have := h6.size; have := h4.size; omega, by rw [hifs]; exact h5⟩, h4.trans h6⟩
  have Hfin := Lib.hid hfin
  clear hI hL hab hd hts htz hifs hl hg hfin
  go_enter Tryz.func34, Tryz.ntmps34
  go_wp2
  refine wp_loop_rounds 1 ?_
  rw [rounds_succ]
  go_wp2_with fail
  refine Hnx.out.mono ?_
  rintro e w1 ⟨c, rfl, h1, s1⟩
  obtain ⟨ad, cc, k4⟩ := h1.c4_nil
  have Hb := Lib.hid (h1.setBol false)
  obtain ⟨k3, f3⟩ := h1.c3
  have S1 := Lib.hid s1
  clear h1 s1 c7
  go_wp2_with fail
  refine (Hen.out _ _ _ Hb.out.1).mono ?_
  rintro e w3 ⟨rfl, m3, rfl⟩
  have Ht3 := Lib.hid (Htx.out _ _ _ (Hb.out.1.drewN m3))
  have S3 := Lib.hid (S1.out.trans (Hb.out.2.trans ((Soft.refl B C.bl _).drewN m3)))
  rw [show onB [] = true from rfl]
  clear k3 f3 k4
  go_wp2_with fail
  refine Ht3.out.mono ?_
  rintro e w4 ⟨rfl, h4, s4⟩
  obtain ⟨k6, f6⟩ := h4.c6
  have Hend := Lib.hid (Hfin.out w4 c h4 (S3.out.trans s4))
  clear h4 s4
  go_wp2
  go_ret
  exact Hend.out
end
end Go.Proofs.YthiododffhdooaaGreatDoor

/- readAll: a file is read to its end. -/
namespace Go.Proofs.YthiododffhdooaaGreatDoor
open Go Go.RowKit Lex
set_option linter.unusedVariables false
set_option linter.unusedSimpArgs false

/-- n tokens are told, then the end. -/
inductive Run : Nat → Sg → Sg → Prop
  | done {s dead a} : s.ab = dead ++ [a] → (∀ d ∈ dead, d.ts = []) → a.ts = [] → a.istz = true → s.ifs = [] → (dead ++ [a]).length < 500 → Run 0 s s
  | step {n m s k s1 s'} : Nx 0 m s k s1 → k ≠ -1 → -1000000 ≤ k → k < 1000000 → Run n s1 s' → Run (n + 1) s s'

theorem readAll_catch (p : Addr) (w : World) :
    CallsD Tryz.prog 33 #[.pointer (some p)] .returning w fun e u' w' => e = .returned (.tuple #[]) ∧ u' = .returning ∧ w' = w := by
  refine callsD_of_wpS Tryz.func33 rfl fun c₀ cs hu => ?_
  apply wpS_seq
  apply wpS_region
  simp [wpOpsS, go_sem, recoverD, hu, Tryz.ntmps33, Exit.thenS]
  refine wpS_cond (t := false) (by simp [Act.eval, Array.replicate]) ?_
  simp only [Bool.false_eq_true, if_false]
  refine wpS_of_wp (wp_skip ?_)
  cases c₀
  simp_all [bodyPostS, results, Tryz.results33]

section
variable {w w' : World} {B ib : Nat} {C : Cfg} {s s' : Sg} {ev : Value}

/-- What is known of the macros alone. -/
def HeldM (w : World) (ib : Nat) (C : Cfg) (s : Sg) : Prop := ∃ L, w.cell? ⟨ib, 5, none⟩ = some (.map (some C.mb)) ∧ Macs w L C.mb s.mn s.mac

def RAQ (B ib : Nat) (C : Cfg) (s : Sg) (w : World) (e : Ending) (w' : World) : Prop := e = .returned (.bool true) ∧ HeldM w' ib C s ∧ Soft B C.bl w w'

def RALoop (B ib : Nat) (C : Cfg) (s' : Sg) (most : Nat) (w : World) (n : Nat) (v7 : Value) (wr : World) : Prop :=
  ∃ s i, v7 = .int .i64 (i : Nat) ∧ i + n < most ∧ Held wr B ib C s ∧ Run n s s' ∧ Soft B C.bl w wr

set_option maxRecDepth 100000 in
set_option maxHeartbeats 4000000 in
theorem readAll_ok {n most : Nat} (h : Held w B ib C s) (hr : Run n s s') (hn : n < most) (hm : most < 1000000000) (hbl : C.bl = false) (hg : Glob w ev) (hB : 21 ≤ B) :
    Calls Tryz.prog 20 #[.pointer (some ⟨ib, 0, none⟩), .int .i64 most] w (RAQ B ib C s' w) := by
  have hmf : ∀ (fn : Fn) (first cap : Array Value) (w : World), (Instr.makeFunc fn first cap).run Tryz.prog w = .ok (.func fn first cap) w := fun _ _ _ _ => rfl
  have hb1 : Below w.heap.size w (w.alloc (.cells #[.bool false] 4)) := (Below.refl _ _).alloc (Nat.le_refl _) _
  have hH1 : Held (w.alloc (.cells #[.bool false] 4)) B ib C s := by
    obtain ⟨L, hL, hI⟩ := h
    exact ⟨L, Nat.le_trans hL hb1.size, hI.below hb1⟩
  have hS1 : Soft B C.bl w (w.alloc (.cells #[.bool false] 4)) := Soft.ofBelow hb1
  have hg1 := hS1.glob hg hB
  have hB1 := Blk.lit w #[.bool false] 4
  have H1 := Lib.hid hH1
  have S1 := Lib.hid hS1
  have G1 := Lib.hid hg1
  have HB1 := Lib.hid hB1
  have Hr := Lib.hid hr
  have Hbl := Lib.hid hbl
  clear h hr hb1 hH1 hS1 hg1 hB1 hg hbl
  go_enter_defers Tryz.func20, Tryz.ntmps20
  go_wp2
  obtain ⟨nb, hnb⟩ : ∃ nb, nb = w.heap.size := ⟨_, rfl⟩
  rw [← hnb] at HB1 ⊢
  have Hnb := Lib.hid hnb
  clear hnb
  generalize hw1 : w.alloc (.cells #[.bool false] 4) = w1
  rw [hw1] at H1 S1 G1 HB1
  clear hw1
  go_loopg [7] n (fun n v7 wr => RALoop B ib C s' most w1 n v7 wr)
  case atStart => exact ⟨s, 0, rfl, by omega, H1.out, Hr.out, Soft.refl _ _ _⟩
  case round =>
    obtain ⟨s1, i, rfl, hin, hH, hR, hS⟩ := hrel
    have hg2 := hS.glob G1.out hB
    have hlt : (i : Int) < (most : Int) := by omega
    cases hR with
    | @step n _ _ k s2 _ hx hk hk1 hk2 hR =>
      have Hnx := Lib.hid (next_in hH hx hg2 hB)
      have HR := Lib.hid hR
      have HS := Lib.hid hS
      have e1 : IntKind.i64.wrap k = k := IntWalk.i64_in _ (by omega)
      have e2 : wrap64 k = k := by unfold wrap64; omega
      have hkb : (k == -1) = false := by simp [hk]
      have hi : i + 1 + n < most := by omega
      clear hH hx hk hR hS hg2 H1 Hr
      go_wp2_with fail
      refine Hnx.out.mono ?_
      rintro e w2 ⟨rfl, h2, s2'⟩
      have H2 := Lib.hid h2
      have S2 := Lib.hid (HS.out.trans s2')
      clear h2 s2'
      have e3 : IntKind.i64.wrap ((i : Int) + 1) = (i : Int) + 1 := IntWalk.i64_in _ (by omega)
      go_wp2
      go_roundg n
      case measure => simp
      case rel => exact ⟨s2, i + 1, by go_num, hi, H2.out, HR.out, S2.out⟩
    | @done _ dead a a1 a2 a3 a4 a5 a6 =>
      have Hnx := Lib.hid (next_eof hH a1 a2 a3 a4 a5 a6 hg2 hB)
      have HS := Lib.hid hS
      clear hH a1 a2 a3 a4 a5 a6 hS hg2 H1 Hr
      go_wp2_with fail
      refine Hnx.out.mono ?_
      rintro e w2 ⟨rfl, ⟨ab', L, hL, hI⟩, s2'⟩
      have S2 := HS.out.trans s2'
      have hb2 : Blk w2 nb 4 1 (fun i => [Value.bool false].getD i undef) := S2.blk HB1.out (by rw [Hbl.out]; unfold MT2 MT RT; decide)
      have k0 := hb2.cell (i := 0) (by decide)
      have f0 := hb2.frozen 0
      have hfin : RAQ B ib C s' w (.returned (.bool true)) (w2.setCell ⟨nb, 0, none⟩ (.bool true)) := by
        obtain ⟨S, rs, hI⟩ := hI
        obtain ⟨f, m1, m2, m3⟩ := hI.env.mcs
        have ho := (Only.refl (fun k => k = nb) w2).setCell (p := ⟨nb, 0, none⟩) (fun _ => rfl) (.bool true)
        have hty : Typed w2 nb (· = 4) := hb2.typed rfl
        have hnt : ∀ k, k = nb → ∀ T : TypeId, T ≠ 4 → ¬ Typed w2 k (· = T) := fun k e T hT => e ▸ not_typed hty (fun h => hT h)
        refine ⟨rfl, ⟨L, ?_, ⟨f, m1.of_heap (ho.block _ m1.lt (fun e => m1.not_typed (e ▸ hty))), m2, fun x m hx => ?_⟩⟩, ?_⟩
        · have hb := hI.stk.blk.only ho (fun e => hnt _ e 68 (by decide) (hI.stk.blk.typed rfl))
          exact hb.cell_eq (by decide) hI.env.mcv
        · obtain ⟨b, hb, hm⟩ := m3 x m hx
          exact ⟨b, hb, hm.only ho (fun k e _ => ⟨hnt k e _ (by decide), hnt k e _ (by decide), hnt k e _ (by decide)⟩)⟩
        · exact (S1.out.trans S2).new ho (fun k e => by have := Hnb.out; omega)
      have Hfin := Lib.hid hfin
      clear hI s2' S2 hb2 hfin
      go_wp2
      refine leaves_cons (f := 33) (args := #[.pointer (some ⟨nb, 0, none⟩)]) (by simp) (by simp [go_sem]) ?_
      refine (readAll_catch ⟨nb, 0, none⟩ _).mono ?_
      rintro e u' w'' ⟨rfl, rfl, rfl⟩
      have k1 : w2.cell? ⟨nb, 0, none⟩ = some (.bool false) := k0
      simp [Leaves, settle, results, Tryz.results20, go_sem, k1]
      exact Hfin.out
end
end Go.Proofs.YthiododffhdooaaGreatDoor

/- The folder of the file's name. -/
namespace Go.Proofs.YthiododffhdooaaGreatDoor
open Go Go.RowKit Lex
set_option linter.unusedVariables false
set_option linter.unusedSimpArgs false

def mainName : ByteArray := ⟨#[109, 97, 105, 110, 46, 115]⟩
def dotName : ByteArray := ⟨#[46]⟩

section
variable {w : World}
set_option maxRecDepth 100000 in
set_option maxHeartbeats 1000000 in
theorem lastIndex_main :
    Calls Tryz.prog 57 #[.string mainName, .int .u8 47] w (fun e w' => e = .returned (.int .i64 (-1)) ∧ w' = w) := by
  go_enter Tryz.func57, Tryz.ntmps57
  unfold mainName
  go_wp2
  refine wp_loop_rounds 7 ?_
  iterate 7 (rw [rounds_succ]; go_wp2)
  all_goals go_ret
  all_goals exact ⟨rfl, rfl⟩

set_option maxRecDepth 100000 in
set_option maxHeartbeats 1000000 in
theorem split_main :
    Calls Tryz.prog 41 #[.string mainName] w (fun e w' => e = .returned (.tuple #[.string ⟨#[]⟩, .string mainName]) ∧ ∃ m, w' = w.drewN m) := by
  go_enter Tryz.func41, Tryz.ntmps41
  go_wp2_with fail
  refine lastIndex_main.mono ?_
  rintro e w1 ⟨rfl, rfl⟩
  unfold mainName
  go_wp2
  go_quiet (fail)
  go_wp2
  go_ret2
  exact ⟨rfl, _, rfl⟩

set_option maxRecDepth 100000 in
set_option maxHeartbeats 1000000 in
theorem clean_empty :
    Calls Tryz.prog 42 #[.string ⟨#[]⟩] w (fun e w' => e = .returned (.string dotName) ∧ w' = w) := by
  go_enter Tryz.func42, Tryz.ntmps42
  go_wp2
  go_ret
  exact ⟨rfl, rfl⟩

theorem dir_main :
    Calls Tryz.prog 26 #[.string mainName] w (fun e w' => e = .returned (.string dotName) ∧ ∃ m, w' = w.drewN m) := by
  go_enter Tryz.func26, Tryz.ntmps26
  go_wp2_with fail
  refine split_main.mono ?_
  rintro e w1 ⟨rfl, m, rfl⟩
  go_wp2_with fail
  refine clean_empty.mono ?_
  rintro e w1 ⟨rfl, rfl⟩
  go_wp2
  go_ret
  exact ⟨rfl, _, rfl⟩
end
end Go.Proofs.YthiododffhdooaaGreatDoor

/- tableOf: the files by their names. -/
namespace Go.Proofs.YthiododffhdooaaGreatDoor
open Go Go.RowKit Lex
set_option linter.unusedVariables false
set_option linter.unusedSimpArgs false

/-- Files as cells. -/
def cellsF (l : List (Bs × ByteArray)) : List Value := l.flatMap fun t => [.string (mkS t.1), .string t.2]
theorem cellsF_get : ∀ (ts : List (Bs × ByteArray)) (i : Nat) (t : Bs × ByteArray), ts[i]? = some t → (cellsF ts)[2 * i]? = some (.string (mkS t.1)) ∧ (cellsF ts)[2 * i + 1]? = some (.string t.2)
  | [], i, t, h => by simp at h
  | s :: r, 0, t, h => by
    simp at h; subst h
    exact ⟨rfl, rfl⟩
  | s :: r, i + 1, t, h => by
    have := cellsF_get r i t (by simpa using h)
    rw [show 2 * (i + 1) = 2 * i + 2 by omega, show 2 * i + 2 + 1 = 2 * i + 1 + 2 by omega]
    exact this

def tab : List (Bs × ByteArray) → (Bs → Option ByteArray) → Bs → Option ByteArray
  | [], f => f
  | p :: l, f => tab l (fun y => if y = p.1 then some p.2 else f y)
theorem tab_snoc : ∀ (l : List (Bs × ByteArray)) (p : Bs × ByteArray) (f : Bs → Option ByteArray), tab (l ++ [p]) f = fun y => if y = p.1 then some p.2 else tab l f y
  | [], _, _ => rfl
  | q :: l, p, f => tab_snoc l p _

/-- v is a slice of these files. -/
def Files (w : World) (g cap : Nat) (l : List (Bs × ByteArray)) : Prop := w.ownsRow 0 36 2 (.slice (some ⟨g, 0, none⟩) l.length cap) l.length (cellsF l)
def tabV (l : List (Bs × ByteArray)) (x : Bs) : Option Value := (tab l (fun _ => none) x).map Value.string
def TabQ (l : List (Bs × ByteArray)) (w : World) (e : Ending) (w' : World) : Prop := ∃ fb, e = .returned (.map (some fb)) ∧ SMap w' fb l.length (tabV l) ∧ w.heap.size ≤ fb ∧ Below w.heap.size w w'
def TabLoop (fb : Nat) (l : List (Bs × ByteArray)) (w : World) (n : Nat) (v : Value) (wr : World) : Prop :=
  ∃ i, v = .int .i64 (i : Nat) ∧ i + n = l.length ∧ SMap wr fb i (tabV (l.take i)) ∧ Below w.heap.size w wr

section
variable {w : World}
set_option maxRecDepth 100000 in
set_option maxHeartbeats 2000000 in
theorem tableOf_any {g cap : Nat} {l : List (Bs × ByteArray)} (hr : Files w g cap l) (hn : ∀ p ∈ l, p.1.length ≤ 1000000) (hl : l.length < 1000) :
    Calls Tryz.prog 17 #[.slice (some ⟨g, 0, none⟩) l.length cap] w (TabQ l w) := by
  have hmm := @run_makeMap Tryz.prog
  have hb1 : Below w.heap.size w (w.alloc (.map #[] 0)) := (Below.refl _ _).alloc (Nat.le_refl _) _
  have hm1 := SMap.new w
  have hg : g < w.heap.size := by
    have := (ownBlock_row hr g rfl).2.lt
    exact this
  have Hr := Lib.hid hr
  have Hn := Lib.hid hn
  have Hb1 := Lib.hid hb1
  have Hm1 := Lib.hid hm1
  obtain ⟨L, hL⟩ : ∃ L, L = l.length := ⟨_, rfl⟩
  rw [← hL] at hl ⊢
  have HL := Lib.hid hL
  clear hr hb1 hm1 hn hL
  go_enter Tryz.func17, Tryz.ntmps17
  go_wp2
  obtain ⟨fb, hfb⟩ : ∃ fb, fb = w.heap.size := ⟨_, rfl⟩
  generalize hw1 : w.alloc (.map #[] 0) = w1
  rw [hw1] at Hb1 Hm1
  rw [← hfb] at Hm1 ⊢
  have Hfb := Lib.hid hfb
  clear hw1 hmm hfb
  go_loopg [9] L (fun n v9 wr => TabLoop fb l w n v9 wr)
  case atStart => exact ⟨0, rfl, by have := HL.out; omega, Hm1.out, Hb1.out⟩
  case round =>
    obtain ⟨i, rfl, hin, hm, hb⟩ := hrel
    have hL := HL.out
    rcases Nat.lt_or_ge i L with hlt | hge
    · obtain ⟨p, hp⟩ : ∃ p, l[i]? = some p := ⟨l[i]'(by omega), List.getElem?_eq_getElem (by omega)⟩
      have hcg := cellsF_get l i p hp
      have k0 := Hr.out.cells (g := g) rfl (2 * i) _ hcg.1
      have k1 := Hr.out.cells (g := g) rfl (2 * i + 1) _ hcg.2
      rw [Addr.add_lit, Nat.zero_add, Nat.mul_comm, ← hb.cell (p := ⟨g, i * 2, none⟩) hg] at k0
      rw [Addr.add_lit, Nat.zero_add, Nat.mul_comm, ← hb.cell (p := ⟨g, i * 2 + 1, none⟩) hg] at k1
      have hlt2 : (i : Int) < (L : Int) := by omega
      have hlen : L ≤ cap := by
        obtain ⟨_, ⟨e, _⟩ | ⟨g', cap', cur, e, _, _, h1, h2⟩⟩ := Hr.out
        · cases e
        · cases e; omega
      obtain ⟨w2, hup, hm2, ho2⟩ := (hm.of_heap (w' := wr.alloc (.cells #[.string (mkS p.1), .string p.2] 36)) (Below.heap_alloc wr _ _ hm.lt)).update Tryz.underlying39 (by omega) p.1 (Hn.out p (List.mem_of_getElem? hp)) (.string p.2)
      have hb2 : Below w.heap.size w w2 := by
        have h1 : Below w.heap.size w (wr.alloc (.cells #[.string (mkS p.1), .string p.2] 36)) := hb.alloc hb.size _
        have := Hfb.out
        refine h1.trans (ho2.below h1.size (fun k hk e => by omega))
      have hm2' : SMap w2 fb (i + 1) (tabV (l.take (i + 1))) := by
        have e : tabV (l.take (i + 1)) = fun y => if y = p.1 then some (.string p.2) else tabV (l.take i) y := by
          have e1 : l.take (i + 1) = l.take i ++ [p] := by rw [List.take_add_one, hp]; rfl
          funext y
          unfold tabV
          rw [e1, tab_snoc]
          by_cases e : y = p.1 <;> simp [e]
        rw [e]; exact hm2
      have hi1 : IntKind.i64.wrap ((i : Int) + 1) = (i : Int) + 1 := IntWalk.i64_in _ (by omega)
      have hin' : i + 1 + (gk - 1) = l.length := by omega
      have hgk : gk - 1 < gk := by omega
      have Hm := Lib.hid hm2'
      have Hb := Lib.hid hb2
      have Hup := Lib.hid hup
      clear hup hm2 ho2 hm2' hb2
      have Hp := Lib.hid hp
      have Hin := Lib.hid hin
      clear hm hb hp hcg hin Hm1 Hb1 hL
      go_wp2_with fail
      rw [Hup.out]
      go_wp2
      go_roundg (gk - 1)
      case measure => exact hgk
      case rel => exact ⟨i + 1, by go_num, hin', Hm.out, Hb.out⟩
    · have hlt2 : ¬ (i : Int) < (L : Int) := by omega
      have e : i = l.length := by omega
      subst e
      rw [List.take_length] at hm
      have Hfin : Hid (TabQ l w (.returned (.map (some fb))) wr) := Lib.hid ⟨fb, rfl, hm, Nat.le_of_eq Hfb.out.symm, hb⟩
      clear hm hb hin
      go_wp2
      go_ret
      exact Hfin.out
end
end Go.Proofs.YthiododffhdooaaGreatDoor

/- NewInput (nothing is told to be there at first). -/
namespace Go.Proofs.YthiododffhdooaaGreatDoor
open Go Go.RowKit Lex
set_option linter.unusedVariables false
set_option linter.unusedSimpArgs false

theorem infoStr : (Tryz.prog.info? 9).map (fun i => (i.zero, i.size, i.bytes)) = some (some (.string ⟨#[]⟩), 1, 16) := by kernel_rfl

/-- Strings are appended, of a row that may be none. -/
theorem run_append_strs {w : World} {base : Nat} {v x : Value} {n m : Nat} {xs news : List Value} (ty : TypeId) (hv : w.ownsRow base 9 1 v n xs) (hx : w.ownsRow 0 9 1 x m news) (hs : ∀ u ∈ news, ∃ s, u = .string s) (h : n + m < 1000000) (hb : base ≤ w.heap.size) :
    ∃ v' w', (Builtin.append_ #[22, 22] ty #[v, x]).run Tryz.prog w = .ok v' w' ∧ w'.ownsRow base 9 1 v' (n + m) (xs ++ news) ∧ w.grownBy w' v.ownBlock ∧ (∀ k, v'.ownBlock = some k → k < w'.heap.size) := by
  obtain ⟨i0, hi, hz0, hz1, hz2⟩ : ∃ i0, Tryz.prog.info? 9 = some i0 ∧ i0.zero = some (.string ⟨#[]⟩) ∧ i0.size = 1 ∧ i0.bytes = 16 := info_parts infoStr
  have hx' := hx
  obtain ⟨h1, ⟨rfl, h0⟩ | ⟨g, cap, cur, rfl, a, b, c, d, e, f⟩⟩ := hx
  · subst h0
    have hn : news = [] := by
      cases news with
      | nil => rfl
      | cons => simp at h1
    subst hn
    obtain ⟨vb, vl, vc, rfl, hle⟩ : ∃ vb vl vc, v = .slice vb vl vc ∧ vl ≤ vc := by
      obtain ⟨_, ⟨e, _⟩ | ⟨g, cap, cur, e, _, _, h, _⟩⟩ := hv
      · exact ⟨_, _, _, e, Nat.le_refl _⟩
      · exact ⟨_, _, _, e, h⟩
    refine ⟨.slice vb vl vc, w, run_append_nothing w _ _ ty _ i0 Tryz.underlying22 hi vb vl vc hle (.slice none 0 0) ?_, by simpa using hv, ?_, fun k hk => (ownBlock_row hv k hk).2.lt⟩
    · exact ⟨.inl ⟨_, Tryz.underlying22⟩, fun _ => by simp [Builtin.lenOf], by simp [Builtin.firstCells, hz1], by simp [Builtin.firstCells, hz1], by simp, by simp⟩
    · exact ⟨rfl, rfl, rfl, Nat.le_refl _, fun _ _ _ => rfl⟩
  · obtain ⟨v', w', hr, h2, h3, h4, h5⟩ := run_append_own_at (P := Tryz.prog) w base 22 ty 9 i0 (.string ⟨#[]⟩) 1 16 Tryz.underlying22 hi hz0 hz1 hz2 rfl (by decide) v n xs hv ⟨g, 0, none⟩ m cap news (by simpa using h1) (fun j u hj => by
      have := hx'.cells (g := g) rfl j u hj
      exact this) (fun u hu => by obtain ⟨s, rfl⟩ := hs u hu; rfl) (by unfold maxLen; omega) (by omega) hb
    exact ⟨v', w', hr, h2, h3, fun k hk => (ownBlock_row h2 k hk).2.lt⟩

theorem wpList_append_strs {w : World} {ops : Array Oper} {rest : List Oper} {o : Oper} {a : Act} {Q : Exit → Act → World → Prop} (hgd : o.guard = none) (s x : Operand)
    (ho : o.op = .call { callee := .builtin .append, args := #[s, x], argTypes := #[22, 22] }) (base : Nat) (v xv : Value) (hs : a.eval s = v) (hx : a.eval x = xv) (n m : Nat) (xs news : List Value)
    (hv : w.ownsRow base 9 1 v n xs) (hxr : w.ownsRow 0 9 1 xv m news) (hst : ∀ u ∈ news, ∃ s, u = .string s) (hl : n + m < 1000000) (hb : base ≤ w.heap.size)
    (h : ∀ v' w', w'.ownsRow base 9 1 v' (n + m) (xs ++ news) → w.grownBy w' v.ownBlock → wpList Tryz.prog ops Q rest (a.put o.dst v') w') : wpList Tryz.prog ops Q (o :: rest) a w := by
  refine wpList_plain hgd fun K hK => ?_
  obtain ⟨v', w', hr, h2, h3, h4⟩ := run_append_strs o.type hv hxr hst hl hb
  unfold Oper.wp execOp
  simp only [ho, resolve, invoke, builtin, Sem.run_bind, Sem.run_pure, Result.andThen_ok, List.map_toArray, List.map_cons, List.map_nil, hs, hx, hr]
  exact hK _ _ (h v' w' h2 h3)

theorem row_zero {w : World} {base : Nat} {e : TypeId} {size n : Nat} {v : Value} {xs : List Value} (h : w.ownsRow base e size v n xs) : w.ownsRow 0 e size v n xs := by
  obtain ⟨h1, h2⟩ := h
  refine ⟨h1, h2.imp id ?_⟩
  rintro ⟨g, cap, cur, e, _, r⟩
  exact ⟨g, cap, cur, e, Nat.zero_le _, r⟩

theorem row_one (w : World) (T : TypeId) (x : Value) : (w.alloc (.cells #[x] T)).ownsRow w.heap.size T 1 (.slice (some ⟨w.heap.size, 0, none⟩) 1 1) 1 [x] :=
  ⟨rfl, .inr ⟨w.heap.size, 1, _, rfl, Nat.le_refl _, heap_alloc_new w _, Nat.le_refl _, by unfold maxLen; omega, rfl, rfl⟩⟩

section
variable {w : World}

def PreQ (w : World) (e : Ending) (w' : World) : Prop := ∃ mb, e = .returned (.map (some mb)) ∧ SMap w' mb 0 (fun _ => none) ∧ mb = w.heap.size ∧ Below w.heap.size w w'

set_option maxRecDepth 100000 in
set_option maxHeartbeats 2000000 in
theorem predefine_nil :
    Calls Tryz.prog 27 #[.slice none 0 0] w (PreQ w) := by
  have hmm := @run_makeMap Tryz.prog
  have hb1 : Below w.heap.size w (w.alloc (.map #[] 0)) := (Below.refl _ _).alloc (Nat.le_refl _) _
  have hm1 := SMap.new w
  have Hfin : Hid (PreQ w (.returned (.map (some w.heap.size))) (w.alloc (.map #[] 0))) := Lib.hid ⟨_, rfl, hm1, rfl, hb1⟩
  clear hb1 hm1
  go_enter Tryz.func27, Tryz.ntmps27
  go_wp2
  refine wp_loop_rounds 1 ?_
  iterate 1 (rw [rounds_succ]; go_wp2)
  go_ret
  exact Hfin.out

def NewIQ (B fb : Nat) (bl : Bool) (F : Bs → Option ByteArray) (inc : List ByteArray) (w : World) (e : Ending) (w' : World) : Prop :=
  ∃ ib mb, e = .returned (.pointer (some ⟨ib, 0, none⟩)) ∧ Held w' B ib ⟨0, bl, mb, fb, F, dotName :: inc⟩ ⟨[], 0, fun _ => none, [], true, []⟩ ∧ Below w.heap.size w w' ∧ w.heap.size ≤ ib

set_option maxRecDepth 100000 in
set_option maxHeartbeats 2000000 in
theorem newInput_any {B fb n il ic : Nat} {ia : Option Addr} {bl : Bool} {F : Bs → Option ByteArray} {inc : List ByteArray} (hf : SMap w fb n (fun x => (F x).map Value.string)) (hi : Strs w (.slice ia il ic) inc) (hB : B ≤ w.heap.size) (hl : inc.length < 1000) :
    Calls Tryz.prog 16 #[.string mainName, .map (some fb), .slice ia il ic, .slice none 0 0] w (NewIQ B fb bl F inc w) := by
  have Hf := Lib.hid hf
  have Hi := Lib.hid hi
  clear hf hi
  go_enter Tryz.func16, Tryz.ntmps16
  go_wp2_with fail
  refine dir_main.mono ?_
  rintro e w1 ⟨rfl, m, rfl⟩
  have hrow1 := row_one (w.drewN m) 9 (.string dotName)
  have hi2 : Strs ((w.drewN m).alloc (.cells #[.string dotName] 9)) (.slice ia il ic) inc := ownsRow_only Hi.out (fun k hk => Below.heap_alloc (w.drewN m) _ k (ownBlock_row Hi.out k hk).2.lt)
  have Hrow1 := Lib.hid hrow1
  have Hi2 := Lib.hid hi2
  clear hrow1 hi2
  go_wp2_with (at_builtin; refine wpList_append_strs rfl _ _ rfl w.heap.size _ _ rfl rfl 1 inc.length _ _ Hrow1.out Hi2.out ?c1 ?c2 ?c3 ?_)
  case c1 => intro u hu; obtain ⟨s, _, rfl⟩ := List.mem_map.1 hu; exact ⟨s, rfl⟩
  case c2 => omega
  case c3 => simp
  intro v' w1 hown' hgrow
  obtain ⟨gi, ci, rfl⟩ : ∃ g cap, v' = .slice (some ⟨g, 0, none⟩) (1 + inc.length) cap := by
    obtain ⟨_, ⟨_, h0⟩ | ⟨g, cap, cur, e, _⟩⟩ := hown'
    · omega
    · exact ⟨g, cap, e⟩
  have hbel1 : Below w.heap.size w w1 := by
    have h0 : Below w.heap.size w (w.drewN m) := ⟨rfl, rfl, rfl, Nat.le_refl _, fun _ _ => rfl⟩
    have h1 : Below w.heap.size w ((w.drewN m).alloc (.cells #[.string dotName] 9)) := h0.alloc (Nat.le_refl _) _
    exact h1.trans ⟨hgrow.os, hgrow.tape, hgrow.output, hgrow.size, fun k hk => hgrow.block k (by simp; omega) (fun e => by simp [Value.ownBlock] at e; omega)⟩
  have Hown := Lib.hid hown'
  have Hbel1 := Lib.hid hbel1
  clear hown' hgrow hbel1 Hrow1 Hi2 Hi
  go_wp2_with fail
  refine predefine_nil.mono ?_
  rintro e w2 ⟨mb, rfl, hm, hmb, hb2⟩
  have Hmb := Lib.hid hmb
  clear hmb
  have hfin : NewIQ B fb bl F inc w (.returned (.pointer (some ⟨w2.heap.size, 0, none⟩))) (w2.alloc (.cells #[.slice none 0 0, .slice (some ⟨gi, 0, none⟩) (1 + inc.length) ci, .map (some fb), .bool true, .slice none 0 0, .map (some mb), .string ⟨#[]⟩, .bool false, .int .i32 0, .string ⟨#[]⟩] 68)) := by
    have hB1 := Blk.lit w2 #[.slice none 0 0, .slice (some ⟨gi, 0, none⟩) (1 + inc.length) ci, .map (some fb), .bool true, .slice none 0 0, .map (some mb), .string ⟨#[]⟩, .bool false, .int .i32 0, .string ⟨#[]⟩] 68
    have hs2 := hb2.size
    have hs1 := Hbel1.out.size
    have hfl := Hf.out.lt
    have hbel2 : Below w.heap.size w w2 := Hbel1.out.trans ⟨hb2.os, hb2.tape, hb2.output, hb2.size, fun k hk => hb2.block k (by omega)⟩
    have hbel3 := hbel2.alloc hbel2.size (.cells #[.slice none 0 0, .slice (some ⟨gi, 0, none⟩) (1 + inc.length) ci, .map (some fb), .bool true, .slice none 0 0, .map (some mb), .string ⟨#[]⟩, .bool false, .int .i32 0, .string ⟨#[]⟩] 68)
    have hgi := (ownBlock_row Hown.out gi rfl).2.lt
    have hmb := Hmb.out
    have hstr : Strs (w2.alloc (.cells #[.slice none 0 0, .slice (some ⟨gi, 0, none⟩) (1 + inc.length) ci, .map (some fb), .bool true, .slice none 0 0, .map (some mb), .string ⟨#[]⟩, .bool false, .int .i32 0, .string ⟨#[]⟩] 68)) (.slice (some ⟨gi, 0, none⟩) (1 + inc.length) ci) (dotName :: inc) := by
      have h1 : w1.ownsRow 0 9 1 (.slice (some ⟨gi, 0, none⟩) (1 + inc.length) ci) (1 + inc.length) ((dotName :: inc).map Value.string) := row_zero Hown.out
      have h2 : w2.ownsRow 0 9 1 (.slice (some ⟨gi, 0, none⟩) (1 + inc.length) ci) (1 + inc.length) ((dotName :: inc).map Value.string) := ownsRow_only h1 (fun k hk => by cases hk; exact hb2.block _ hgi)
      have h3 := ownsRow_only h2 (w' := w2.alloc (.cells #[.slice none 0 0, .slice (some ⟨gi, 0, none⟩) (1 + inc.length) ci, .map (some fb), .bool true, .slice none 0 0, .map (some mb), .string ⟨#[]⟩, .bool false, .int .i32 0, .string ⟨#[]⟩] 68)) (fun k hk => by cases hk; exact Below.heap_alloc w2 _ _ (by show gi < _; omega))
      unfold Strs
      rw [show (dotName :: inc).length = 1 + inc.length by simp; omega]
      exact h3
    have hmap := hm.of_heap (w' := w2.alloc (.cells #[.slice none 0 0, .slice (some ⟨gi, 0, none⟩) (1 + inc.length) ci, .map (some fb), .bool true, .slice none 0 0, .map (some mb), .string ⟨#[]⟩, .bool false, .int .i32 0, .string ⟨#[]⟩] 68)) (Below.heap_alloc w2 _ _ hm.lt)
    refine ⟨_, mb, rfl, ⟨_, Nat.le_refl _, _, [], ⟨hB1, by omega, ⟨rfl, .inl ⟨rfl, rfl⟩⟩, by simp, .nil⟩, .nil, by simp, ?_, rfl, rfl, rfl, ⟨_, rfl⟩, ⟨_, rfl⟩⟩, hbel3, by omega⟩
    exact { ifr := ⟨rfl, .inl ⟨rfl, rfl⟩⟩, mcv := rfl, mcs := ⟨fun _ => none, hmap, fun _ _ => rfl, fun x m h => by cases h⟩, mlow := (by show B ≤ mb; omega), fiv := rfl, fis := ⟨n, Hf.out.of_heap (hbel3.block _ hfl)⟩, ne := (by show mb ≠ fb; omega), inv := hstr, inl := fun k hk => (by cases hk; show gi < _; simp; omega) }
  have Hfin := Lib.hid hfin
  clear hfin hm hb2
  go_wp2
  go_ret
  exact Hfin.out
end
end Go.Proofs.YthiododffhdooaaGreatDoor

/- ZZMacro: a macro of the input is told. -/
namespace Go.Proofs.YthiododffhdooaaGreatDoor
open Go Go.RowKit Lex
set_option linter.unusedVariables false
set_option linter.unusedSimpArgs false

section
variable {w : World} {ib : Nat} {C : Cfg} {s : Sg} {x : Bs} {m : Mc}

def ZZQ (m : Mc) (w : World) (e : Ending) (w' : World) : Prop :=
  ∃ aa al ac ta tl tc k, e = .returned (.tuple #[.slice aa al ac, .slice ta tl tc, .bool true]) ∧ ArgsV w' (.slice aa al ac) m.args ∧ Toki w' (.slice ta tl tc) m.toks ∧ w' = w.drewN k

theorem ArgsV.drewN {v : Value} {args : Option (List Bs)} (h : ArgsV w v args) (k : Nat) : ArgsV (w.drewN k) v args := by
  cases args with
  | none => exact h
  | some l => exact ⟨h.1, ownsRow_only h.2 (fun _ _ => rfl)⟩

set_option maxRecDepth 100000 in
set_option maxHeartbeats 1000000 in
theorem zzMacro_some (h : HeldM w ib C s) (hx : s.mac x = some m) (hxl : x.length ≤ 1000000) :
    Calls Tryz.prog 21 #[.pointer (some ⟨ib, 0, none⟩), .string (mkS x)] w (ZZQ m w) := by
  obtain ⟨L, c5, f, m1, m2, m3⟩ := h
  obtain ⟨b, hb, S, hB, _, h0, ht, h1⟩ := m3 x m hx
  have hlook := m1.look Tryz.underlying61 zero_ptr_macro x hxl
  rw [hb] at hlook
  simp only [Option.map_some, Option.getD_some] at hlook
  obtain ⟨aa, al, ac, hS1⟩ : ∃ aa al ac, S 1 = .slice aa al ac := by
    cases hm : m.args with
    | none => rw [hm] at h1; exact ⟨_, _, _, h1⟩
    | some l => rw [hm] at h1; obtain ⟨⟨a, n, c, e⟩, _⟩ := h1; exact ⟨_, _, _, e⟩
  obtain ⟨ta, tl, tc, hS2⟩ : ∃ ta tl tc, S 2 = .slice ta tl tc := by
    obtain ⟨_, ⟨e, e0⟩ | ⟨g, cap, cur, e, _⟩⟩ := ht
    · exact ⟨_, _, _, e⟩
    · exact ⟨_, _, _, e⟩
  have ha : ArgsV w (.slice aa al ac) m.args := by
    rw [← hS1]
    cases hm : m.args with
    | none => rw [hm] at h1; exact h1
    | some l => rw [hm] at h1; exact h1
  rw [hS2] at ht
  have k1 := hB.cell_eq (i := 1) (by decide) hS1
  have k2 := hB.cell_eq (i := 2) (by decide) hS2
  have hfin : ∀ k, ZZQ m w (.returned (.tuple #[.slice aa al ac, .slice ta tl tc, .bool true])) (w.drewN k) := fun k => ⟨_, _, _, _, _, _, k, rfl, ha.drewN k, ht.drewN k, rfl⟩
  have Hfin := Lib.hid hfin
  clear hfin ha ht h1 hS1 hS2 hB h0 hb hx m1 m2 m3
  go_enter Tryz.func21, Tryz.ntmps21
  go_wp2
  go_quiet (fail)
  go_wp2
  go_ret3
  exact Hfin.out _

set_option maxRecDepth 100000 in
set_option maxHeartbeats 1000000 in
theorem zzMacro_none (h : HeldM w ib C s) (hx : s.mac x = none) (hxl : x.length ≤ 1000000) :
    Calls Tryz.prog 21 #[.pointer (some ⟨ib, 0, none⟩), .string (mkS x)] w (fun e w' => e = .returned (.tuple #[.slice none 0 0, .slice none 0 0, .bool false]) ∧ w' = w) := by
  obtain ⟨L, c5, f, m1, m2, m3⟩ := h
  have hlook := m1.look Tryz.underlying61 zero_ptr_macro x hxl
  rw [m2 x hx] at hlook
  simp only [Option.map_none, Option.getD_none] at hlook
  clear hx m1 m2 m3
  go_enter Tryz.func21, Tryz.ntmps21
  go_wp2
  go_ret3
  exact ⟨rfl, rfl⟩
end

theorem zzText_any {w : World} {k : Int} {x : ByteArray} :
    Calls Tryz.prog 22 #[.agg #[.int .i32 k, .string x]] w (fun e w' => e = .returned (.string x) ∧ w' = w.alloc (.cells #[.int .i32 k, .string x] 53)) := by
  go_enter Tryz.func22, Tryz.ntmps22
  go_wp2
  go_ret
  exact ⟨rfl, rfl⟩
end Go.Proofs.YthiododffhdooaaGreatDoor

/- A file's tokenizer is pushed. -/
namespace Go.Proofs.YthiododffhdooaaGreatDoor
open Go Go.RowKit Lex
set_option linter.unusedVariables false
set_option linter.unusedSimpArgs false

/-- A tokenizer at its start, told without memory. -/
def tzAb (nm : ByteArray) (ts : List Tok) : Ab := ⟨true, nm, ⟨0, [], 1, 1⟩, ts⟩

def PushTQ (B ib : Nat) (C : Cfg) (s : Sg) (w : World) (e : Ending) (w' : World) : Prop := e = .returned (.tuple #[]) ∧ Held w' B ib C s ∧ Soft B C.bl w w'

theorem inPush_tz {w0 w : World} {B ib : Nat} {C : Cfg} {s : Sg} {tz sb rb bb : Nat} {rv : Value} {nm : ByteArray} {text : Bs} {ts : List Tok} (h0 : Held w0 B ib C s) (hb : Below w0.heap.size w0 w)
    (hz : Tz w B tz sb rb rv (.pointer (some ⟨bb, 0, none⟩)) none text 1 1 0 []) (hp : PB w bb nm) (h1 : w0.heap.size ≤ tz) (h2 : w0.heap.size ≤ sb) (h3 : w0.heap.size ≤ rb) (htl : TL text 1 1 ts) (hlen : text.length < 900000) (hl : s.ab.length ≤ 100) :
    Calls Tryz.prog 18 #[.pointer (some ⟨ib, 0, none⟩), .iface 42 (.pointer (some ⟨tz, 0, none⟩))] w (PushTQ B ib C { s with ab := tzAb nm ts :: s.ab } w) := by
  obtain ⟨L, hL, h0⟩ := h0
  refine (inPush (r := ⟨.iface 42 (.pointer (some ⟨tz, 0, none⟩)), TzD tz sb rb none, bb, nm, ⟨0, [], 1, 1⟩, ts⟩) (a := tzAb nm ts) h0 hb (.tz hz htl (by show 1 + text.length < 1000000; omega) (by simp)) ?_ hp ⟨rfl, rfl, rfl, fun _ => ⟨tz, rfl⟩⟩ hl).mono ?_
  · rintro k (e | e | e | e)
    · omega
    · omega
    · omega
    · cases e
  · rintro e w' ⟨rfl, hi, hs⟩
    exact ⟨rfl, ⟨L, Nat.le_trans hL (Nat.le_trans hb.size hs.size), hi⟩, hs⟩
end Go.Proofs.YthiododffhdooaaGreatDoor

/- MacroOf: what a file's macro is. -/
namespace Go.Proofs.YthiododffhdooaaGreatDoor
open Go Go.RowKit Lex
set_option linter.unusedVariables false
set_option linter.unusedSimpArgs false

/-- Tokens, as the thin package has them, as cells. -/
def cellsI (ts : List (Int × Bs)) : List Value := ts.flatMap fun t => [.int .i64 t.1, .string (mkS t.2)]
theorem cellsI_snoc (ts : List (Int × Bs)) (t : Int × Bs) : cellsI (ts ++ [t]) = cellsI ts ++ [.int .i64 t.1, .string (mkS t.2)] := by simp [cellsI]

def mainBs : Bs := [109, 97, 105, 110, 46, 115]

/-- How long the texts are. -/
def sumT (l : List (Bs × ByteArray)) : Nat := (l.map fun p => p.2.size).sum

def MOQ (args : List Bs) (toks : List (Int × Bs)) (w : World) (e : Ending) (w' : World) : Prop :=
  ∃ aa al ac ta tl tc, e = .returned (.tuple #[.slice aa al ac, .slice ta tl tc, .bool true]) ∧ Strs w' (.slice aa al ac) (args.map mkS) ∧ w'.ownsRow 0 56 2 (.slice ta tl tc) toks.length (cellsI toks) ∧ Below w.heap.size w w'

def MO1 (l : List (Bs × ByteArray)) (w : World) (n : Nat) (v24 v9 : Value) (wr : World) : Prop :=
  ∃ i, v24 = .int .i64 (i : Nat) ∧ v9 = .int .i64 ((1000 + 1000 * sumT (l.take i) : Nat) : Int) ∧ i + n = l.length ∧ Below w.heap.size w wr

theorem sumT_le (l : List (Bs × ByteArray)) (i : Nat) : sumT (l.take i) ≤ sumT l := by
  unfold sumT
  conv => rhs; rw [← List.take_append_drop i l]
  rw [List.map_append, List.sum_append]
  omega
theorem sumT_succ (l : List (Bs × ByteArray)) (i : Nat) (p : Bs × ByteArray) (h : l[i]? = some p) : sumT (l.take (i + 1)) = sumT (l.take i) + p.2.size := by
  unfold sumT
  rw [List.take_add_one, h, List.map_append, List.sum_append]
  simp

def MO2 (toks : List (Int × Bs)) (w : World) (n : Nat) (v77 v16 : Value) (wr : World) : Prop :=
  ∃ i g cap, v77 = .int .i64 (i : Nat) ∧ v16 = .slice (some ⟨g, 0, none⟩) i cap ∧ wr.ownsRow w.heap.size 56 2 (.slice (some ⟨g, 0, none⟩) i cap) i (cellsI (toks.take i)) ∧ i + n = toks.length ∧ Below w.heap.size w wr

theorem infoIT : (Tryz.prog.info? 56).map (fun i => (i.zero, i.size, i.bytes)) = some (some (.agg #[.int .i64 0, .string ⟨#[]⟩]), 2, 24) := by kernel_rfl

section
variable {w : World}
set_option maxRecDepth 100000 in
set_option maxHeartbeats 4000000 in
theorem macroOf_some {g cap n : Nat} {l : List (Bs × ByteArray)} {text : Bs} {ts : List Tok} {s' : Sg} {x : Bs} {m : Mc} {ev : Value} (hr : Files w g cap ((mainBs, mkS text) :: l)) (hnm : ∀ p ∈ l, p.1.length ≤ 1000000) (hl : l.length < 900) (hsum : sumT ((mainBs, mkS text) :: l) < 900000)
    (htl : TL text 1 1 ts) (ha : ascii text) (hrun : Run n ⟨[tzAb mainName ts], 0, fun _ => none, [], true, []⟩ s') (hn : n < 1000) (hx : s'.mac x = some m) (hxl : x.length ≤ 1000000) (hal : (m.args.getD []).length < 1000) (hml : m.toks.length < 1000000) (hmk : ∀ t ∈ m.toks, -1000000 ≤ t.1 ∧ t.1 < 1000000) (hg : Glob w ev) (hB : 21 ≤ w.heap.size) :
    Calls Tryz.prog 9 #[.slice (some ⟨g, 0, none⟩) (l.length + 1 : Nat) cap, .slice none 0 0, .string (mkS x)] w (MOQ (m.args.getD []) m.toks w) := by
  have hr0 : Files w g cap ((mainBs, mkS text) :: l) := hr
  have hgl : g < w.heap.size := (ownBlock_row hr g rfl).2.lt
  have hlen : l.length + 1 ≤ cap := by
    obtain ⟨_, ⟨e, _⟩ | ⟨g', cap', cur, e, _, _, h1, h2⟩⟩ := hr
    · cases e
    · cases e; simpa using h1
  obtain ⟨L, hL⟩ : ∃ L, L = l.length + 1 := ⟨_, rfl⟩
  have k0 : w.cell? ⟨g, 0, none⟩ = some (.string mainName) := hr.cells (g := g) rfl 0 _ rfl
  have k1 : w.cell? ⟨g, 1, none⟩ = some (.string (mkS text)) := hr.cells (g := g) rfl 1 _ rfl
  rw [← hL] at hlen ⊢
  have K0 := Lib.hid k0
  have K1 := Lib.hid k1
  have HL := Lib.hid hL
  have Hr := Lib.hid hr
  have Hnm := Lib.hid hnm
  have Htl := Lib.hid htl
  have Ha := Lib.hid ha
  have Hrun := Lib.hid hrun
  have Hx := Lib.hid hx
  have Hmk := Lib.hid hmk
  have Hg := Lib.hid hg
  have Hsum := Lib.hid hsum
  have hL1 : 1 ≤ L ∧ L < 901 := by omega
  have hL2 : (((L : Nat) : Int) == 0) = false := by simp; omega
  clear hr hr0 hL hnm htl ha hrun hx hmk hg hsum
  go_enter Tryz.func9, Tryz.ntmps9
  go_wp2
  go_loopg [24, 9] L (fun n v24 v9 wr => MO1 ((mainBs, mkS text) :: l) w n v24 v9 wr)
  case atStart => exact ⟨0, rfl, rfl, by have := HL.out; simp; omega, Below.refl _ _⟩
  case round =>
    obtain ⟨i, rfl, rfl, hin, hb⟩ := hrel
    have hin2 : i + gk = L := by have := HL.out; simpa [← this] using hin
    have hs0 := sumT_le ((mainBs, mkS text) :: l) i
    have hs1 := Hsum.out
    rcases Nat.lt_or_ge i L with hlt | hge
    · obtain ⟨p, hp⟩ : ∃ p, ((mainBs, mkS text) :: l)[i]? = some p := ⟨((mainBs, mkS text) :: l)[i]'(by have := HL.out; simp; omega), List.getElem?_eq_getElem _⟩
      have hcg := cellsF_get _ i p hp
      have k0 := Hr.out.cells (g := g) rfl (2 * i) _ hcg.1
      have k1 := Hr.out.cells (g := g) rfl (2 * i + 1) _ hcg.2
      rw [Addr.add_lit, Nat.zero_add, Nat.mul_comm, ← hb.cell (p := ⟨g, i * 2, none⟩) hgl] at k0
      rw [Addr.add_lit, Nat.zero_add, Nat.mul_comm, ← hb.cell (p := ⟨g, i * 2 + 1, none⟩) hgl] at k1
      have hsu := sumT_succ _ i p hp
      have hs2 := sumT_le ((mainBs, mkS text) :: l) (i + 1)
      obtain ⟨M, hM⟩ : ∃ M, M = 1000 + 1000 * sumT (List.take i ((mainBs, mkS text) :: l)) := ⟨_, rfl⟩
      rw [← hM]
      obtain ⟨q, hq⟩ : ∃ q, q = p.2.size := ⟨_, rfl⟩
      have hM2 : M + 1000 * q = 1000 + 1000 * sumT (List.take (i + 1) ((mainBs, mkS text) :: l)) := by omega
      have hMb : M + 1000 * q < 1000000000 := by omega
      have hq2 : (p.2.size : Int) = (q : Int) := by omega
      have hlt2 : (i : Int) < (L : Int) := by omega
      have hb2 : Below w.heap.size w (wr.alloc (.cells #[.string (mkS p.1), .string p.2] 36)) := hb.alloc hb.size _
      have Hb := Lib.hid hb2
      have HM := Lib.hid hM2
      have Hin := Lib.hid hin
      have hgk : gk - 1 < gk := by omega
      have hin' : i + 1 + (gk - 1) = ((mainBs, mkS text) :: l).length := by omega
      clear hb hb2 hM2 hin hin2 hs0 hs1 hs2 hsu hM hp hcg hq
      go_wp2
      go_roundg (gk - 1)
      case measure => exact hgk
      case rel => exact ⟨i + 1, by go_num, by rw [← HM.out]; go_num, hin', Hb.out⟩
    · have e : i = L := by omega
      have hlt2 : ¬ (i : Int) < (L : Int) := by omega
      have hc0 : wr.cell? ⟨g, 0, none⟩ = some (.string mainName) := (hb.cell (p := ⟨g, 0, none⟩) hgl).trans k0
      have hc1 : wr.cell? ⟨g, 1, none⟩ = some (.string (mkS text)) := (hb.cell (p := ⟨g, 1, none⟩) hgl).trans k1
      obtain ⟨M, hM⟩ : ∃ M, M = 1000 + 1000 * sumT (List.take i ((mainBs, mkS text) :: l)) := ⟨_, rfl⟩
      rw [← hM]
      have hM1 : 1000 ≤ M := by omega
      have hM2 : M < 1000000000 := by omega
      have hFw : Files wr g cap ((mainBs, mkS text) :: l) := ownsRow_only Hr.out (fun k hk => by cases hk; exact hb.block _ hgl)
      have HF := Lib.hid hFw
      have Hb := Lib.hid hb
      have hgw : g < wr.heap.size := Nat.lt_of_lt_of_le hgl hb.size
      have hlt0 : (0 : Int) < (L : Int) := by omega
      clear hb hFw hin hin2 hs0 hs1 hM e k0 k1
      have htab : ∀ k, Calls Tryz.prog 17 #[.slice (some ⟨g, 0, none⟩) L cap] (wr.drewN k) (TabQ ((mainBs, mkS text) :: l) (wr.drewN k)) := fun k => by
        have h := tableOf_any (w := wr.drewN k) (l := (mainBs, mkS text) :: l) (g := g) (cap := cap) (ownsRow_only HF.out (fun _ _ => rfl)) (fun p hp => by
          rcases List.mem_cons.1 hp with e | hp
          · rw [e]; exact (by decide : mainBs.length ≤ 1000000)
          · exact Hnm.out p hp) (by simp; omega)
        rwa [show ((mainBs, mkS text) :: l).length = L from HL.out.symm] at h
      have Htab := Lib.hid htab
      have hlt00 : 0 < L := by omega
      clear htab
      go_wp2_with fail
      go_region_held3 (fun w' => w'.cell? ⟨g, 0, none⟩ = some (.string mainName)) (first | exact hc0 | assumption)
        (first
          | (go_at_call 17; refine (Htab.out _).mono ?_; rintro e w1 ⟨fb, rfl, hfm, hfb, hbel⟩; have hd0 : w1.cell? ⟨g, 0, none⟩ = some (.string mainName) := (hbel.cell (p := ⟨g, 0, none⟩) hgw).trans hc0; have HBel : Hid (Below wr.heap.size wr w1) := Lib.hid ⟨hbel.os, hbel.tape, hbel.output, hbel.size, hbel.block⟩; have HFM := Lib.hid hfm; clear hfm hfb hbel)
          | (go_at_call 16; refine (newInput_any (B := w.heap.size) (bl := false) (inc := []) (F := tab ((mainBs, mkS text) :: l) (fun _ => none)) HFM.out ⟨rfl, .inl ⟨rfl, rfl⟩⟩ (Nat.le_trans Hb.out.size HBel.out.size) (by decide)).mono ?_; rintro e w2 ⟨ib, mb, rfl, hheld, hbel2, hle⟩; have hgw1 : g < w1.heap.size := Nat.lt_of_lt_of_le hgw HBel.out.size; have hd1 : w2.cell? ⟨g, 0, none⟩ = some (.string mainName) := (hbel2.cell (p := ⟨g, 0, none⟩) hgw1).trans hd0; have hd2 : w2.cell? ⟨g, 1, none⟩ = some (.string (mkS text)) := (hbel2.cell (p := ⟨g, 1, none⟩) hgw1).trans ((HBel.out.cell (p := ⟨g, 1, none⟩) hgw).trans hc1); have HBel2 := Lib.hid hbel2; have HHeld := Lib.hid hheld; have Hle := Lib.hid hle; clear hbel2 hheld hle))
      clear Htab HFM HF hc0 hc1 hd0
      obtain ⟨q, hq⟩ : ∃ q, q = text.length := ⟨_, rfl⟩
      have hqs : q < 900000 := by
        have h1 := Hsum.out
        have h2 := mkS_size text
        simp only [sumT, List.map_cons, List.sum_cons] at h1
        omega
      have hqm : (mkS text).size = q := by rw [mkS_size, hq]
      have hBel3 : Below w.heap.size w w2 := (Hb.out.trans ⟨HBel.out.os, HBel.out.tape, HBel.out.output, HBel.out.size, fun k hk => HBel.out.block k (Nat.lt_of_lt_of_le hk Hb.out.size)⟩).trans ⟨HBel2.out.os, HBel2.out.tape, HBel2.out.output, HBel2.out.size, fun k hk => HBel2.out.block k (Nat.lt_of_lt_of_le hk (Nat.le_trans Hb.out.size HBel.out.size))⟩
      have hgw2 : g < w2.heap.size := Nat.lt_of_lt_of_le hgw1 HBel2.out.size
      have hk : ∀ k o, ((w2.drewN k).alloc o).cell? ⟨g, 0, none⟩ = some (.string mainName) ∧ ((w2.drewN k).alloc o).cell? ⟨g, 1, none⟩ = some (.string (mkS text)) := fun k o => by
        have hb : Below w2.heap.size w2 ((w2.drewN k).alloc o) := (below_drewN (Below.refl _ _) k).alloc (Nat.le_refl _) _
        exact ⟨(hb.cell (p := ⟨g, 0, none⟩) hgw2).trans hd1, (hb.cell (p := ⟨g, 1, none⟩) hgw2).trans hd2⟩
      have htok : ∀ k, Calls Tryz.prog 19 #[.string mainName, .iface 44 (.pointer (some ⟨w2.heap.size, 0, none⟩))] ((w2.drewN k).alloc (.cells #[.string (mkS text), .int .i64 q] 46)) (NewTQ w.heap.size w2.heap.size (.iface 44 (.pointer (some ⟨w2.heap.size, 0, none⟩))) mainName text ((w2.drewN k).alloc (.cells #[.string (mkS text), .int .i64 q] 46))) := fun k =>
        newTok_any (B := w.heap.size) (by have := hBel3.size; simp; omega) ⟨hBel3.size, .inl ⟨rfl, _, q, Blk.lit (w2.drewN k) _ _, rfl, rfl, by omega, by omega⟩⟩ (by simp) Ha.out (by omega)
      have HK := Lib.hid hk
      have Htok := Lib.hid htok
      have HBel3 := Lib.hid hBel3
      have Hq := Lib.hid hq
      clear hk htok hBel3 hq
      go_wp2_with fail
      go_region_held3 (fun w' => w'.cell? ⟨g, 0, none⟩ = some (.string mainName) ∧ w'.cell? ⟨g, 1, none⟩ = some (.string (mkS text))) (first | exact ⟨hd1, hd2⟩ | exact HK.out _ _ | assumption)
        (first
          | (go_at_call 19; refine (Htok.out _).mono ?_; rintro e w3 ⟨tz, sb, bb, rfl, hz, hpb, h1, h2, h3, hbel4⟩; have hb5 : Below w2.heap.size w2 w3 := ((below_drewN (Below.refl _ _) _).alloc (Nat.le_refl _) _).trans (hbel4.mono (by simp)); have hw3 : w3.cell? ⟨g, 0, none⟩ = some (.string mainName) ∧ w3.cell? ⟨g, 1, none⟩ = some (.string (mkS text)) := ⟨(hb5.cell (p := ⟨g, 0, none⟩) hgw2).trans hd1, (hb5.cell (p := ⟨g, 1, none⟩) hgw2).trans hd2⟩; have hle1 : w2.heap.size ≤ tz := Nat.le_trans (by simp) h1; have hle2 : w2.heap.size ≤ sb := Nat.le_trans (by simp) h2; have HB5 := Lib.hid hb5; have HZ := Lib.hid hz; have HPB := Lib.hid hpb; have HL1 := Lib.hid hle1; have HL2 := Lib.hid hle2; clear hb5 hz hpb hle1 hle2 h1 h2 h3 hbel4)
          | (go_at_call 18; refine (inPush_tz HHeld.out HB5.out HZ.out HPB.out HL1.out HL2.out (Nat.le_refl _) Htl.out (by have := Hq.out; omega) (by decide)).mono ?_; rintro e w4 hq4; have hb6 : Below w.heap.size w w4 := (HBel3.out.trans (HB5.out.mono HBel3.out.size)).trans (hq4.2.2.below (Nat.le_trans HBel3.out.size HB5.out.size)); have hw4 : w4.cell? ⟨g, 0, none⟩ = some (.string mainName) ∧ w4.cell? ⟨g, 1, none⟩ = some (.string (mkS text)) := ⟨(((HBel3.out.trans (HB5.out.mono HBel3.out.size)).trans (hq4.2.2.below (Nat.le_trans HBel3.out.size HB5.out.size))).cell (p := ⟨g, 0, none⟩) hgl).trans K0.out, (((HBel3.out.trans (HB5.out.mono HBel3.out.size)).trans (hq4.2.2.below (Nat.le_trans HBel3.out.size HB5.out.size))).cell (p := ⟨g, 1, none⟩) hgl).trans K1.out⟩; have HB6 := Lib.hid hb6; have Hheld4 := Lib.hid hq4.2.1; obtain ⟨rfl, _⟩ := hq4; clear hb6))
      clear hw3 hw4 HZ HPB HL1 HL2 Htok HK HHeld HB5 HBel HBel2 Hle hd1 hd2
      have hra := readAll_ok (n := n) (most := M) (s' := s') Hheld4.out Hrun.out (by omega) hM2 rfl (Hg.out.only (Only.ofBelow HB6.out) (fun k hk e => by omega)) hB
      have Hra := Lib.hid hra
      clear hra
      go_wp2_with fail
      refine Hra.out.mono ?_
      rintro e w5 ⟨rfl, hm5, hs5⟩
      have hzz := zzMacro_some hm5 Hx.out hxl
      have hb5 : Below w.heap.size w w5 := HB6.out.trans (hs5.below HB6.out.size)
      have Hzz := Lib.hid hzz
      have HB7 := Lib.hid hb5
      clear Hra hm5 hs5 hzz hb5
      go_wp2_with fail
      refine Hzz.out.mono ?_
      rintro e w6 ⟨aa, al, ac, ta, tl, tc, k6, rfl, hA, hT, rfl⟩
      have HA := Lib.hid hA
      have HT := Lib.hid hT
      clear hA hT Hzz
      go_wp2_with fail
      obtain ⟨tn, htn⟩ : ∃ tn, tn = m.toks.length := ⟨_, rfl⟩
      have htl : tl = tn := by
        obtain ⟨_, ⟨e, e0⟩ | ⟨_, _, _, e, _⟩⟩ := HT.out
        · cases e; omega
        · cases e; exact htn.symm
      subst htl
      have HTN := Lib.hid htn
      have hb6 := below_drewN HB7.out k6
      have HB8 := Lib.hid hb6
      clear hb6 HB7 htn
      obtain ⟨nb, hnb⟩ : ∃ nb, nb = w5.heap.size := ⟨_, rfl⟩
      rw [← hnb]
      have hnb' : (w5.drewN k6).heap.size = nb := hnb.symm
      clear hnb
      generalize w5.drewN k6 = w6 at HA HT HB8 hnb' ⊢
      have hst : MO2 m.toks w6 tl (.int .i64 0) (.slice (some ⟨nb, 0, none⟩) 0 0) (w6.alloc (.cells #[] 56)) :=
        ⟨0, _, _, rfl, rfl, hnb' ▸ ⟨rfl, .inr ⟨w6.heap.size, 0, _, rfl, Nat.le_refl _, heap_alloc_new w6 _, Nat.le_refl _, by unfold maxLen; omega, rfl, rfl⟩⟩, by have := HTN.out; omega, (Below.refl _ _).alloc (Nat.le_refl _) _⟩
      have Hst := Lib.hid hst
      have HNB := Lib.hid hnb'
      clear hst hnb'
      change Code.wp _ _ _ _ (World.alloc _ _)
      generalize hw7 : w6.alloc (.cells #[] 56) = w7
      rw [hw7] at Hst
      clear hw7
      go_loopg [77, 16] tl (fun n v77 v16 wr => MO2 m.toks w6 n v77 v16 wr)
      case atStart => exact Hst.out
      case round =>
        obtain ⟨i, gg, cc, rfl, rfl, hrow, hin, hbr⟩ := hrel
        have htn := HTN.out
        rcases Nat.lt_or_ge i tl with hlt | hge
        · obtain ⟨t, ht⟩ : ∃ t, m.toks[i]? = some t := ⟨m.toks[i]'(by omega), List.getElem?_eq_getElem _⟩
          obtain ⟨gt, ct, hv, hc1, hc2, hk0, hk1⟩ := HT.out.cell ht
          obtain ⟨rfl, hlv, rfl⟩ : ta = some ⟨gt, 0, none⟩ ∧ tl = m.toks.length ∧ tc = ct := by cases hv; exact ⟨rfl, rfl, rfl⟩
          have hgt : gt < w6.heap.size := (ownBlock_row HT.out gt rfl).2.lt
          rw [← hbr.cell (p := ⟨gt, i * 2, none⟩) hgt] at hk0
          rw [← hbr.cell (p := ⟨gt, i * 2 + 1, none⟩) hgt] at hk1
          have hkb := Hmk.out t (List.mem_of_getElem? ht)
          have e1 : IntKind.i64.wrap t.1 = t.1 := IntWalk.i64_in _ (by omega)
          have hlt2 : (i : Int) < (tl : Int) := by omega
          have hlen2 : tl ≤ tc := by omega
          obtain ⟨wb, hwb⟩ : ∃ wb, wb = wr.alloc (.cells #[.int .i32 t.1, .string (mkS t.2)] 53) := ⟨_, rfl⟩
          obtain ⟨pb, hpb⟩ : ∃ pb, pb = wr.heap.size := ⟨_, rfl⟩
          have hbk := hwb ▸ hpb ▸ Blk.lit wr #[.int .i32 t.1, .string (mkS t.2)] 53
          have c0 : wb.cell? ⟨pb, 0, none⟩ = some (.int .i32 t.1) := hbk.cell (i := 0) (by simp)
          have c1 : wb.cell? ⟨pb, 1, none⟩ = some (.string (mkS t.2)) := hbk.cell (i := 1) (by simp)
          have hpw : wb.heap.size = pb + 1 := by rw [hwb, hpb]; simp
          have hrow2 : wb.ownsRow w6.heap.size 56 2 (.slice (some ⟨gg, 0, none⟩) i cc) i (cellsI (m.toks.take i)) := hwb ▸ hrow.alloc _
          have HROW := Lib.hid hrow2
          have HBR0 := hbr
          have hkeep : ∀ w'', Below wb.heap.size wb w'' → w''.cell? ⟨pb, 0, none⟩ = some (.int .i32 t.1) ∧ w''.cell? ⟨pb, 1, none⟩ = some (.string (mkS t.2)) := fun w'' h =>
            ⟨(h.cell (p := ⟨pb, 0, none⟩) (by show pb < _; omega)).trans c0, (h.cell (p := ⟨pb, 1, none⟩) (by show pb < _; omega)).trans c1⟩
          have hkeep2 := hkeep (((wb.alloc (.cells #[.int .i32 t.1, .string (mkS t.2)] 53)).alloc (.cells #[.int .i64 t.1, .string (mkS t.2)] 56)).drew) ((((Below.refl _ _).alloc (Nat.le_refl _) _).alloc (by simp) _).drew)
          have HKEEP2 := Lib.hid hkeep2
          have hgg := ownBlock_row hrow gg rfl
          have hgb : w6.heap.size ≤ gg := hgg.1
          have hgp : (some pb : Option Nat) ≠ (Value.slice (some ⟨gg, 0, none⟩) i cc).ownBlock := by
            intro e
            have := hgg.2.lt
            simp [Value.ownBlock] at e
            omega
          have HGP := Lib.hid hgp
          clear hgp hgg hkeep2
          have HKEEP := Lib.hid hkeep
          clear hkeep
          obtain ⟨i0, hi0, hz0, hz1, hz2⟩ := info_parts infoIT
          have hnews : ∀ j u, [Value.int .i64 t.1, .string (mkS t.2)][j]? = some u → (((wb.alloc (.cells #[.int .i32 t.1, .string (mkS t.2)] 53)).alloc (.cells #[.int .i64 t.1, .string (mkS t.2)] 56)).drew).cell? (Addr.add ⟨wb.heap.size + 1, 0, none⟩ j) = some u := by
            have h1 := World.news_of_block (w := (wb.alloc (.cells #[.int .i32 t.1, .string (mkS t.2)] 53)).alloc (.cells #[.int .i64 t.1, .string (mkS t.2)] 56)) (cs := #[.int .i64 t.1, .string (mkS t.2)]) (t := 56) (fr := (0, 0)) (heap_alloc_new _ _)
            simpa using h1
          have HNEWS := Lib.hid hnews
          have hbw : w6.heap.size ≤ wb.heap.size := by rw [hwb]; have := HBR0.size; simp; omega
          clear hnews
          have HPW := Lib.hid hpw
          have HT2 := Lib.hid ht
          have HIN := Lib.hid hin
          have HBR := Lib.hid hbr
          have hi1 : i < 1000000 := by omega
          clear hrow hrow2 hbk hpw hv hc1 hc2 ht hin hbr htn hkb hgt hlv
          go_upto_region 18 with (fail)
          rw [← hwb, ← hpb]
          have HWB := Lib.hid hwb
          have HPB := Lib.hid hpb
          clear hwb hpb
          go_region_held3 (fun w' => w'.cell? ⟨pb, 0, none⟩ = some (.int .i32 t.1) ∧ w'.cell? ⟨pb, 1, none⟩ = some (.string (mkS t.2)))
            (first | exact ⟨c0, c1⟩ | exact HKEEP.out _ ((below_drewN (Below.refl _ _) _).alloc (Nat.le_refl _) _) | exact HKEEP.out _ (((below_drewN (Below.refl _ _) _).alloc (Nat.le_refl _) _).alloc (by simp) _) | assumption)
            (first
              | (go_at_call 22; refine zzText_any.mono ?_; rintro e w8 ⟨rfl, rfl⟩)
              | (refine step_append_lies _ (by rfl) _ _ _ (by rfl) w6.heap.size 56 i0 _ 2 24 Tryz.underlying27 hi0 hz0 hz1 hz2 rfl (by omega) (.slice (some ⟨gg, 0, none⟩) i cc) i (cellsI (m.toks.take i)) (by rfl) (((HROW.out.alloc _).alloc _).drew)
                  ⟨wb.heap.size + 1, 0, none⟩ 1 1 [.int .i64 t.1, .string (mkS t.2)] (by rfl) (by rfl) HNEWS.out (by simp [Value.oneCell']) (by omega) (by unfold maxLen; omega) (by omega) (by simp; omega) (wb.heap.size + 2) (by simp) ?_; intro g9 c9 w9 hown9 hgrow9 hat9 hlt9; have hw9 : w9.cell? ⟨pb, 0, none⟩ = some (.int .i32 t.1) ∧ w9.cell? ⟨pb, 1, none⟩ = some (.string (mkS t.2)) := ⟨(hgrow9.cell_far ⟨pb, 0, none⟩ (by have := HPW.out; simp; omega) HGP.out).trans (HKEEP2.out).1, (hgrow9.cell_far ⟨pb, 1, none⟩ (by have := HPW.out; simp; omega) HGP.out).trans (HKEEP2.out).2⟩; have HOWN9 := Lib.hid hown9; have HGROW9 := Lib.hid hgrow9; clear hown9 hgrow9 hat9 hlt9))
          have hb9 : Below w6.heap.size w6 w9 := by
            have h1 : Below w6.heap.size w6 (((wb.alloc (.cells #[.int .i32 t.1, .string (mkS t.2)] 53)).alloc (.cells #[.int .i64 t.1, .string (mkS t.2)] 56)).drew) := by
              rw [HWB.out]
              exact (((HBR.out.alloc HBR.out.size _).alloc (by have := HBR.out.size; simp; omega) _).alloc (by have := HBR.out.size; simp; omega) _).drew
            exact h1.trans ⟨HGROW9.out.os, HGROW9.out.tape, HGROW9.out.output, HGROW9.out.size, fun k hk => HGROW9.out.block k (by simp; omega) (fun e => by simp [Value.ownBlock] at e; omega)⟩
          have hown10 : w9.ownsRow w6.heap.size 56 2 (.slice (some ⟨g9, 0, none⟩) (i + 1) c9) (i + 1) (cellsI (m.toks.take (i + 1))) := by
            have e : m.toks.take (i + 1) = m.toks.take i ++ [t] := by rw [List.take_add_one, HT2.out]; rfl
            rw [e, cellsI_snoc]
            exact HOWN9.out
          have hgk : gk - 1 < gk := by have := HIN.out; have := HTN.out; omega
          have hin' : i + 1 + (gk - 1) = m.toks.length := by have := HIN.out; have := HTN.out; omega
          have HB9 := Lib.hid hb9
          have HOWN10 := Lib.hid hown10
          clear hb9 hown10
          go_wp2
          go_roundg (gk - 1)
          case measure => exact hgk
          case rel => exact ⟨i + 1, g9, c9, by go_num, rfl, HOWN10.out, hin', HB9.out⟩
        · have e : i = m.toks.length := by omega
          have hlt2 : ¬ (i : Int) < (tl : Int) := by omega
          rw [e, List.take_length] at hrow
          have hi2 : i = m.toks.length := e
          have HI3 := Lib.hid hi2
          rw [← hi2] at hrow
          obtain ⟨wz, hwz⟩ : ∃ wz, wz = wr.alloc (.cells #[] 9) := ⟨_, rfl⟩
          obtain ⟨zb, hzb⟩ : ∃ zb, zb = wr.heap.size := ⟨_, rfl⟩
          have hrz : wz.ownsRow zb 9 1 (.slice (some ⟨zb, 0, none⟩) 0 0) 0 [] := by
            rw [hwz, hzb]
            exact ⟨rfl, .inr ⟨wr.heap.size, 0, _, rfl, Nat.le_refl _, heap_alloc_new wr _, Nat.le_refl _, by unfold maxLen; omega, rfl, rfl⟩⟩
          have hbz : Below w6.heap.size w6 wz := hwz ▸ hbr.alloc hbr.size _
          have hzl : w6.heap.size ≤ zb := hzb ▸ hbr.size
          have hzs : zb ≤ wz.heap.size := by rw [hwz, hzb]; simp
          have hrowz : wz.ownsRow w6.heap.size 56 2 (.slice (some ⟨gg, 0, none⟩) i cc) i (cellsI m.toks) := hwz ▸ hrow.alloc _
          have hggz : gg < zb := hzb ▸ (ownBlock_row hrow gg rfl).2.lt
          have hAw : w6.ownsRow 0 9 1 (.slice aa al ac) (m.args.getD []).length (((m.args.getD []).map mkS).map Value.string) := by
            have h := HA.out
            cases hm : m.args with
            | none => rw [hm] at h; have h' : Value.slice aa al ac = .slice none 0 0 := h; rw [h']; exact ⟨rfl, .inl ⟨rfl, rfl⟩⟩
            | some l' => rw [hm] at h; simpa [Strs] using h.2
          have hAz : wz.ownsRow 0 9 1 (.slice aa al ac) (m.args.getD []).length (((m.args.getD []).map mkS).map Value.string) := ownsRow_only hAw (fun k hk => hbz.block k (ownBlock_row hAw k hk).2.lt)
          have HRZ := Lib.hid hrz
          have HAZ := Lib.hid hAz
          have HBZ := Lib.hid hbz
          have HROWZ := Lib.hid hrowz
          clear hrow hbr hAw hAz hrz hbz hrowz hin htn e hi2 hge
          subst hwz
          subst hzb
          go_wp2_with (at_builtin; refine wpList_append_strs rfl _ _ rfl wr.heap.size _ _ rfl rfl 0 (m.args.getD []).length [] _ HRZ.out HAZ.out ?c1 ?c2 ?c3 ?_)
          case c2 => omega
          intro v' w9 hown' hgrow
          obtain ⟨gz, cz, rfl⟩ : ∃ a cap, v' = .slice a (m.args.getD []).length cap := by
            obtain ⟨_, ⟨e, h0⟩ | ⟨g, cap, cur, e, _⟩⟩ := hown'
            · exact ⟨none, 0, by rw [e]; congr 1; omega⟩
            · exact ⟨some ⟨g, 0, none⟩, cap, e⟩
          have hfin : MOQ (m.args.getD []) m.toks w (.returned (.tuple #[.slice gz (m.args.getD []).length cz, .slice (some ⟨gg, 0, none⟩) i cc, .bool true])) w9 := by
            have hg9 : ∀ k, k < wr.heap.size → w9.heap[k]? = (wr.alloc (.cells #[] 9)).heap[k]? := fun k hk => hgrow.block k (by simp; omega) (fun e => by simp [Value.ownBlock] at e; omega)
            have hb9 : Below w6.heap.size w6 w9 := HBZ.out.trans ⟨hgrow.os, hgrow.tape, hgrow.output, hgrow.size, fun k hk => hg9 k (by omega)⟩
            refine ⟨_, _, _, _, _, _, rfl, ?_, ?_, HB8.out.trans ⟨hb9.os, hb9.tape, hb9.output, hb9.size, fun k hk => hb9.block k (by have := HB8.out.size; omega)⟩⟩
            · have h := row_zero hown'
              simpa [Strs] using h
            · have h := row_zero HROWZ.out
              have hi3 := HI3.out
              rw [hi3] at h ⊢
              exact ownsRow_only h (fun k hk => by cases hk; exact hg9 _ hggz)
          have Hfin := Lib.hid hfin
          clear hfin hown' hgrow
          go_wp2
          go_ret3
          exact Hfin.out
end
end Go.Proofs.YthiododffhdooaaGreatDoor
