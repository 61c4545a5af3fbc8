/- The input's Next, NewInput, the table of files, Tokenize. -/
import Derived.Test.YtpoimmpdncickaaGreatDoorN8
import Derived.Deep.Upon
import Derived.OwnWalk
import Derived.Lib.Bytealg
/- The walk of the input's Next. -/
namespace Go.Proofs.YtpoimmpdncickaaGreatDoor
open Go Go.RowKit Lex
set_option linter.unusedVariables false
set_option linter.unusedSimpArgs false

section
variable {w w' : World} {B ib : Nat} {C : Cfg} {s s' : Sg} {ev : Value}

def NLoop (B ib : Nat) (C : Cfg) (k : Int) (s' : Sg) (w : World) (n : Nat) (v4 : Value) (wr : World) : Prop :=
  ∃ s nest, v4 = .int .i64 (nest : Nat) ∧ nest ≤ 99 ∧ Held wr B ib C s ∧ Nx C.wy nest n s k s' ∧ Soft B C.bl w wr

theorem lookup_nil_ne : ∀ u : World, (binOp BinOp.neq 106 (.pointer none) (.pointer none)).run Tryz.prog u = .ok (.bool false) u := fun u => by kernel_rfl

set_option maxRecDepth 100000 in
set_option maxHeartbeats 4000000 in
theorem next_in {n : Nat} {k : Int} (h : Held w B ib C s) (hn : Nx C.wy 0 n s k s') (hg : Glob w ev) (hB : 21 ≤ B) :
    Calls Tryz.prog 34 #[.pointer (some ⟨ib, 0, none⟩)] w (NxQ B ib C k s' w) := by
  have c7 : w.cell? ⟨ib, 7, none⟩ = some (.bool false) := by obtain ⟨L, _, h⟩ := h; exact h.c7
  have H := Lib.hid h
  have Hn := Lib.hid hn
  have Hg := Lib.hid hg
  clear h hn hg
  go_enter Tryz.func34, Tryz.ntmps34
  go_wp2
  go_loopg [4] n (fun n v4 wr => NLoop B ib C k s' w n v4 wr)
  case atStart => exact ⟨s, 0, rfl, by omega, H.out, Hn.out, Soft.refl _ _ _⟩
  case round =>
    clear H Hn c7
    obtain ⟨s1, nest, rfl, hnest, hH, hN, hS⟩ := hrel
    have hg1 := hS.glob Hg.out hB
    obtain ⟨L, hL, hI⟩ := hH
    have hnl : (nest : Int) < 100 := by omega
    cases hN with
    | @tok _ _ dead a rest t ts a1 a2 a3 a4 a5 a6 a7 a8 a9 a10 a11 => as_aux_lemma =>
      rw [a1] at hI
      have Hnx := Lib.hid (inNext hI a2 a3 hg1 hB a4)
      have hl2 : ({ a with cur := t, ts := ts } :: rest : List Ab).length < 500 := by simp at a4 ⊢; omega
      have Htx := Lib.hid (fun (w1 : World) (b : Bool) (h1 : Inp w1 B ib { C with lim := L } ({ a with cur := t, ts := ts } :: rest) s1.mn s1.mac s1.ifs b s1.text) => inText h1 a7 hl2)
      have Hen := Lib.hid (fun (w1 : World) (b : Bool) (h1 : Inp w1 B ib { C with lim := L } ({ a with cur := t, ts := ts } :: rest) s1.mn s1.mac s1.ifs b s1.text) => inEnabled h1 a10)
      rw [a11] at Hen
      have HS := Lib.hid (Soft.refl B C.bl wr)
      have HM := Lib.hid a9
      have b35 : (t.k == 35) = false := by simp [a5]
      have b1 : (t.k == -1) = false := by simp [a6]
      have hfin : ∀ w2 : World, Inp w2 B ib { C with lim := L } ({ a with cur := t, ts := ts } :: rest) s1.mn s1.mac s1.ifs (t.k == 10) s1.text → Soft B C.bl wr w2 → NxQ B ib C t.k { s1 with ab := { a with cur := t, ts := ts } :: rest, bol := t.k == 10, text := t.x } w (.returned (.int .i32 t.k)) (w2.setCell ⟨ib, 6, none⟩ (.string (mkS t.x))) := fun w2 h3 h4 => by
        obtain ⟨h5, h6⟩ := h3.setText t.x
        exact ⟨rfl, ⟨L, by have := h6.size; have := h4.size; omega, h5⟩, hS.trans (h4.trans h6)⟩
      have Hfin := Lib.hid hfin
      clear hI hS hL a1 a2 a3 a4 a5 a6 a7 a9 a10 a11 hl2 hg1 hfin
      obtain ⟨tk, htk⟩ : ∃ tk, tk = t.k := ⟨_, rfl⟩
      rw [← htk] at Hnx b35 b1 HM Hfin ⊢
      have Htk := Lib.hid htk
      clear htk
      cases hid : (tk == -2) with
      | true =>
        have hm := HM.out (by simpa using hid)
        have Hm := Lib.hid hm
        clear hm
        go_wp2_with fail
        refine Hnx.out.mono ?_
        rintro e w1 ⟨rfl, h1, s1'⟩
        have Ht1 := Lib.hid (Htx.out w1 _ h1)
        have S1 := Lib.hid (HS.out.trans s1')
        clear h1 s1'
        go_wp2_with fail
        refine Ht1.out.mono ?_
        rintro e w2 ⟨rfl, h2, s2⟩
        obtain ⟨c5, hlook⟩ := h2.mac_none Hm.out (by omega)
        dsimp only at c5 hlook
        have Hb := Lib.hid (h2.setBol (tk == 10))
        obtain ⟨k3, f3⟩ := h2.c3
        have S2 := Lib.hid (S1.out.trans s2)
        clear h2 s2
        go_wp2_with fail
        refine (Hen.out _ _ Hb.out.1).mono ?_
        rintro e w3 ⟨rfl, m3, rfl⟩
        have Ht3 := Lib.hid (Htx.out _ _ (Hb.out.1.drewN m3))
        have S3 := Lib.hid (S2.out.trans (Hb.out.2.trans ((Soft.refl B C.bl _).drewN m3)))
        clear k3 f3
        go_wp2_with fail
        refine Ht3.out.mono ?_
        rintro e w4 ⟨rfl, h4, s4⟩
        obtain ⟨k6, f6⟩ := h4.c6
        have Hend := Lib.hid (Hfin.out w4 h4 (S3.out.trans s4))
        clear h4 s4
        go_wp2
        go_ret
        exact Hend.out
      | false =>
        go_wp2_with fail
        refine Hnx.out.mono ?_
        rintro e w2 ⟨rfl, h2, s2⟩
        have S1 := HS
        have Hb := Lib.hid (h2.setBol (tk == 10))
        obtain ⟨k3, f3⟩ := h2.c3
        have S2 := Lib.hid (S1.out.trans s2)
        clear h2 s2
        go_wp2_with fail
        refine (Hen.out _ _ Hb.out.1).mono ?_
        rintro e w3 ⟨rfl, m3, rfl⟩
        have Ht3 := Lib.hid (Htx.out _ _ (Hb.out.1.drewN m3))
        have S3 := Lib.hid (S2.out.trans (Hb.out.2.trans ((Soft.refl B C.bl _).drewN m3)))
        clear k3 f3
        go_wp2_with fail
        refine Ht3.out.mono ?_
        rintro e w4 ⟨rfl, h4, s4⟩
        obtain ⟨k6, f6⟩ := h4.c6
        have Hend := Lib.hid (Hfin.out w4 h4 (S3.out.trans s4))
        clear h4 s4
        go_wp2
        go_ret
        exact Hend.out
    | @skip _ nn _ dead a rest t ts _ _ a1 a2 a3 a4 a5 a6 a7 a8 a9 a10 a11 a12 => as_aux_lemma =>
      rw [a1] at hI
      have Hnx := Lib.hid (inNext hI a2 a3 hg1 hB a4)
      have hl2 : ({ a with cur := t, ts := ts } :: rest : List Ab).length < 500 := by simp at a4 ⊢; omega
      have Htx := Lib.hid (fun (w1 : World) (b : Bool) (h1 : Inp w1 B ib { C with lim := L } ({ a with cur := t, ts := ts } :: rest) s1.mn s1.mac s1.ifs b s1.text) => inText h1 a7 hl2)
      have Hen := Lib.hid (fun (w1 : World) (b : Bool) (h1 : Inp w1 B ib { C with lim := L } ({ a with cur := t, ts := ts } :: rest) s1.mn s1.mac s1.ifs b s1.text) => inEnabled h1 a10)
      rw [a11] at Hen
      have HS := Lib.hid (Soft.refl B C.bl wr)
      have HM := Lib.hid a9
      have b35 : (t.k == 35) = false := by simp [a5]
      have b1 : (t.k == -1) = false := by simp [a6]
      have hfin : ∀ w2 : World, Inp w2 B ib { C with lim := L } ({ a with cur := t, ts := ts } :: rest) s1.mn s1.mac s1.ifs (t.k == 10) s1.text → Soft B C.bl wr w2 → NLoop B ib C k s' w nn (.int .i64 (nest : Nat)) w2 := fun w2 h3 h4 =>
        ⟨_, nest, rfl, hnest, ⟨L, by have := h4.size; omega, h3⟩, a12, hS.trans h4⟩
      have Hfin := Lib.hid hfin
      clear hI hS hL a1 a2 a3 a4 a5 a6 a7 a9 a10 a11 a12 hl2 hg1 hfin
      obtain ⟨tk, htk⟩ : ∃ tk, tk = t.k := ⟨_, rfl⟩
      rw [← htk] at Hnx b35 b1 HM Hfin
      clear htk
      cases hid : (tk == -2) with
      | true =>
        have Hm := Lib.hid (HM.out (by simpa using hid))
        go_wp2_with fail
        refine Hnx.out.mono ?_
        rintro e w1 ⟨rfl, h1, s1'⟩
        have Ht1 := Lib.hid (Htx.out w1 _ h1)
        have S1 := Lib.hid (HS.out.trans s1')
        clear h1 s1'
        go_wp2_with fail
        refine Ht1.out.mono ?_
        rintro e w2 ⟨rfl, h2, s2⟩
        obtain ⟨c5, hlook⟩ := h2.mac_none Hm.out (by omega)
        dsimp only at c5 hlook
        have Hb := Lib.hid (h2.setBol (tk == 10))
        obtain ⟨k3, f3⟩ := h2.c3
        have S2 := Lib.hid (S1.out.trans s2)
        clear h2 s2
        go_wp2_with fail
        refine (Hen.out _ _ Hb.out.1).mono ?_
        rintro e w3 ⟨rfl, m3, rfl⟩
        have S3 := Lib.hid (S2.out.trans (Hb.out.2.trans ((Soft.refl B C.bl _).drewN m3)))
        have Hend := Lib.hid (Hfin.out _ (Hb.out.1.drewN m3) S3.out)
        clear k3 f3
        go_wp2
        go_roundg nn
        case measure => simp
        case rel => exact Hend.out
      | false =>
        go_wp2_with fail
        refine Hnx.out.mono ?_
        rintro e w2 ⟨rfl, h2, s2⟩
        have S1 := HS
        have Hb := Lib.hid (h2.setBol (tk == 10))
        obtain ⟨k3, f3⟩ := h2.c3
        have S2 := Lib.hid (S1.out.trans s2)
        clear h2 s2
        go_wp2_with fail
        refine (Hen.out _ _ Hb.out.1).mono ?_
        rintro e w3 ⟨rfl, m3, rfl⟩
        have S3 := Lib.hid (S2.out.trans (Hb.out.2.trans ((Soft.refl B C.bl _).drewN m3)))
        have Hend := Lib.hid (Hfin.out _ (Hb.out.1.drewN m3) S3.out)
        clear k3 f3
        go_wp2
        go_roundg nn
        case measure => simp
        case rel => exact Hend.out
    | @mac _ nn _ dead a rest t ts m _ _ a1 a2 a3 a4 a5 a6 a7 a8 a9 a10 a11 a12 => as_aux_lemma =>
      rw [a1] at hI
      have Hnx := Lib.hid (inNext hI a2 a3 hg1 hB (by omega))
      rw [a5] at Hnx
      have hl2 : ({ a with cur := t, ts := ts } :: rest : List Ab).length < 500 := by simp at a4 ⊢; omega
      have hl3 : ({ a with cur := t, ts := ts } :: rest : List Ab).length ≤ 100 := by simp at a4 ⊢; omega
      have Htx := Lib.hid (fun (w1 : World) (b : Bool) (h1 : Inp w1 B ib { C with lim := L } ({ a with cur := t, ts := ts } :: rest) s1.mn s1.mac s1.ifs b s1.text) => inText h1 (by show t.k ≠ 0; rw [a5]; decide) hl2)
      have hfin : ∀ w2 : World, Inp w2 B ib { C with lim := L } (slAb a.nm t.line m.toks :: { a with cur := t, ts := ts } :: rest) s1.mn s1.mac s1.ifs s1.bol s1.text → Soft B C.bl wr w2 → NLoop B ib C k s' w nn (.int .i64 ((nest + 1 : Nat) : Int)) w2 := fun w2 h3 h4 =>
        ⟨_, nest + 1, rfl, by omega, ⟨L, by have := h4.size; omega, h3⟩, a12, hS.trans h4⟩
      have Hfin := Lib.hid hfin
      have Hinv := Lib.hid (fun (w1 : World) (b : Nat) (h1 : Inp w1 B ib { C with lim := L } ({ a with cur := t, ts := ts } :: rest) s1.mn s1.mac s1.ifs s1.bol s1.text) (hm : MacAt w1 L b t.x m) => invoke_plain (C := { C with lim := L }) h1 hm a8 hl3 a9 a10)
      have HM := Lib.hid a7
      clear hI hS hL a1 a2 a3 a4 a5 a7 a8 a9 a10 a12 hl2 hl3 hg1 hfin
      go_wp2_with fail
      refine Hnx.out.mono ?_
      rintro e w1 ⟨rfl, h1, s1'⟩
      have Ht1 := Lib.hid (Htx.out w1 _ h1)
      have S1 := Lib.hid s1'
      clear h1 s1'
      go_wp2_with fail
      refine Ht1.out.mono ?_
      rintro e w2 ⟨rfl, h2, s2⟩
      obtain ⟨b, c5, hlook, hma⟩ := h2.mac_some HM.out (by omega)
      dsimp only at c5 hlook
      have Hi2 := Lib.hid (Hinv.out w2 b h2 hma)
      have S2 := Lib.hid (S1.out.trans s2)
      have hnn : ∀ u : World, (binOp BinOp.neq 106 (.pointer (some ⟨b, 0, none⟩)) (.pointer none)).run Tryz.prog u = .ok (.bool true) u := fun u => by kernel_rfl
      clear h2 s2 hma
      go_wp2_with fail
      refine Hi2.out.mono ?_
      rintro e w3 ⟨rfl, h3, s3⟩
      have Hend := Lib.hid (Hfin.out w3 h3 (S2.out.trans s3))
      clear h3 s3
      have en : IntKind.i64.wrap ((nest : Int) + 1) = (nest : Int) + 1 := IntWalk.i64_in _ (by omega)
      go_wp2
      go_roundg nn
      case measure => simp
      case rel => exact Hend.out
    | @maca _ nn _ dead a rest t op body e ts m p _ _ a1 a2 a3 a4 a5 a6 a7 a8 a9 a10 a11 a12 a13 a14 a15 a16 a17 a18 a19 => as_aux_lemma =>
      rw [a1] at hI
      have Hnx := Lib.hid (inNext hI a2 a3 hg1 hB (by omega))
      rw [a6] at Hnx
      have hl2 : ({ a with cur := t, ts := op :: (body ++ e :: ts) } :: rest : List Ab).length < 500 := by simp at a4 ⊢; omega
      have hl3 : ({ a with cur := t, ts := op :: (body ++ e :: ts) } :: rest : List Ab).length ≤ 100 := by simp at a4 ⊢; omega
      have Htx := Lib.hid (fun (w1 : World) (b : Bool) (h1 : Inp w1 B ib { C with lim := L } ({ a with cur := t, ts := op :: (body ++ e :: ts) } :: rest) s1.mn s1.mac s1.ifs b s1.text) => inText h1 (by show t.k ≠ 0; rw [a6]; decide) hl2)
      have hfin : ∀ w2 : World, Inp w2 B ib { C with lim := L } (slAb a.nm e.line (subK p (body.map Tok.kx) m.toks) :: { a with cur := e, ts := ts } :: rest) s1.mn s1.mac s1.ifs s1.bol s1.text → Soft B C.bl wr w2 → NLoop B ib C k s' w nn (.int .i64 ((nest + 1 : Nat) : Int)) w2 := fun w2 h3 h4 =>
        ⟨_, nest + 1, rfl, by omega, ⟨L, by have := h4.size; omega, h3⟩, a19, hS.trans h4⟩
      have Hfin := Lib.hid hfin
      have Hinv := Lib.hid (fun (w1 : World) (b : Nat) (h1 : Inp w1 B ib { C with lim := L } ({ a with cur := t, ts := op :: (body ++ e :: ts) } :: rest) s1.mn s1.mac s1.ifs s1.bol s1.text) (hm : MacAt w1 L b t.x m) (hL1 : L ≤ w1.heap.size) (hg2 : Glob w1 ev) => invoke_one (C := { C with lim := L }) h1 hm a9 a10 (tz_mem a5) rfl a11 a12 a13 a14 a15 a16 a17 hL1 hg2 hB hl3)
      have HM := Lib.hid a8
      have HL := Lib.hid hL
      have Hg1 := Lib.hid hg1
      clear hI hS hL a1 a2 a3 a4 a5 a6 a8 a9 a10 a11 a12 a13 a14 a15 a16 a17 a19 hl2 hl3 hg1 hfin
      go_wp2_with fail
      refine Hnx.out.mono ?_
      rintro e' w1 ⟨rfl, h1, s1'⟩
      have Ht1 := Lib.hid (Htx.out w1 _ h1)
      have S1 := Lib.hid s1'
      clear h1 s1'
      go_wp2_with fail
      refine Ht1.out.mono ?_
      rintro e' w2 ⟨rfl, h2, s2⟩
      obtain ⟨b, c5, hlook, hma⟩ := h2.mac_some HM.out (by omega)
      dsimp only at c5 hlook
      have S2 := Lib.hid (S1.out.trans s2)
      have Hi2 := Lib.hid (Hinv.out w2 b h2 hma (Nat.le_trans HL.out S2.out.size) (S2.out.glob Hg1.out hB))
      have hnn : ∀ u : World, (binOp BinOp.neq 106 (.pointer (some ⟨b, 0, none⟩)) (.pointer none)).run Tryz.prog u = .ok (.bool true) u := fun u => by kernel_rfl
      clear h2 s2 hma
      go_wp2_with fail
      refine Hi2.out.mono ?_
      rintro e' w3 ⟨rfl, h3, s3⟩
      have Hend := Lib.hid (Hfin.out w3 h3 (S2.out.trans s3))
      clear h3 s3
      have en : IntKind.i64.wrap ((nest : Int) + 1) = (nest : Int) + 1 := IntWalk.i64_in _ (by omega)
      go_wp2
      go_roundg nn
      case measure => simp
      case rel => exact Hend.out
    | @hash _ _ dead a rest t ts b s2 a1 a2 a3 a4 a5 a6 a7 => as_aux_lemma =>
      rw [a1] at hI
      have Hnx := Lib.hid (inNext hI a2 a3 hg1 hB a4)
      rw [a5, a6] at Hnx
      have Hh := Lib.hid (fun (w1 : World) (h1 : Inp w1 B ib { C with lim := L } ({ a with cur := t, ts := ts } :: rest) s1.mn s1.mac s1.ifs true s1.text) (hl : L ≤ w1.heap.size) (hg : Glob w1 ev) => hash_any (C := C) (s := { s1 with ab := { a with cur := t, ts := ts } :: rest }) ⟨L, hl, by rw [a6]; exact h1⟩ a7 hg hB)
      have HS := Lib.hid hS
      have HL := Lib.hid hL
      clear hI hS hL a1 a2 a3 a4 a5 a6 a7 hg1
      go_wp2_with fail
      refine Hnx.out.mono ?_
      rintro e w1 ⟨rfl, h1, s1'⟩
      have Hh1 := Lib.hid (Hh.out w1 h1 (Nat.le_trans HL.out s1'.size) ((HS.out.trans s1').glob Hg.out hB))
      have S1 := Lib.hid (HS.out.trans s1')
      have c3 := h1.c3.1
      clear h1 s1'
      go_wp2_with fail
      refine Hh1.out.mono ?_
      rintro e w2 ⟨rfl, ⟨L2, hL2, h2⟩, s2'⟩
      obtain ⟨k3, f3⟩ := h2.c3
      obtain ⟨k6, f6⟩ := h2.c6
      have Hend : Hid (NxQ B ib C 35 { s2 with bol := b, text := [35] } w (.returned (.int .i32 35)) ((w2.setCell ⟨ib, 3, none⟩ (.bool b)).setCell ⟨ib, 6, none⟩ (.string (mkS [35])))) := Lib.hid (by
        obtain ⟨h3, s3⟩ := h2.setBol b
        obtain ⟨h4, s4⟩ := h3.setText [35]
        exact ⟨rfl, ⟨L2, by have := s3.size; have := s4.size; omega, h4⟩, S1.out.trans (s2'.trans (s3.trans s4))⟩)
      clear h2 s2' c3
      go_wp2
      go_ret
      exact Hend.out
end
/-- A tokenizer at its start, told without memory. -/
def tzAb (nm : ByteArray) (ts : List Tok) : Ab := ⟨true, nm, ⟨0, [], 1, 1⟩, ts⟩

/-- n tokens are told, then the end. -/
inductive Run (y : Wy) : Nat → Sg → Sg → Prop
  | done {s dead a} : s.ab = dead ++ [a] → (∀ d ∈ dead, d.ts = []) → a.ts = [] → a.istz = true → s.ifs = [] → (dead ++ [a]).length < 500 → Run y 0 s s
  | step {n m s k s1 s'} : Nx y 0 m s k s1 → k ≠ -1 → -1000000 ≤ k → k < 1000000 → Run y n s1 s' → Run y (n + 1) s s'

/-- A token that is told: its kind, its text, its file, its line. -/
structure Fd where
  k : Int
  x : Bs
  nm : ByteArray
  line : Nat
def Fd.kx (f : Fd) : Int × Bs := (f.k, f.x)

/-- Tokens are told, one behind the other. -/
inductive StT (y : Wy) : List Fd → Sg → Sg → Prop
  | nil {s} : StT y [] s s
  | cons {m s k s1 a rest l s'} : Nx y 0 m s k s1 → k ≠ -1 → -1000000 ≤ k → k < 1000000 → s1.ab = a :: rest → (a :: rest).length < 500 → StT y l s1 s' → StT y (⟨k, s1.text, a.nm, a.cur.line⟩ :: l) s s'

theorem StT.app {y : Wy} {l1 l2 : List Fd} {s s1 s2 : Sg} (h : StT y l1 s s1) (k : StT y l2 s1 s2) : StT y (l1 ++ l2) s s2 := by
  induction h with
  | nil => exact k
  | cons a b c d e f _ ih => exact .cons a b c d e f (ih k)

/-- The input stands in a file nm (behind it: rest), R ahead of it; its macros, its conditions, how many macros have been made. -/
def At (s : Sg) (nm : ByteArray) (rest : List Ab) (R : List (Int × Bs)) (mac : Bs → Option Mc) (ifs : List Bool) (mn : Nat) : Prop :=
  ∃ dead a, s.ab = dead ++ a :: rest ∧ dead.length + rest.length ≤ 92 ∧ (∀ d ∈ dead, d.ts = []) ∧ a.istz = true ∧ a.nm = nm ∧ a.ts.map Tok.kx = R ∧ s.mac = mac ∧ s.ifs = ifs ∧ s.mn = mn

theorem kx_cons {T : List Tok} {x : Int × Bs} {r : List (Int × Bs)} (h : T.map Tok.kx = x :: r) : ∃ t T', T = t :: T' ∧ t.k = x.1 ∧ t.x = x.2 ∧ T'.map Tok.kx = r := by
  cases T with
  | nil => cases h
  | cons t T' =>
    simp only [List.map_cons, List.cons.injEq] at h
    exact ⟨t, T', rfl, by rw [← h.1]; rfl, by rw [← h.1]; rfl, h.2⟩
theorem kx_nil {T : List Tok} (h : T.map Tok.kx = []) : T = [] := by cases T with | nil => rfl | cons => cases h

section
variable {w w' : World} {B ib : Nat} {C : Cfg} {s s' : Sg} {ev : Value}

def NxEQ (B ib : Nat) (C : Cfg) (s : Sg) (w : World) (e : Ending) (w' : World) : Prop := e = .returned (.int .i32 (-1)) ∧ (∃ ab', Held w' B ib C { s with ab := ab', bol := false, text := [] }) ∧ Soft B C.bl w w'

theorem Inp.c4_nil {ab : List Ab} {mn : Nat} {mac : Bs → Option Mc} {bol : Bool} {text : Bs} (h : Inp w B ib C ab mn mac [] bol text) : ∃ ad c, w.cell? ⟨ib, 4, none⟩ = some (.slice ad 0 c) := by
  obtain ⟨S, rs, h⟩ := h
  obtain ⟨ad, c, hS⟩ : ∃ ad c, S 4 = .slice ad 0 c := by
    obtain ⟨_, ⟨e, e0⟩ | ⟨g, cap, cur, e, _⟩⟩ := h.env.ifr
    · exact ⟨_, _, e⟩
    · exact ⟨_, _, e⟩
  exact ⟨ad, c, h.stk.blk.cell_eq (by decide) hS⟩

set_option maxRecDepth 100000 in
set_option maxHeartbeats 4000000 in
theorem next_eof {dead : List Ab} {a : Ab} (h : Held w B ib C s) (hab : s.ab = dead ++ [a]) (hd : ∀ d ∈ dead, d.ts = []) (hts : a.ts = []) (htz : a.istz = true) (hifs : s.ifs = []) (hl : (dead ++ [a]).length < 500) (hg : Glob w ev) (hB : 21 ≤ B) :
    Calls Tryz.prog 34 #[.pointer (some ⟨ib, 0, none⟩)] w (NxEQ B ib C s w) := by
  obtain ⟨L, hL, hI⟩ := h
  have c7 := hI.c7
  rw [hab, hifs] at hI
  have Hnx := Lib.hid (inEof hI hd hts htz hg hB hl)
  have Htx := Lib.hid (fun (w1 : World) (b : Bool) (c : Nat) (h1 : Inp w1 B ib { C with lim := L } [{ a with cur := ⟨-1, [], a.cur.line, c⟩, ts := [] }] s.mn s.mac [] b s.text) => inText h1 (by show (-1 : Int) ≠ 0; decide) (by simp))
  have Hen := Lib.hid (fun (w1 : World) (b : Bool) (c : Nat) (h1 : Inp w1 B ib { C with lim := L } [{ a with cur := ⟨-1, [], a.cur.line, c⟩, ts := [] }] s.mn s.mac [] b s.text) => inEnabled h1 (by simp))
  have hfin : ∀ (w2 : World) (c : Nat), Inp w2 B ib { C with lim := L } [{ a with cur := ⟨-1, [], a.cur.line, c⟩, ts := [] }] s.mn s.mac [] false s.text → Soft B C.bl w w2 → NxEQ B ib C s w (.returned (.int .i32 (-1))) (w2.setCell ⟨ib, 6, none⟩ (.string (mkS []))) := fun w2 c h3 h4 => by
    obtain ⟨h5, h6⟩ := h3.setText []
    exact ⟨rfl, ⟨_, L, by have := h6.size; have := h4.size; omega, by rw [hifs]; exact h5⟩, h4.trans h6⟩
  have Hfin := Lib.hid hfin
  clear hI hL hab hd hts htz hifs hl hg hfin
  go_enter Tryz.func34, Tryz.ntmps34
  go_wp2
  refine wp_loop_rounds 1 ?_
  rw [rounds_succ]
  go_wp2_with fail
  refine Hnx.out.mono ?_
  rintro e w1 ⟨c, rfl, h1, s1⟩
  obtain ⟨ad, cc, k4⟩ := h1.c4_nil
  have Hb := Lib.hid (h1.setBol false)
  obtain ⟨k3, f3⟩ := h1.c3
  have S1 := Lib.hid s1
  clear h1 s1 c7
  go_wp2_with fail
  refine (Hen.out _ _ _ Hb.out.1).mono ?_
  rintro e w3 ⟨rfl, m3, rfl⟩
  have Ht3 := Lib.hid (Htx.out _ _ _ (Hb.out.1.drewN m3))
  have S3 := Lib.hid (S1.out.trans (Hb.out.2.trans ((Soft.refl B C.bl _).drewN m3)))
  rw [show onB [] = true from rfl]
  clear k3 f3 k4
  go_wp2_with fail
  refine Ht3.out.mono ?_
  rintro e w4 ⟨rfl, h4, s4⟩
  obtain ⟨k6, f6⟩ := h4.c6
  have Hend := Lib.hid (Hfin.out w4 c h4 (S3.out.trans s4))
  clear h4 s4
  go_wp2
  go_ret
  exact Hend.out
end
def mainBs : Lex.Bs := [109, 97, 105, 110, 46, 115]
def mainName : ByteArray := ⟨#[109, 97, 105, 110, 46, 115]⟩
def dotName : ByteArray := ⟨#[46]⟩

section
variable {w : World}
set_option maxRecDepth 100000 in
set_option maxHeartbeats 1000000 in
theorem lastIndex_main :
    Calls Tryz.prog 77 #[.string mainName, .int .u8 47] w (fun e w' => e = .returned (.int .i64 (-1)) ∧ w' = w) := by
  go_enter Tryz.func77, Tryz.ntmps77
  unfold mainName
  go_wp2
  refine wp_loop_rounds 7 ?_
  iterate 7 (rw [rounds_succ]; go_wp2)
  all_goals go_ret
  all_goals exact ⟨rfl, rfl⟩

set_option maxRecDepth 100000 in
set_option maxHeartbeats 1000000 in
theorem split_main :
    Calls Tryz.prog 58 #[.string mainName] w (fun e w' => e = .returned (.tuple #[.string ⟨#[]⟩, .string mainName]) ∧ ∃ m, w' = w.drewN m) := by
  go_enter Tryz.func58, Tryz.ntmps58
  go_wp2_with fail
  refine lastIndex_main.mono ?_
  rintro e w1 ⟨rfl, rfl⟩
  unfold mainName
  go_wp2
  go_quiet (fail)
  go_wp2
  go_ret2
  exact ⟨rfl, _, rfl⟩

set_option maxRecDepth 100000 in
set_option maxHeartbeats 1000000 in
theorem clean_empty :
    Calls Tryz.prog 59 #[.string ⟨#[]⟩] w (fun e w' => e = .returned (.string dotName) ∧ w' = w) := by
  go_enter Tryz.func59, Tryz.ntmps59
  go_wp2
  go_ret
  exact ⟨rfl, rfl⟩

theorem dir_main :
    Calls Tryz.prog 43 #[.string mainName] w (fun e w' => e = .returned (.string dotName) ∧ ∃ m, w' = w.drewN m) := by
  go_enter Tryz.func43, Tryz.ntmps43
  go_wp2_with fail
  refine split_main.mono ?_
  rintro e w1 ⟨rfl, m, rfl⟩
  go_wp2_with fail
  refine clean_empty.mono ?_
  rintro e w1 ⟨rfl, rfl⟩
  go_wp2
  go_ret
  exact ⟨rfl, _, rfl⟩
end
/-- Files as cells. -/
def cellsF (l : List (Bs × ByteArray)) : List Value := l.flatMap fun t => [.string (mkS t.1), .string t.2]
theorem cellsF_get : ∀ (ts : List (Bs × ByteArray)) (i : Nat) (t : Bs × ByteArray), ts[i]? = some t → (cellsF ts)[2 * i]? = some (.string (mkS t.1)) ∧ (cellsF ts)[2 * i + 1]? = some (.string t.2)
  | [], i, t, h => by simp at h
  | s :: r, 0, t, h => by
    simp at h; subst h
    exact ⟨rfl, rfl⟩
  | s :: r, i + 1, t, h => by
    have := cellsF_get r i t (by simpa using h)
    rw [show 2 * (i + 1) = 2 * i + 2 by omega, show 2 * i + 2 + 1 = 2 * i + 1 + 2 by omega]
    exact this

def tab : List (Bs × ByteArray) → (Bs → Option ByteArray) → Bs → Option ByteArray
  | [], f => f
  | p :: l, f => tab l (fun y => if y = p.1 then some p.2 else f y)
theorem tab_snoc : ∀ (l : List (Bs × ByteArray)) (p : Bs × ByteArray) (f : Bs → Option ByteArray), tab (l ++ [p]) f = fun y => if y = p.1 then some p.2 else tab l f y
  | [], _, _ => rfl
  | q :: l, p, f => tab_snoc l p _

/-- v is a slice of these files. -/
def Files (w : World) (g cap : Nat) (l : List (Bs × ByteArray)) : Prop := w.ownsRow 0 33 2 (.slice (some ⟨g, 0, none⟩) l.length cap) l.length (cellsF l)
def tabV (l : List (Bs × ByteArray)) (x : Bs) : Option Value := (tab l (fun _ => none) x).map Value.string
def TabQ (l : List (Bs × ByteArray)) (w : World) (e : Ending) (w' : World) : Prop := ∃ fb, e = .returned (.map (some fb)) ∧ SMap w' fb l.length (tabV l) ∧ w.heap.size ≤ fb ∧ Below w.heap.size w w'
def TabLoop (fb : Nat) (l : List (Bs × ByteArray)) (w : World) (n : Nat) (v : Value) (wr : World) : Prop :=
  ∃ i, v = .int .i64 (i : Nat) ∧ i + n = l.length ∧ SMap wr fb i (tabV (l.take i)) ∧ Below w.heap.size w wr

section
variable {w : World}
set_option maxRecDepth 100000 in
set_option maxHeartbeats 2000000 in
theorem tableOf_any {g cap : Nat} {l : List (Bs × ByteArray)} (hr : Files w g cap l) (hn : ∀ p ∈ l, p.1.length ≤ 1000000) (hl : l.length < 1000) :
    Calls Tryz.prog 26 #[.slice (some ⟨g, 0, none⟩) l.length cap] w (TabQ l w) := by
  have hmm := @run_makeMap Tryz.prog
  have hb1 : Below w.heap.size w (w.alloc (.map #[] 0)) := (Below.refl _ _).alloc (Nat.le_refl _) _
  have hm1 := SMap.new w
  have hg : g < w.heap.size := by
    have := (ownBlock_row hr g rfl).2.lt
    exact this
  have Hr := Lib.hid hr
  have Hn := Lib.hid hn
  have Hb1 := Lib.hid hb1
  have Hm1 := Lib.hid hm1
  obtain ⟨L, hL⟩ : ∃ L, L = l.length := ⟨_, rfl⟩
  rw [← hL] at hl ⊢
  have HL := Lib.hid hL
  clear hr hb1 hm1 hn hL
  go_enter Tryz.func26, Tryz.ntmps26
  go_wp2
  obtain ⟨fb, hfb⟩ : ∃ fb, fb = w.heap.size := ⟨_, rfl⟩
  generalize hw1 : w.alloc (.map #[] 0) = w1
  rw [hw1] at Hb1 Hm1
  rw [← hfb] at Hm1 ⊢
  have Hfb := Lib.hid hfb
  clear hw1 hmm hfb
  go_loopg [9] L (fun n v9 wr => TabLoop fb l w n v9 wr)
  case atStart => exact ⟨0, rfl, by have := HL.out; omega, Hm1.out, Hb1.out⟩
  case round =>
    obtain ⟨i, rfl, hin, hm, hb⟩ := hrel
    have hL := HL.out
    rcases Nat.lt_or_ge i L with hlt | hge
    · obtain ⟨p, hp⟩ : ∃ p, l[i]? = some p := ⟨l[i]'(by omega), List.getElem?_eq_getElem (by omega)⟩
      have hcg := cellsF_get l i p hp
      have k0 := Hr.out.cells (g := g) rfl (2 * i) _ hcg.1
      have k1 := Hr.out.cells (g := g) rfl (2 * i + 1) _ hcg.2
      rw [Addr.add_lit, Nat.zero_add, Nat.mul_comm, ← hb.cell (p := ⟨g, i * 2, none⟩) hg] at k0
      rw [Addr.add_lit, Nat.zero_add, Nat.mul_comm, ← hb.cell (p := ⟨g, i * 2 + 1, none⟩) hg] at k1
      have hlt2 : (i : Int) < (L : Int) := by omega
      have hlen : L ≤ cap := by
        obtain ⟨_, ⟨e, _⟩ | ⟨g', cap', cur, e, _, _, h1, h2⟩⟩ := Hr.out
        · cases e
        · cases e; omega
      obtain ⟨w2, hup, hm2, ho2⟩ := (hm.of_heap (w' := wr.alloc (.cells #[.string (mkS p.1), .string p.2] 33)) (Below.heap_alloc wr _ _ hm.lt)).update Tryz.underlying48 (by omega) p.1 (Hn.out p (List.mem_of_getElem? hp)) (.string p.2)
      have hb2 : Below w.heap.size w w2 := by
        have h1 : Below w.heap.size w (wr.alloc (.cells #[.string (mkS p.1), .string p.2] 33)) := hb.alloc hb.size _
        have := Hfb.out
        refine h1.trans (ho2.below h1.size (fun k hk e => by omega))
      have hm2' : SMap w2 fb (i + 1) (tabV (l.take (i + 1))) := by
        have e : tabV (l.take (i + 1)) = fun y => if y = p.1 then some (.string p.2) else tabV (l.take i) y := by
          have e1 : l.take (i + 1) = l.take i ++ [p] := by rw [List.take_add_one, hp]; rfl
          funext y
          unfold tabV
          rw [e1, tab_snoc]
          by_cases e : y = p.1 <;> simp [e]
        rw [e]; exact hm2
      have hi1 : IntKind.i64.wrap ((i : Int) + 1) = (i : Int) + 1 := IntWalk.i64_in _ (by omega)
      have hin' : i + 1 + (gk - 1) = l.length := by omega
      have hgk : gk - 1 < gk := by omega
      have Hm := Lib.hid hm2'
      have Hb := Lib.hid hb2
      have Hup := Lib.hid hup
      clear hup hm2 ho2 hm2' hb2
      have Hp := Lib.hid hp
      have Hin := Lib.hid hin
      clear hm hb hp hcg hin Hm1 Hb1 hL
      go_wp2_with fail
      rw [Hup.out]
      go_wp2
      go_roundg (gk - 1)
      case measure => exact hgk
      case rel => exact ⟨i + 1, by go_num, hin', Hm.out, Hb.out⟩
    · have hlt2 : ¬ (i : Int) < (L : Int) := by omega
      have e : i = l.length := by omega
      subst e
      rw [List.take_length] at hm
      have Hfin : Hid (TabQ l w (.returned (.map (some fb))) wr) := Lib.hid ⟨fb, rfl, hm, Nat.le_of_eq Hfb.out.symm, hb⟩
      clear hm hb hin
      go_wp2
      go_ret
      exact Hfin.out
end
theorem infoStr : (Tryz.prog.info? 9).map (fun i => (i.zero, i.size, i.bytes)) = some (some (.string ⟨#[]⟩), 1, 16) := by kernel_rfl

/-- Strings are appended, of a row that may be none. -/
theorem run_append_strs {w : World} {base : Nat} {v x : Value} {n m : Nat} {xs news : List Value} (ty : TypeId) (hv : w.ownsRow base 9 1 v n xs) (hx : w.ownsRow 0 9 1 x m news) (hs : ∀ u ∈ news, ∃ s, u = .string s) (h : n + m < 1000000) (hb : base ≤ w.heap.size) :
    ∃ v' w', (Builtin.append_ #[22, 22] ty #[v, x]).run Tryz.prog w = .ok v' w' ∧ w'.ownsRow base 9 1 v' (n + m) (xs ++ news) ∧ w.grownBy w' v.ownBlock ∧ (∀ k, v'.ownBlock = some k → k < w'.heap.size) := by
  obtain ⟨i0, hi, hz0, hz1, hz2⟩ : ∃ i0, Tryz.prog.info? 9 = some i0 ∧ i0.zero = some (.string ⟨#[]⟩) ∧ i0.size = 1 ∧ i0.bytes = 16 := info_parts infoStr
  have hx' := hx
  obtain ⟨h1, ⟨rfl, h0⟩ | ⟨g, cap, cur, rfl, a, b, c, d, e, f⟩⟩ := hx
  · subst h0
    have hn : news = [] := by
      cases news with
      | nil => rfl
      | cons => simp at h1
    subst hn
    obtain ⟨vb, vl, vc, rfl, hle⟩ : ∃ vb vl vc, v = .slice vb vl vc ∧ vl ≤ vc := by
      obtain ⟨_, ⟨e, _⟩ | ⟨g, cap, cur, e, _, _, h, _⟩⟩ := hv
      · exact ⟨_, _, _, e, Nat.le_refl _⟩
      · exact ⟨_, _, _, e, h⟩
    refine ⟨.slice vb vl vc, w, run_append_nothing w _ _ ty _ i0 Tryz.underlying22 hi vb vl vc hle (.slice none 0 0) ?_, by simpa using hv, ?_, fun k hk => (ownBlock_row hv k hk).2.lt⟩
    · exact ⟨.inl ⟨_, Tryz.underlying22⟩, fun _ => by simp [Builtin.lenOf], by simp [Builtin.firstCells, hz1], by simp [Builtin.firstCells, hz1], by simp, by simp⟩
    · exact ⟨rfl, rfl, rfl, Nat.le_refl _, fun _ _ _ => rfl⟩
  · obtain ⟨v', w', hr, h2, h3, h4, h5⟩ := run_append_own_at (P := Tryz.prog) w base 22 ty 9 i0 (.string ⟨#[]⟩) 1 16 Tryz.underlying22 hi hz0 hz1 hz2 rfl (by decide) v n xs hv ⟨g, 0, none⟩ m cap news (by simpa using h1) (fun j u hj => by
      have := hx'.cells (g := g) rfl j u hj
      exact this) (fun u hu => by obtain ⟨s, rfl⟩ := hs u hu; rfl) (by unfold maxLen; omega) (by omega) hb
    exact ⟨v', w', hr, h2, h3, fun k hk => (ownBlock_row h2 k hk).2.lt⟩

theorem wpList_append_strs {w : World} {ops : Array Oper} {rest : List Oper} {o : Oper} {a : Act} {Q : Exit → Act → World → Prop} (hgd : o.guard = none) (s x : Operand)
    (ho : o.op = .call { callee := .builtin .append, args := #[s, x], argTypes := #[22, 22] }) (base : Nat) (v xv : Value) (hs : a.eval s = v) (hx : a.eval x = xv) (n m : Nat) (xs news : List Value)
    (hv : w.ownsRow base 9 1 v n xs) (hxr : w.ownsRow 0 9 1 xv m news) (hst : ∀ u ∈ news, ∃ s, u = .string s) (hl : n + m < 1000000) (hb : base ≤ w.heap.size)
    (h : ∀ v' w', w'.ownsRow base 9 1 v' (n + m) (xs ++ news) → w.grownBy w' v.ownBlock → wpList Tryz.prog ops Q rest (a.put o.dst v') w') : wpList Tryz.prog ops Q (o :: rest) a w := by
  refine wpList_plain hgd fun K hK => ?_
  obtain ⟨v', w', hr, h2, h3, h4⟩ := run_append_strs o.type hv hxr hst hl hb
  unfold Oper.wp execOp
  simp only [ho, resolve, invoke, builtin, Sem.run_bind, Sem.run_pure, Result.andThen_ok, List.map_toArray, List.map_cons, List.map_nil, hs, hx, hr]
  exact hK _ _ (h v' w' h2 h3)

theorem row_zero {w : World} {base : Nat} {e : TypeId} {size n : Nat} {v : Value} {xs : List Value} (h : w.ownsRow base e size v n xs) : w.ownsRow 0 e size v n xs := by
  obtain ⟨h1, h2⟩ := h
  refine ⟨h1, h2.imp id ?_⟩
  rintro ⟨g, cap, cur, e, _, r⟩
  exact ⟨g, cap, cur, e, Nat.zero_le _, r⟩

theorem row_one (w : World) (T : TypeId) (x : Value) : (w.alloc (.cells #[x] T)).ownsRow w.heap.size T 1 (.slice (some ⟨w.heap.size, 0, none⟩) 1 1) 1 [x] :=
  ⟨rfl, .inr ⟨w.heap.size, 1, _, rfl, Nat.le_refl _, heap_alloc_new w _, Nat.le_refl _, by unfold maxLen; omega, rfl, rfl⟩⟩

section
variable {w : World}

def PreQ (w : World) (e : Ending) (w' : World) : Prop := ∃ mb, e = .returned (.map (some mb)) ∧ SMap w' mb 0 (fun _ => none) ∧ mb = w.heap.size ∧ Below w.heap.size w w'

set_option maxRecDepth 100000 in
set_option maxHeartbeats 2000000 in
theorem predefine_nil {da : Option Addr} {dc : Nat} :
    Calls Tryz.prog 44 #[.slice da 0 dc] w (PreQ w) := by
  have hmm := @run_makeMap Tryz.prog
  have hb1 : Below w.heap.size w (w.alloc (.map #[] 0)) := (Below.refl _ _).alloc (Nat.le_refl _) _
  have hm1 := SMap.new w
  have Hfin : Hid (PreQ w (.returned (.map (some w.heap.size))) (w.alloc (.map #[] 0))) := Lib.hid ⟨_, rfl, hm1, rfl, hb1⟩
  clear hb1 hm1
  go_enter Tryz.func44, Tryz.ntmps44
  go_wp2
  refine wp_loop_rounds 1 ?_
  iterate 1 (rw [rounds_succ]; go_wp2)
  go_ret
  exact Hfin.out

/-- What predefine leaves. -/
def PreG (mn : Nat) (mac : Bs → Option Mc) (w : World) (e : Ending) (w' : World) : Prop :=
  ∃ mb, e = .returned (.map (some mb)) ∧ Macs w' w'.heap.size mb mn mac ∧ w.heap.size ≤ mb ∧ Below w.heap.size w w'
theorem Macs.below {w w' : World} {L L' b n : Nat} {mac : Bs → Option Mc} (h : Macs w L b n mac) (hb : Below w.heap.size w w') (hL : L ≤ L') : Macs w' L' b n mac := by
  obtain ⟨f, m1, m2, m3⟩ := h
  refine ⟨f, m1.of_heap (hb.block _ m1.lt), m2, fun x m hx => ?_⟩
  obtain ⟨b', hb', hm⟩ := m3 x m hx
  exact ⟨b', hb', (hm.mono hL).only (Only.ofBelow hb) (fun k e hk => absurd hk (by omega))⟩
theorem predefine_none {da : Option Addr} {dc : Nat} : Calls Tryz.prog 44 #[.slice da 0 dc] w (PreG 0 (fun _ => none) w) := by
  refine predefine_nil.mono ?_
  rintro e w' ⟨mb, rfl, hm, hmb, hb⟩
  exact ⟨mb, rfl, ⟨fun _ => none, hm, fun _ _ => rfl, fun x m h => by cases h⟩, by omega, hb⟩

def NewIG (B fb : Nat) (bl : Bool) (F : Bs → Option ByteArray) (inc : List ByteArray) (mn : Nat) (mac : Bs → Option Mc) (w : World) (e : Ending) (w' : World) : Prop :=
  ∃ ib mb, e = .returned (.pointer (some ⟨ib, 0, none⟩)) ∧ Held w' B ib ⟨0, bl, mb, fb, F, dotName :: inc⟩ ⟨[], mn, mac, [], true, []⟩ ∧ Below w.heap.size w w' ∧ w.heap.size ≤ ib
def NewIQ (B fb : Nat) (bl : Bool) (F : Bs → Option ByteArray) (inc : List ByteArray) (w : World) (e : Ending) (w' : World) : Prop := NewIG B fb bl F inc 0 (fun _ => none) w e w'

set_option maxRecDepth 100000 in
set_option maxHeartbeats 2000000 in
theorem newInput_gen {B fb n il ic dl dc mn : Nat} {ia da : Option Addr} {bl : Bool} {F : Bs → Option ByteArray} {inc : List ByteArray} {mac : Bs → Option Mc} (hf : SMap w fb n (fun x => (F x).map Value.string)) (hi : Strs w (.slice ia il ic) inc) (hB : B ≤ w.heap.size) (hl : inc.length < 1000)
    (hpre : ∀ w1, Below w.heap.size w w1 → Calls Tryz.prog 44 #[.slice da dl dc] w1 (PreG mn mac w1)) :
    Calls Tryz.prog 30 #[.string mainName, .map (some fb), .slice ia il ic, .slice da dl dc] w (NewIG B fb bl F inc mn mac w) := by
  have Hf := Lib.hid hf
  have Hi := Lib.hid hi
  have Hpre := Lib.hid hpre
  clear hf hi hpre
  go_enter Tryz.func30, Tryz.ntmps30
  go_wp2_with fail
  refine dir_main.mono ?_
  rintro e w1 ⟨rfl, m, rfl⟩
  have hrow1 := row_one (w.drewN m) 9 (.string dotName)
  have hi2 : Strs ((w.drewN m).alloc (.cells #[.string dotName] 9)) (.slice ia il ic) inc := ownsRow_only Hi.out (fun k hk => Below.heap_alloc (w.drewN m) _ k (ownBlock_row Hi.out k hk).2.lt)
  have Hrow1 := Lib.hid hrow1
  have Hi2 := Lib.hid hi2
  clear hrow1 hi2
  go_wp2_with (at_builtin; refine wpList_append_strs rfl _ _ rfl w.heap.size _ _ rfl rfl 1 inc.length _ _ Hrow1.out Hi2.out ?c1 ?c2 ?c3 ?_)
  case c1 => intro u hu; obtain ⟨s, _, rfl⟩ := List.mem_map.1 hu; exact ⟨s, rfl⟩
  case c2 => omega
  case c3 => simp
  intro v' w1 hown' hgrow
  obtain ⟨gi, ci, rfl⟩ : ∃ g cap, v' = .slice (some ⟨g, 0, none⟩) (1 + inc.length) cap := by
    obtain ⟨_, ⟨_, h0⟩ | ⟨g, cap, cur, e, _⟩⟩ := hown'
    · omega
    · exact ⟨g, cap, e⟩
  have hbel1 : Below w.heap.size w w1 := by
    have h0 : Below w.heap.size w (w.drewN m) := ⟨rfl, rfl, rfl, Nat.le_refl _, fun _ _ => rfl⟩
    have h1 : Below w.heap.size w ((w.drewN m).alloc (.cells #[.string dotName] 9)) := h0.alloc (Nat.le_refl _) _
    exact h1.trans ⟨hgrow.os, hgrow.tape, hgrow.output, hgrow.size, fun k hk => hgrow.block k (by simp; omega) (fun e => by simp [Value.ownBlock] at e; omega)⟩
  have Hown := Lib.hid hown'
  have Hbel1 := Lib.hid hbel1
  have Hpr := Lib.hid (Hpre.out w1 hbel1)
  clear hown' hgrow hbel1 Hrow1 Hi2 Hi Hpre
  go_wp2_with fail
  refine Hpr.out.mono ?_
  rintro e w2 ⟨mb, rfl, hm, hmb, hb2⟩
  have Hmb := Lib.hid hmb
  clear hmb
  have hfin : NewIG B fb bl F inc mn mac w (.returned (.pointer (some ⟨w2.heap.size, 0, none⟩))) (w2.alloc (.cells #[.slice none 0 0, .slice (some ⟨gi, 0, none⟩) (1 + inc.length) ci, .map (some fb), .bool true, .slice none 0 0, .map (some mb), .string ⟨#[]⟩, .bool false, .int .i32 0, .string ⟨#[]⟩] 73)) := by
    have hB1 := Blk.lit w2 #[.slice none 0 0, .slice (some ⟨gi, 0, none⟩) (1 + inc.length) ci, .map (some fb), .bool true, .slice none 0 0, .map (some mb), .string ⟨#[]⟩, .bool false, .int .i32 0, .string ⟨#[]⟩] 73
    have hs2 := hb2.size
    have hs1 := Hbel1.out.size
    have hfl := Hf.out.lt
    have hbel2 : Below w.heap.size w w2 := Hbel1.out.trans ⟨hb2.os, hb2.tape, hb2.output, hb2.size, fun k hk => hb2.block k (by omega)⟩
    have hbel3 := hbel2.alloc hbel2.size (.cells #[.slice none 0 0, .slice (some ⟨gi, 0, none⟩) (1 + inc.length) ci, .map (some fb), .bool true, .slice none 0 0, .map (some mb), .string ⟨#[]⟩, .bool false, .int .i32 0, .string ⟨#[]⟩] 73)
    have hgi := (ownBlock_row Hown.out gi rfl).2.lt
    have hmb := Hmb.out
    have hstr : Strs (w2.alloc (.cells #[.slice none 0 0, .slice (some ⟨gi, 0, none⟩) (1 + inc.length) ci, .map (some fb), .bool true, .slice none 0 0, .map (some mb), .string ⟨#[]⟩, .bool false, .int .i32 0, .string ⟨#[]⟩] 73)) (.slice (some ⟨gi, 0, none⟩) (1 + inc.length) ci) (dotName :: inc) := by
      have h1 : w1.ownsRow 0 9 1 (.slice (some ⟨gi, 0, none⟩) (1 + inc.length) ci) (1 + inc.length) ((dotName :: inc).map Value.string) := row_zero Hown.out
      have h2 : w2.ownsRow 0 9 1 (.slice (some ⟨gi, 0, none⟩) (1 + inc.length) ci) (1 + inc.length) ((dotName :: inc).map Value.string) := ownsRow_only h1 (fun k hk => by cases hk; exact hb2.block _ hgi)
      have h3 := ownsRow_only h2 (w' := w2.alloc (.cells #[.slice none 0 0, .slice (some ⟨gi, 0, none⟩) (1 + inc.length) ci, .map (some fb), .bool true, .slice none 0 0, .map (some mb), .string ⟨#[]⟩, .bool false, .int .i32 0, .string ⟨#[]⟩] 73)) (fun k hk => by cases hk; exact Below.heap_alloc w2 _ _ (by show gi < _; omega))
      unfold Strs
      rw [show (dotName :: inc).length = 1 + inc.length by simp; omega]
      exact h3
    have hmacs := hm.below ((Below.refl w2.heap.size w2).alloc (Nat.le_refl _) (.cells #[.slice none 0 0, .slice (some ⟨gi, 0, none⟩) (1 + inc.length) ci, .map (some fb), .bool true, .slice none 0 0, .map (some mb), .string ⟨#[]⟩, .bool false, .int .i32 0, .string ⟨#[]⟩] 73)) (L' := (w2.alloc (.cells #[.slice none 0 0, .slice (some ⟨gi, 0, none⟩) (1 + inc.length) ci, .map (some fb), .bool true, .slice none 0 0, .map (some mb), .string ⟨#[]⟩, .bool false, .int .i32 0, .string ⟨#[]⟩] 73)).heap.size) (by simp)
    refine ⟨_, mb, rfl, ⟨_, Nat.le_refl _, _, [], ⟨hB1, by omega, ⟨rfl, .inl ⟨rfl, rfl⟩⟩, by simp, .nil⟩, .nil, by simp, ?_, rfl, rfl, rfl, ⟨_, rfl⟩, ⟨_, rfl⟩⟩, hbel3, by omega⟩
    exact { ifr := ⟨rfl, .inl ⟨rfl, rfl⟩⟩, mcv := rfl, mcs := hmacs, mlow := (by show B ≤ mb; omega), fiv := rfl, fis := ⟨n, Hf.out.of_heap (hbel3.block _ hfl)⟩, ne := (by show mb ≠ fb; omega), inv := hstr, inl := fun k hk => (by cases hk; show gi < _; simp; omega) }
  have Hfin := Lib.hid hfin
  clear hfin hm hb2
  go_wp2
  go_ret
  exact Hfin.out

theorem newInput_any {B fb n il ic : Nat} {ia : Option Addr} {bl : Bool} {F : Bs → Option ByteArray} {inc : List ByteArray} (hf : SMap w fb n (fun x => (F x).map Value.string)) (hi : Strs w (.slice ia il ic) inc) (hB : B ≤ w.heap.size) (hl : inc.length < 1000) :
    Calls Tryz.prog 30 #[.string mainName, .map (some fb), .slice ia il ic, .slice none 0 0] w (NewIQ B fb bl F inc w) :=
  newInput_gen hf hi hB hl (fun w1 _ => predefine_none)
end
def PushTQ (B ib : Nat) (C : Cfg) (s : Sg) (w : World) (e : Ending) (w' : World) : Prop := e = .returned (.tuple #[]) ∧ Held w' B ib C s ∧ Soft B C.bl w w'

theorem inPush_tz {w0 w : World} {B ib : Nat} {C : Cfg} {s : Sg} {tz sb rb bb : Nat} {rv : Value} {nm : ByteArray} {text : Bs} {ts : List Tok} (h0 : Held w0 B ib C s) (hb : Below w0.heap.size w0 w)
    (hz : Tz w B tz sb rb rv (.pointer (some ⟨bb, 0, none⟩)) none text 1 1 0 []) (hp : PB w bb nm) (h1 : w0.heap.size ≤ tz) (h2 : w0.heap.size ≤ sb) (h3 : w0.heap.size ≤ rb) (htl : TL text 1 1 ts) (hlen : text.length < 900000) (hl : s.ab.length ≤ 100) :
    Calls Tryz.prog 31 #[.pointer (some ⟨ib, 0, none⟩), .iface 61 (.pointer (some ⟨tz, 0, none⟩))] w (PushTQ B ib C { s with ab := tzAb nm ts :: s.ab } w) := by
  obtain ⟨L, hL, h0⟩ := h0
  refine (inPush (r := ⟨.iface 61 (.pointer (some ⟨tz, 0, none⟩)), TzD tz sb rb none, bb, nm, ⟨0, [], 1, 1⟩, ts⟩) (a := tzAb nm ts) h0 hb (.tz hz htl (by show 1 + text.length < 1000000; omega) (by simp)) ?_ hp ⟨rfl, rfl, rfl, fun _ => ⟨tz, rfl⟩⟩ hl).mono ?_
  · rintro k (e | e | e | e)
    · omega
    · omega
    · omega
    · cases e
  · rintro e w' ⟨rfl, hi, hs⟩
    exact ⟨rfl, ⟨L, Nat.le_trans hL (Nat.le_trans hb.size hs.size), hi⟩, hs⟩
theorem newReader_any {w : World} {x : ByteArray} : Calls Tryz.prog 33 #[.string x] w (fun e w' => e = .returned (.pointer (some ⟨w.heap.size, 0, none⟩)) ∧ w' = w.alloc (.cells #[.string x, .int .i64 0, .int .i64 (-1)] 104)) := by
  go_enter Tryz.func33, Tryz.ntmps33
  go_wp2
  go_ret
  exact ⟨rfl, rfl⟩
def TokzQ (l : List (Int × Bs)) (w : World) (e : Ending) (w' : World) : Prop :=
  ∃ a n c, e = .returned (.slice a n c) ∧ n = l.length ∧ w'.ownsRow w.heap.size 116 2 (.slice a n c) n (cellsT l) ∧ Below w.heap.size w w'

def TokzLoop (tz : Nat) (ts : List Tok) (w : World) (n : Nat) (v : Value) (wr : World) : Prop :=
  ∃ done todo D bb cur, ts = done ++ todo ∧ n = todo.length ∧ wr.ownsRow w.heap.size 116 2 v done.length (cellsT (done.map Tok.kx)) ∧ Rd wr w.heap.size (.iface 61 (.pointer (some ⟨tz, 0, none⟩))) D bb cur todo ∧ Below w.heap.size w wr

section
variable {w : World} {ev : Value}
set_option maxRecDepth 100000 in
set_option maxHeartbeats 4000000 in
theorem tokenize_any {text : Bs} {ts : List Tok} (htl : TL text 1 1 ts) (ha : ascii text) (hl : text.length < 900000) (hts : ∀ t ∈ ts, okTok t ∧ t.k ≠ -1 ∧ t.k ≠ 0) (hn : ts.length ≤ 1000) (hg : Glob w ev) (hB : 21 ≤ w.heap.size) :
    Calls Tryz.prog 61 #[.string (mkS text)] w (TokzQ (ts.map Tok.kx) w) := by
  obtain ⟨i0, hi, hz0, hz1, hz2⟩ := info_parts infoTok
  have hb3 : Below w.heap.size w (w.alloc (.cells #[.string (mkS text), .int .i64 0, .int .i64 (-1)] 104)) := (Below.refl _ _).alloc (Nat.le_refl _) _
  have htok := newTok_any (w := w.alloc (.cells #[.string (mkS text), .int .i64 0, .int .i64 (-1)] 104)) (B := w.heap.size) (rb := w.heap.size) (ty := 63) (ra := some ⟨w.heap.size, 0, none⟩) (nm := ⟨#[99, 111, 109, 109, 97, 110, 100, 32, 108, 105, 110, 101]⟩) (text := text) hb3.size ⟨Nat.le_refl _, .inr ⟨rfl, _, text, 0, -1, Blk.lit w _ _, rfl, rfl, rfl, by omega, rfl, by omega⟩⟩ (by simp) ha (by omega)
  have Htl := Lib.hid htl
  have Hts := Lib.hid hts
  have Hn := Lib.hid hn
  have Hg := Lib.hid hg
  have Hb3 := Lib.hid hb3
  have Htok := Lib.hid htok
  clear htl ha hts hn hg hb3 htok
  go_enter Tryz.func61, Tryz.ntmps61
  go_wp2_with fail
  refine newReader_any.mono ?_
  rintro e w3 ⟨rfl, rfl⟩
  go_wp2_with fail
  refine Htok.out.mono ?_
  rintro e w4 ⟨tz, sb, bb, rfl, hz, hpb, h1, h2, h3, hbel4⟩
  have hb4 : Below w.heap.size w w4 := Hb3.out.trans (hbel4.mono Hb3.out.size)
  have hst : TokzLoop tz ts w ts.length (.slice none 0 0) w4 := ⟨[], ts, _, bb, ⟨0, [], 1, 1⟩, rfl, rfl, World.ownsRow_nil _ _ _ _, .tz hz Htl.out (by show 1 + text.length < 1000000; omega) (by simp), hb4⟩
  have Hst := Lib.hid hst
  clear hz hpb h1 h2 h3 hbel4 hb4 hst Htok Hb3 Htl
  go_wp2
  go_loopg [4] ts.length (fun n v wr => TokzLoop tz ts w n v wr)
  case atStart => exact Hst.out
  case round =>
    clear Hst
    obtain ⟨done, todo, D, bb2, cur, hds, rfl, hown, hrd, hb⟩ := hrel
    have hgw : Glob wr ev := Hg.out.only (Only.ofBelow hb) (fun k hk e => by omega)
    cases todo with
    | nil =>
      have Hnx := Lib.hid (rdEof_tz hrd hgw hB)
      have hfin : ∀ w5, Only D wr w5 → TokzQ (ts.map Tok.kx) w (.returned u4) w5 := fun w5 ho => by
        have hr5 : w5.ownsRow w.heap.size 116 2 u4 done.length (cellsT (done.map Tok.kx)) := row_only hown ho (fun k e hk => rt_not_token (hrd.foot k e).2)
        obtain ⟨a, c, e⟩ : ∃ a c, u4 = .slice a done.length c := by
          obtain ⟨_, ⟨e, e0⟩ | ⟨g, cap, cur, e, _⟩⟩ := hown
          · exact ⟨none, 0, by rw [e, e0]⟩
          · exact ⟨_, _, e⟩
        have hdt : done = ts := by rw [hds]; simp
        refine ⟨a, done.length, c, by rw [e], by rw [hdt, List.length_map], ?_, hb.trans (ho.below hb.size (fun k hk e => by have := (hrd.foot k e).1; omega))⟩
        rw [e, hdt] at hr5
        rw [hdt]
        exact hr5
      have Hfin := Lib.hid hfin
      clear hds hown hrd hb hgw hfin
      go_wp2_with fail
      refine Hnx.out.mono ?_
      rintro e w5 ⟨c, rfl, D', _, ho, _⟩
      have Hend := Lib.hid (Hfin.out w5 ho)
      clear ho
      go_wp2
      go_ret
      exact Hend.out
    | cons t todo =>
      obtain ⟨hok, g3, g4⟩ := Hts.out t (by rw [hds]; simp)
      have b2 : (t.k == -1) = false := by simp [g3]
      have Hnx := Lib.hid (rdNext_tz hrd hgw hB)
      have Hfoot := Lib.hid hrd.foot
      have Hown := Lib.hid hown
      have Hb := Lib.hid hb
      have Hds := Lib.hid hds
      have Hok := Lib.hid hok
      have hdl : done.length ≤ 1000 := by have := Hn.out; rw [hds] at this; simp at this; omega
      obtain ⟨tk, htk⟩ : ∃ tk, tk = t.k := ⟨_, rfl⟩
      rw [← htk] at b2
      have Htk := Lib.hid htk
      have hwr : w.heap.size ≤ wr.heap.size := hb.size
      clear hds hok hown hrd hb hgw htk g3
      go_wp2_with fail
      refine Hnx.out.mono ?_
      rintro e w5 ⟨rfl, D5, h5, ho5, _⟩
      rw [← Htk.out]
      have Htx := Lib.hid (rdText_tz h5 g4)
      have Hf5 := Lib.hid h5.foot
      have Hown5 := Lib.hid (row_only Hown.out ho5 (fun k e hk => rt_not_token (Hfoot.out k e).2))
      have Hb5 := Lib.hid (Hb.out.trans (ho5.below hwr (fun k hk e => by have := (Hfoot.out k e).1; omega)))
      clear h5 ho5 g4
      go_wp2_with fail
      refine Htx.out.mono ?_
      rintro e w6 ⟨rfl, D6, h6, ho6, _⟩
      have H6 := Lib.hid h6
      have Hown6 := Lib.hid (row_only Hown5.out ho6 (fun k e hk => rt_not_token (Hf5.out k e).2))
      have Hb6 := Lib.hid (Hb5.out.trans (ho6.below Hb5.out.size (fun k hk e => by have := (Hf5.out k e).1; omega)))
      have Hmk := Lib.hid (make_any tk t.x w6 Hok.out.1 Hok.out.2.1 Hok.out.2.2)
      clear h6 ho6 Htx Hnx
      go_wp2_with fail
      refine Hmk.out.mono ?_
      rintro e w7 ⟨rfl, hb7⟩
      have hb7' := hb7.alloc hb7.size (.cells #[.int .i32 tk, .string (mkS t.x)] 116)
      have H7 := Lib.hid (Rd.only_tz H6.out ⟨_, rfl⟩ (Only.ofBelow hb7') (fun k hk e => by have := (H6.out.foot k hk).2.lt; omega))
      have Hown7 := Lib.hid (ownsRow_only Hown6.out (fun k hk => hb7.block k (ownBlock_row Hown6.out k hk).2.lt))
      have Hb7 := Lib.hid (Hb6.out.trans (hb7.mono Hb6.out.size))
      clear hb7 hb7'
      go_wp2_with (at_builtin; refine wpList_append_own _ rfl _ _ 113 rfl w.heap.size 116 i0 (.agg #[.int .i32 0, .string ⟨#[]⟩]) 2 24 Tryz.underlying113 hi hz0 hz1 hz2 rfl (by decide) _ _ _ rfl (Hown7.out.alloc _) ⟨w7.heap.size, 0, none⟩ 1 1 [.int .i32 tk, .string (mkS t.x)] rfl rfl ?c1 ?c2 ?c3 ?c4 ?c5 ?_)
      case c1 => exact cellTwo _ _ _ _
      case c2 => intro u hu; simp at hu; rcases hu with rfl | rfl <;> rfl
      case c3 => unfold maxLen; omega
      case c4 => omega
      case c5 => have := Hb7.out.size; simp; omega
      intro v' w8 hown8 hgrow _
      have hrel : TokzLoop tz ts w todo.length v' w8 := by
        have ho := (Only.refl (fun k => u4.ownBlock = some k) _).grown hgrow (fun k hk _ => hk)
        have hty := fun k hk => ownBlock_row (Hown7.out.alloc (.cells #[.int .i32 tk, .string (mkS t.x)] 116)) k hk
        refine ⟨done ++ [t], todo, _, bb2, t, by rw [Hds.out]; simp, rfl, ?_, Rd.only_tz H7.out ⟨_, rfl⟩ ho (fun k hk e => rt_not_token (H7.out.foot k hk).2 (hty k e).2), ?_⟩
        · rw [List.length_append, List.map_append, List.map_cons, List.map_nil, cellsT_snoc]
          show w8.ownsRow w.heap.size 116 2 v' (done.length + 1) (cellsT (done.map Tok.kx) ++ [.int .i32 t.k, .string (mkS t.x)])
          rw [← Htk.out]
          exact hown8
        · have h1 := Hb7.out.alloc Hb7.out.size (.cells #[.int .i32 tk, .string (mkS t.x)] 116)
          exact h1.trans (ho.below h1.size (fun k hk e => by have := (hty k e).1; omega))
      have Hrel := Lib.hid hrel
      clear hown8 hgrow hrel
      go_wp2
      go_roundg todo.length
      case measure => simp
      case rel => exact Hrel.out
end

set_option maxRecDepth 100000 in
theorem sl_indexByte (s : ByteArray) (c : Int) (w : World) :
    Calls Tryz.prog 81 #[.string s, .int .u8 c] w fun e w' => e = .returned (.int .i64 (Go.Lib.indexByte s.data.toList c.toNat.toUInt8)) ∧ w' = w := by
  go_enter Tryz.func81, Tryz.ntmps81
  go_wp2
  rw [run_callFunc_extern Tryz.func99 (by kernel_rfl) (by kernel_rfl) (by kernel_rfl) (e := Extern.BytealgIndexByte.indexByte) (by kernel_rfl), Go.Lib.run_indexByteString]
  simp only [Result.andThen]
  rw [Oper.upon_value]
  go_wp2
  go_ret
  exact ⟨rfl, rfl⟩
set_option maxRecDepth 100000 in
theorem str_indexByte (s : ByteArray) (c : Int) (w : World) :
    Calls Tryz.prog 60 #[.string s, .int .u8 c] w fun e w' => e = .returned (.int .i64 (Go.Lib.indexByte s.data.toList c.toNat.toUInt8)) ∧ w' = w := by
  go_enter Tryz.func60, Tryz.ntmps60
  go_wp2_with fail
  refine (sl_indexByte _ _ _).mono ?_
  rintro e w1 ⟨rfl, rfl⟩
  go_wp2
  go_ret
  exact ⟨rfl, rfl⟩

theorem byteIdx_none {l : Bs} {c : UInt8} (h : c ∉ l) : Go.Lib.indexByte l c = -1 := by
  induction l with
  | nil => rfl
  | cons b r ih =>
    have hb : (b == c) = false := by simp; intro e; exact h (by simp [e])
    unfold Go.Lib.indexByte
    rw [hb, ih (fun hh => h (by simp [hh]))]
    rfl
theorem index_at {l r : Bs} {c : UInt8} (h : c ∉ l) : Go.Lib.indexByte (l ++ c :: r) c = (l.length : Nat) := by
  induction l with
  | nil => simp [Go.Lib.indexByte]
  | cons b x ih =>
    have hb : (b == c) = false := by simp; intro e; exact h (by simp [e])
    rw [List.cons_append]
    unfold Go.Lib.indexByte
    rw [hb, ih (fun hh => h (by simp [hh]))]
    have e : (((x.length : Nat) : Int) == -1) = false := by
      have : ((x.length : Nat) : Int) ≠ -1 := by omega
      simp [this]
    rw [e]
    simp

/-- One macro is told. -/
def PreQ1 (name : Bs) (body : List (Int × Bs)) (w : World) (e : Ending) (w' : World) : Prop :=
  ∃ mb, e = .returned (.map (some mb)) ∧ Macs w' w'.heap.size mb 1 (fun y => if y = name then some ⟨none, body⟩ else none) ∧ w.heap.size ≤ mb ∧ Below w.heap.size w w'
end Go.Proofs.YtpoimmpdncickaaGreatDoor
