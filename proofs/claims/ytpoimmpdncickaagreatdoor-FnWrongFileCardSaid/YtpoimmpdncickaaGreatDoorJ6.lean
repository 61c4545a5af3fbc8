/- The tokenizer and the lists of tokens: their methods. -/
import Derived.Test.YtpoimmpdncickaaGreatDoorJ5
import Derived.Test.YtpoimmpdncickaaGreatDoorJ1
import Derived.Test.YtpoimmpdncickaaGreatDoorJ4
import Derived.Laws.EntriesVeiled
import Derived.WalkSmall
/- The tokenizer: its state, Next. -/
namespace Go.Proofs.YtpoimmpdncickaaGreatDoor
open Go Go.RowKit Lex
set_option linter.unusedVariables false
set_option linter.unusedSimpArgs false

/-- The text of a token of two characters. -/
def pairText (k : Int) : Option Bs :=
  if k = -1000 then some [60, 60] else if k = -1001 then some [62, 62] else if k = -1002 then some [45, 62] else if k = -1003 then some [64, 62] else none

/-- The scanner behind a token of kind k. -/
def ScK (w : World) (B sb rb : Nat) (rv : Value) (tk : Option Nat) (r : Bs) (col : Nat) (k : Int) (x : Bs) : Prop :=
  (k = 0 ∧ x = [] ∧ col = 1 ∧ St w B sb rb rv tk (-2) true r 1 none) ∨ (pairText k = none ∧ StE w B sb rb rv tk r col x) ∨ (pairText k = some x ∧ St w B sb rb rv tk (headCh r) false r col none)

/-- THE TOKENIZER IN BLOCK tz: k and x are the last token's kind and text, line its line; r is what is left, col the column there. -/
def Tz (w : World) (B tz sb rb : Nat) (rv bv : Value) (tk : Option Nat) (r : Bs) (line col : Nat) (k : Int) (x : Bs) : Prop :=
  ∃ T, Blk w tz 102 4 T ∧ T 0 = .int .i32 k ∧ T 1 = .pointer (some ⟨sb, 0, none⟩) ∧ T 2 = bv ∧ T 3 = .int .i64 (line : Nat) ∧ B ≤ tz ∧ ScK w B sb rb rv tk r col k x

/-- What a tokenizer may write. -/
def TzD (tz sb rb : Nat) (tk : Option Nat) (k : Nat) : Prop := k = tz ∨ k = sb ∨ k = rb ∨ tk = some k

section
variable {w w' : World} {B tz sb rb : Nat} {rv bv : Value} {tk : Option Nat} {r : Bs} {line col : Nat} {k : Int} {x : Bs} {ev : Value}
theorem ScK.sc (h : ScK w B sb rb rv tk r col k x) : ∃ x0, Sc w B sb rb rv tk r col x0 := by
  rcases h with ⟨_, _, h1, h⟩ | ⟨_, h⟩ | ⟨_, h⟩
  · exact ⟨none, .inl ⟨h1, rfl, h⟩⟩
  · exact ⟨_, .inr h.st⟩
  · exact ⟨_, .inr h⟩
theorem ScK.only {D : Nat → Prop} (h : ScK w B sb rb rv tk r col k x) (ho : Only D w w') (hd : ∀ k, (k = sb ∨ k = rb ∨ tk = some k) → ¬ D k) : ScK w' B sb rb rv tk r col k x := by
  rcases h with ⟨h1, h2, h3, h⟩ | ⟨h1, h⟩ | ⟨h1, h⟩
  · exact .inl ⟨h1, h2, h3, h.only ho hd⟩
  · exact .inr (.inl ⟨h1, h.only ho hd⟩)
  · exact .inr (.inr ⟨h1, h.only ho hd⟩)
theorem Tz.only {D : Nat → Prop} (h : Tz w B tz sb rb rv bv tk r line col k x) (ho : Only D w w') (hd : ∀ k, TzD tz sb rb tk k → ¬ D k) : Tz w' B tz sb rb rv bv tk r line col k x := by
  obtain ⟨T, hb, h1, h2, h3, h4, h5, h6⟩ := h
  exact ⟨T, hb.only ho (hd _ (.inl rfl)), h1, h2, h3, h4, h5, h6.only ho (fun k hk => hd k (.inr hk))⟩
end

/-- A block of another type is none of the scanner's. -/
theorem St.ne {w : World} {B sb rb : Nat} {rv : Value} {tk : Option Nat} {ch : Int} {fr : Bool} {r : Bs} {col : Nat} {x : Option Bs} (h : St w B sb rb rv tk ch fr r col x) {b : Nat} {T : TypeId} {n : Nat} {S : Nat → Value} (hb : Blk w b T n S)
    (h1 : T ≠ 96) (h2 : T ≠ 11) (h3 : T ≠ 104) (h4 : T ≠ 5) : ¬ (b = sb ∨ b = rb ∨ tk = some b) := by
  obtain ⟨N, ⟨S', h⟩, _⟩ := h
  rintro (e | e | e)
  · exact hb.ne h.blk h1 e
  · obtain ⟨_, ⟨_, S2, z, hr, _⟩ | ⟨_, S2, t, i, p, hr, _⟩⟩ := h.rdr
    · exact hb.ne hr h2 e
    · exact hb.ne hr h3 e
  · obtain ⟨_, _, _, ⟨e', _⟩ | ⟨k', e', _, _, F, hF, _⟩⟩ := h.tb
    · rw [e'] at e; cases e
    · rw [e'] at e; cases e; exact hb.ne hF h4 rfl
theorem Sc.ne {w : World} {B sb rb : Nat} {rv : Value} {tk : Option Nat} {r : Bs} {col : Nat} {x : Option Bs} (h : Sc w B sb rb rv tk r col x) {b : Nat} {n : Nat} {S : Nat → Value} (hb : Blk w b 102 n S) : ¬ (b = sb ∨ b = rb ∨ tk = some b) := by
  rcases h with ⟨_, _, h⟩ | h <;> exact h.ne hb (by decide) (by decide) (by decide) (by decide)

/-- What Next leaves. -/
def TzQ (B tz sb rb : Nat) (rv bv : Value) (tk : Option Nat) (r : Bs) (line col : Nat) (k : Int) (x : Bs) (w : World) (e : Ending) (w' : World) : Prop :=
  e = .returned (.int .i32 k) ∧ ∃ tk', Tz w' B tz sb rb rv bv tk' r line col k x ∧ TkTo w tk tk' ∧ Only (TzD tz sb rb tk) w w'

/-- The tokenizer's loop: z0 has been passed over. -/
def TzLoop (B tz sb rb : Nat) (rv bv : Value) (tk : Option Nat) (r' : Bs) (line col : Nat) (k : Int) (x z : Bs) (w : World) (n : Nat) (wr : World) : Prop :=
  ∃ z0 z1 r1 tk1 x1 T k1, z = z0 ++ z1 ∧ n = r1.length ∧ TNext r1 k x z1 r' ∧ Sc wr B sb rb rv tk1 r1 (adv col z0) x1 ∧ Blk wr tz 102 4 T ∧ T 0 = .int .i32 k1 ∧ T 1 = .pointer (some ⟨sb, 0, none⟩) ∧ T 2 = bv ∧ T 3 = .int .i64 (line : Nat) ∧ TkTo w tk tk1 ∧ Only (TzD tz sb rb tk) w wr

theorem Mv.tz {w w0 w1 : World} {tz sb rb : Nat} {tk tk0 tk1 : Option Nat} (hm : Mv sb rb w tk w1 tk1) (h0 : TkTo w0 tk0 tk) (ho : Only (TzD tz sb rb tk0) w0 w) : TkTo w0 tk0 tk1 ∧ Only (TzD tz sb rb tk0) w0 w1 := by
  refine ⟨h0.step ho.size hm.tks, ho.trans hm.only fun k hk hd => ?_⟩
  rcases hd with e | e | e
  · exact .inr (.inl e)
  · exact .inr (.inr (.inl e))
  · rcases h0 with rfl | ⟨_, k', e', hle⟩
    · exact .inr (.inr (.inr e))
    · rw [e] at e'; cases e'; omega

/-- A token of one piece has been scanned: its kind is noted. -/
theorem tz_end {w w3 : World} {B tz sb rb : Nat} {rv bv : Value} {tk tk3 : Option Nat} {r : Bs} {line col : Nat} {k : Int} {x : Bs} {T : Nat → Value} (hb : Blk w3 tz 102 4 T) (h1 : T 1 = .pointer (some ⟨sb, 0, none⟩)) (h2 : T 2 = bv) (h3 : T 3 = .int .i64 (line : Nat)) (hlow : B ≤ tz)
    (hs : StE w3 B sb rb rv tk3 r col x) (htk : TkTo w tk tk3) (ho : Only (TzD tz sb rb tk) w w3) (hp : pairText k = none) :
    (StE (w3.setCell ⟨tz, 0, none⟩ (.int .i32 k)) B sb rb rv tk3 r col x) ∧
    (k ≠ 10 → TzQ B tz sb rb rv bv tk r (lineAt line k) col k x w (.returned (.int .i32 k)) (w3.setCell ⟨tz, 0, none⟩ (.int .i32 k))) ∧
    (k = 10 → TzQ B tz sb rb rv bv tk r (lineAt line k) col k x w (.returned (.int .i32 10)) ((w3.setCell ⟨tz, 0, none⟩ (.int .i32 10)).setCell ⟨tz, 3, none⟩ (.int .i64 ((line : Int) + 1)))) := by
  have hne := hs.st.ne hb (by decide) (by decide) (by decide) (by decide)
  have o1 := (Only.refl (fun k => k = tz) w3).setCell (p := ⟨tz, 0, none⟩) (fun _ => rfl) (.int .i32 k)
  have s1 : StE (w3.setCell ⟨tz, 0, none⟩ (.int .i32 k)) B sb rb rv tk3 r col x := hs.only o1 (fun j hj e => hne (e ▸ hj))
  have o2 := ho.setCell (p := ⟨tz, 0, none⟩) (fun _ => .inl rfl) (.int .i32 k)
  refine ⟨s1, fun hk => ⟨rfl, tk3, ⟨_, hb.set 0 _, upd_same _ _ _, (upd_other _ _ (by omega)).trans h1, (upd_other _ _ (by omega)).trans h2, (upd_other _ _ (by omega)).trans (h3.trans ?_), hlow, .inr (.inl ⟨hp, s1⟩)⟩, htk, o2⟩, fun hk => ?_⟩
  · unfold lineAt; rw [if_neg hk]
  · subst hk
    have o3 := o1.setCell (p := ⟨tz, 3, none⟩) (fun _ => rfl) (.int .i64 ((line : Int) + 1))
    refine ⟨rfl, tk3, ⟨_, (hb.set 0 _).set 3 _, (upd_other _ _ (by omega)).trans (upd_same _ _ _), (upd_other _ _ (by omega)).trans ((upd_other _ _ (by omega)).trans h1), (upd_other _ _ (by omega)).trans ((upd_other _ _ (by omega)).trans h2), (upd_same _ _ _).trans ?_, hlow, .inr (.inl ⟨hp, hs.only o3 (fun j hj e => hne (e ▸ hj))⟩)⟩, htk, o2.setCell (p := ⟨tz, 3, none⟩) (fun _ => .inl rfl) _⟩
    unfold lineAt; rw [if_pos rfl]; simp

theorem scanH_pair {k : Int} {x r : Bs} (h : ScanH k x r) : pairText k = none := by
  cases h with
  | eof => rfl
  | ident => rfl
  | zero => rfl
  | dec => rfl
  | hex => rfl
  | str => rfl
  | comment => rfl
  | char => unfold pairText; rw [if_neg (by omega), if_neg (by omega), if_neg (by omega), if_neg (by omega)]

theorem head_ne {r : Bs} (d : UInt8) (h : r.head? ≠ some d) : ¬ headCh r = (d.toNat : Int) := by
  cases r with
  | nil => intro e; have : (-1 : Int) = d.toNat := e; omega
  | cons c t => intro e; have e' : (c.toNat : Int) = d.toNat := e; exact h (by rw [UInt8.toNat_inj.1 (by omega : c.toNat = d.toNat)]; rfl)

theorem two_cases {q k : Int} {c d : UInt8} {r : Bs} (h : two q = some (d, k)) (hk : ScanH q [c] r) :
    ((q = 45 ∧ d = 62 ∧ k = -1002) ∨ (q = 64 ∧ d = 62 ∧ k = -1003) ∨ (q = 60 ∧ d = 60 ∧ k = -1000) ∨ (q = 62 ∧ d = 62 ∧ k = -1001)) ∧ pairText k = some [c, d] := by
  have hq : 0 < q → q = c.toNat := fun h0 => by
    generalize hx : [c] = x at hk
    cases hk <;> first | omega | (cases hx; rfl) | (simp at hx; subst hx; rfl)
  have hc : ∀ n : Nat, n < 256 → q = (n : Int) → 0 < n → c = UInt8.ofNat n := fun n h256 e h0 => by
    have := hq (by omega)
    apply UInt8.toNat_inj.1
    rw [UInt8.toNat_ofNat']
    omega
  unfold two at h
  split at h
  · have := hc 45 (by omega) (by omega) (by omega); subst this; cases h; exact ⟨.inl ⟨rfl, rfl, rfl⟩, rfl⟩
  · have := hc 64 (by omega) (by omega) (by omega); subst this; cases h; exact ⟨.inr (.inl ⟨rfl, rfl, rfl⟩), rfl⟩
  · have := hc 60 (by omega) (by omega) (by omega); subst this; cases h; exact ⟨.inr (.inr (.inl ⟨rfl, rfl, rfl⟩)), rfl⟩
  · have := hc 62 (by omega) (by omega) (by omega); subst this; cases h; exact ⟨.inr (.inr (.inr ⟨rfl, rfl, rfl⟩)), rfl⟩
  · cases h

theorem tz_end2 {w w5 : World} {B tz sb rb : Nat} {rv bv : Value} {tk tk5 : Option Nat} {r : Bs} {line col : Nat} {k : Int} {x : Bs} {T : Nat → Value} (hb : Blk w5 tz 102 4 T) (h1 : T 1 = .pointer (some ⟨sb, 0, none⟩)) (h2 : T 2 = bv) (h3 : T 3 = .int .i64 (line : Nat)) (hlow : B ≤ tz)
    (hs : St w5 B sb rb rv tk5 (headCh r) false r col none) (htk : TkTo w tk tk5) (ho : Only (TzD tz sb rb tk) w w5) (hp : pairText k = some x) (h10 : k ≠ 10) :
    TzQ B tz sb rb rv bv tk r (lineAt line k) col k x w (.returned (.int .i32 k)) (w5.setCell ⟨tz, 0, none⟩ (.int .i32 k)) := by
  have hne := hs.ne hb (by decide) (by decide) (by decide) (by decide)
  have o1 := (Only.refl (fun k => k = tz) w5).setCell (p := ⟨tz, 0, none⟩) (fun _ => rfl) (.int .i32 k)
  refine ⟨rfl, tk5, ⟨_, hb.set 0 _, upd_same _ _ _, (upd_other _ _ (by omega)).trans h1, (upd_other _ _ (by omega)).trans h2, (upd_other _ _ (by omega)).trans (h3.trans ?_), hlow, .inr (.inr ⟨hp, hs.only o1 (fun j hj e => hne (e ▸ hj))⟩)⟩, htk, ho.setCell (p := ⟨tz, 0, none⟩) (fun _ => .inl rfl) _⟩
  unfold lineAt; rw [if_neg h10]

theorem comment_nl (y : Bs) (h : nls y = 0) : (10 : UInt8) ∉ 47 :: 42 :: (y ++ [42, 47]) := by
  intro e
  simp at e
  exact (List.count_eq_zero.1 h) e
theorem one_ne (X : Bs) (i : Nat) (hi : i + 1 ≤ (mkS X).size) (h : (mkS X)[i] ≠ 10) : (((mkS X).extract i (i + 1)).toList == (mkS [10]).toList) = false := by
  have hl : i < X.length := hi
  have e1 : ((mkS X).extract i (i + 1)).toList = [X[i]] := by
    rw [ByteArray.toList_eq]
    simp only [ByteArray.data_extract, Array.toList_extract, mkS, List.extract_eq_take_drop]
    rw [List.drop_eq_getElem_cons hl, show i + 1 - i = 1 by omega]
    rfl
  rw [e1, mkS_toList]
  have h' : X[i] ≠ 10 := h
  simp [h']
theorem comment_go (y : Bs) : (((mkS (47 :: 42 :: (y ++ [42, 47]))).extract 0 10).toList == (mkS [47, 47, 103, 111, 58, 98, 117, 105, 108, 100]).toList) = false := by
  rw [ByteArray.toList_eq, mkS_toList]
  simp only [ByteArray.data_extract, Array.toList_extract, mkS, List.extract_eq_take_drop]
  rfl

set_option maxRecDepth 100000 in
set_option maxHeartbeats 4000000 in
theorem tzNext {w : World} {B tz sb rb : Nat} {rv bv : Value} {tk : Option Nat} {r : Bs} {line col : Nat} {k0 : Int} {x0 : Bs} {ev : Value} {k : Int} {x z r' : Bs} (h : Tz w B tz sb rb rv bv tk r line col k0 x0) (hg : Glob w ev) (hB : 21 ≤ B) (ht : TNext r k x z r') (hl : line < 1000000) :
    Calls Tryz.prog 82 #[.pointer (some ⟨tz, 0, none⟩)] w (TzQ B tz sb rb rv bv tk r' (lineAt line k) (adv col z) k x w) := by
  obtain ⟨T, hb, e0, e1, e2, e3, hlow, hs⟩ := h
  obtain ⟨x1, hsc⟩ := hs.sc
  have h1 := hb.cell_eq (i := 1) (by decide) e1
  have hgl : ∀ w', Only (TzD tz sb rb tk) w w' → Glob w' ev := fun w' ho => hg.only ho (fun j hj hd => by
    have : B ≤ j := by
      rcases hd with e | e
      · rw [e]; exact hlow
      · rcases hsc with ⟨_, _, h⟩ | h <;> exact h.above j e
    omega)
  have Hgl := Lib.hid hgl
  have Hsc := Lib.hid hsc
  have Hb := Lib.hid hb
  have Ht := Lib.hid ht
  have H0 := Lib.hid e0
  have H1 := Lib.hid e1
  have H2 := Lib.hid e2
  have H3 := Lib.hid e3
  clear hgl hsc hb ht e0 e1 e2 e3 hs hg
  go_enter Tryz.func82, Tryz.ntmps82
  go_wp2
  go_loopg [4] r.length (fun n v4 wr => TzLoop B tz sb rb rv bv tk r' line col k x z w n wr)
  case atStart => exact ⟨[], z, r, tk, x1, T, k0, rfl, rfl, Ht.out, Hsc.out, Hb.out, H0.out, H1.out, H2.out, H3.out, .inl rfl, Only.refl _ _⟩
  case round =>
    obtain ⟨z0, z1, r1, tk1, x2, T1, k1, hz, rfl, ht1, hs1, hb1, g0, g1, g2, g3, htk, ho⟩ := hrel
    clear Hsc Hb Ht H0 H1 H2 H3 h1
    have hg1 := Hgl.out wr ho
    have Hz := Lib.hid hz
    have Hs1 := Lib.hid hs1
    have Hb1 := Lib.hid hb1
    have G0 := Lib.hid g0
    have G1 := Lib.hid g1
    have G2 := Lib.hid g2
    have G3 := Lib.hid g3
    have Htk := Lib.hid htk
    have Ho := Lib.hid ho
    have Hg1 := Lib.hid hg1
    clear hz hs1 hb1 g0 g1 g2 g3 htk ho hg1
    cases ht1 with
    | @gap ws y r2 k y2 z2 r' a1 a2 a3 a4 a5 => as_aux_lemma =>
      obtain ⟨X, hX⟩ : ∃ X, X = 47 :: 42 :: (y ++ [42, 47]) := ⟨_, rfl⟩
      have hX60 : X.length ≤ 60 := by rw [hX]; simp; omega
      have hX0 : 0 < X.length := by rw [hX]; simp
      have hXn : ∀ i (h : i < (mkS X).size), (mkS X)[i] ≠ 10 := fun i h e => comment_nl y a3 (by rw [← hX]; exact e ▸ List.getElem_mem (l := X) (n := i) h)
      have hXc : ∀ i, i + 1 ≤ (mkS X).size → (((mkS X).extract i (i + 1)).toList == (mkS [10]).toList) = false := fun i hi => one_ne X i hi (hXn i hi)
      have hXp : 10 ≤ (mkS X).size → (((mkS X).extract 0 10).toList == (mkS [47, 47, 103, 111, 58, 98, 117, 105, 108, 100]).toList) = false := fun hi => by rw [hX]; exact comment_go y
      have hsc := scan_at (x := X) (r' := r2) (by rw [hX]; exact Hs1.out) Hg1.out hB a1 (by rw [hX]; exact .comment a2) (Nat.le_trans hX60 (by decide))
      have Hcnt := Lib.hid (fun w => zzCount_none (mkS X) (mkS [10]) w (by rw [mkS_size]; omega) rfl hXc)
      have Hgo := Lib.hid (fun w => isGoBuild_none (mkS X) w (by rw [mkS_size]; exact hX0) (by rw [mkS_size]; omega) hXn hXp)
      have Hsc := Lib.hid hsc
      have hne := Hs1.out.ne Hb1.out
      have f0 := Hb1.out.frozen 0
      have A5 := Lib.hid a5
      have Hz2 : Hid (z = z0 ++ (ws ++ X) ++ z2) := by rw [hX]; exact Lib.hid (by rw [Hz.out]; simp)
      have hmeas : r2.length < (ws ++ (47 :: 42 :: (y ++ [42, 47]) ++ r2)).length := by simp; omega
      have Hx60 := Lib.hid hX60
      clear hsc hXn hXc hXp hX0 hX60 hX Hs1 a1 a2 a3 a4 a5 Hz
      go_wp2_with fail
      refine Hsc.out.mono ?_
      rintro e w3 ⟨rfl, tk3, h3, hm3⟩
      obtain ⟨htk3, ho3⟩ := hm3.tz Htk.out Ho.out
      have hb3 := Hb1.out.only hm3.only hne
      obtain ⟨s1, _⟩ := tz_end (k := -8) hb3 G1.out G2.out G3.out hlow h3 htk3 ho3 rfl
      have c0 := hb3.cell_eq (i := 0) (by decide) G0.out
      have f0 := hb3.frozen 0
      have o4 := ho3.setCell (p := ⟨tz, 0, none⟩) (fun _ => .inl rfl) (.int .i32 (-8))
      have hb4 := hb3.set 0 (.int .i32 (-8))
      have hne4 := s1.st.ne hb4 (by decide) (by decide) (by decide) (by decide)
      have Htt := Lib.hid (tokenText_any s1 (by have := Hx60.out; omega))
      have Hb4 := Lib.hid hb4
      have Hne4 := Lib.hid hne4
      have O4 := Lib.hid o4
      have Htk3 := Lib.hid htk3
      clear h3 hm3 htk3 ho3 hb3 hne hne4 hb4 o4 s1
      go_wp2_with fail
      refine Htt.out.mono ?_
      rintro e w5 ⟨rfl, tk5, h5, hm5⟩
      obtain ⟨htk5, ho5⟩ := hm5.tz Htk3.out O4.out
      have hb5 := Hb4.out.only hm5.only Hne4.out
      have c3 := hb5.cell_eq (i := 3) (by decide) ((upd_other _ _ (by omega)).trans G3.out)
      have f3 := hb5.frozen 3
      have H5 := Lib.hid h5
      have Htk5 := Lib.hid htk5
      have Ho5 := Lib.hid ho5
      have Hb5 := Lib.hid hb5
      clear h5 hm5 htk5 ho5 hb5 c0 f0
      go_wp2_with fail
      refine wp_region_still_tail 9 (by kernel_rfl) (by kernel_rfl) ?_
      simp only [List.take_succ_cons, List.take_zero, List.drop_succ_cons, List.drop_zero]
      still_step
      still_step
      still_step
      still_step
      still_step
      still_call (Hcnt.out _)
      repeat still_step
      try refine wpStill_nil ?_
      change wpList _ _ _ _ _ w5.drew
      have ew : IntKind.i64.wrap (line : Int) = (line : Int) := IntWalk.i64_in _ (by omega)
      rw [ew]
      have hb6 : Blk (w5.setCell ⟨tz, 3, none⟩ (.int .i64 (line : Int))).drew tz 102 4 _ := (Hb5.out.set 3 (.int .i64 (line : Int))).drew
      have o6 : Only (TzD tz sb rb tk) w (w5.setCell ⟨tz, 3, none⟩ (.int .i64 (line : Int))).drew := (Ho5.out.setCell (p := ⟨tz, 3, none⟩) (fun _ => .inl rfl) _).drew
      have s6 : StE (w5.setCell ⟨tz, 3, none⟩ (.int .i64 (line : Int))).drew B sb rb rv tk5 r2 (adv (adv col z0) (ws ++ X)) X :=
        H5.out.only (((Only.refl (fun k => k = tz) w5).setCell (p := ⟨tz, 3, none⟩) (fun _ => rfl) _).drew) (fun j hj e => H5.out.st.ne Hb5.out (by decide) (by decide) (by decide) (by decide) (e ▸ hj))
      have Hb6 := Lib.hid hb6
      have O6 := Lib.hid o6
      have S6 := Lib.hid s6
      clear hb6 o6 s6 ew H5 Ho5 Hb5
      go_wp2_with fail
      refine (Hgo.out _).mono ?_
      rintro e w6 ⟨rfl, rfl⟩
      go_wp2
      go_roundg r2.length
      case measure => exact hmeas
      case rel =>
        refine ⟨z0 ++ (ws ++ X), z2, r2, tk5, some X, _, -8, Hz2.out, rfl, A5.out, .inr ?_, Hb6.out, ?_, ?_, ?_, upd_same _ _ _, Htk5.out, O6.out⟩
        · rw [adv_append]; exact S6.out.st
        · rw [upd_other _ _ (by omega), upd_same]
        · rw [upd_other _ _ (by omega), upd_other _ _ (by omega)]; exact G1.out
        · rw [upd_other _ _ (by omega), upd_other _ _ (by omega)]; exact G2.out
    | @one ws k x r' a1 a2 a3 a4 a5 => as_aux_lemma =>
      have hcol : adv col z = adv (adv col z0) (ws ++ x) := by rw [Hz.out, adv_append]
      have hsc := scan_at Hs1.out Hg1.out hB a1 a2 a4
      rw [← hcol] at hsc
      have Hsc := Lib.hid hsc
      have hne := Hs1.out.ne Hb1.out
      have hp := scanH_pair a2
      have f0 := Hb1.out.frozen 0
      clear hcol hsc Hz Hs1 a1 a2 a4
      go_wp2_with fail
      refine Hsc.out.mono ?_
      rintro e w3 ⟨rfl, tk3, h3, hm3⟩
      obtain ⟨htk3, ho3⟩ := hm3.tz Htk.out Ho.out
      have hb3 := Hb1.out.only hm3.only hne
      obtain ⟨s1, hfin⟩ := tz_end hb3 G1.out G2.out G3.out hlow h3 htk3 ho3 hp
      have c0 := hb3.cell_eq (i := 0) (by decide) G0.out
      have c3 := hb3.cell_eq (i := 3) (by decide) G3.out
      have f0 := hb3.frozen 0
      have f3 := hb3.frozen 3
      have Hfin := Lib.hid hfin
      have h38 : (k == -8) = false := by simp [a3]
      clear h3 hm3 htk3 ho3 hb3 hfin hp hne
      by_cases h10 : k = 10
      · subst h10
        go_wp2
        go_ret
        first | exact Hfin.out.2 trivial | exact Hfin.out.2 rfl
      · have h10' : (k == 10) = false := by simp [h10]
        by_cases h45 : k = 45
        · subst h45
          have hd := head_ne 62 (a5 62 _ rfl)
          have hpk := peek_again s1.st
          clear a5 s1
          obtain ⟨n', hn'⟩ : ∃ n', n' = headCh r' := ⟨_, rfl⟩
          rw [← hn'] at hd hpk
          have hd' : ¬ n' = 62 := hd
          have hd2 : (n' == 62) = false := by simp [hd']
          have Hpk := Lib.hid hpk
          clear hd hpk hn'
          go_wp2_with fail
          refine Hpk.out.mono ?_
          rintro e w5 ⟨rfl, rfl⟩
          go_wp2
          go_ret
          exact Hfin.out.1 (by decide)
        · by_cases h64 : k = 64
          · subst h64
            have hd := head_ne 62 (a5 62 _ rfl)
            have hpk := peek_again s1.st
            clear a5 s1
            obtain ⟨n', hn'⟩ : ∃ n', n' = headCh r' := ⟨_, rfl⟩
            rw [← hn'] at hd hpk
            have hd' : ¬ n' = 62 := hd
            have hd2 : (n' == 62) = false := by simp [hd']
            have Hpk := Lib.hid hpk
            clear hd hpk hn'
            go_wp2_with fail
            refine Hpk.out.mono ?_
            rintro e w5 ⟨rfl, rfl⟩
            go_wp2
            go_ret
            exact Hfin.out.1 (by decide)
          · by_cases h60 : k = 60
            · subst h60
              have hd := head_ne 60 (a5 60 _ rfl)
              have hpk := peek_again s1.st
              clear a5 s1
              obtain ⟨n', hn'⟩ : ∃ n', n' = headCh r' := ⟨_, rfl⟩
              rw [← hn'] at hd hpk
              have hd' : ¬ n' = 60 := hd
              have hd2 : (n' == 60) = false := by simp [hd']
              have Hpk := Lib.hid hpk
              clear hd hpk hn'
              go_wp2_with fail
              refine Hpk.out.mono ?_
              rintro e w5 ⟨rfl, rfl⟩
              go_wp2
              go_ret
              exact Hfin.out.1 (by decide)
            · by_cases h62 : k = 62
              · subst h62
                have hd := head_ne 62 (a5 62 _ rfl)
                have hpk := peek_again s1.st
                clear a5 s1
                obtain ⟨n', hn'⟩ : ∃ n', n' = headCh r' := ⟨_, rfl⟩
                rw [← hn'] at hd hpk
                have hd' : ¬ n' = 62 := hd
                have hd2 : (n' == 62) = false := by simp [hd']
                have Hpk := Lib.hid hpk
                clear hd hpk hn'
                go_wp2_with fail
                refine Hpk.out.mono ?_
                rintro e w5 ⟨rfl, rfl⟩
                go_wp2
                go_ret
                exact Hfin.out.1 (by decide)
              · have b1 : (k == 45) = false := by simp [h45]
                have b2 : (k == 64) = false := by simp [h64]
                have b3 : (k == 60) = false := by simp [h60]
                have b4 : (k == 62) = false := by simp [h62]
                have Hk10 := Lib.hid h10
                clear a5 s1 h10
                go_wp2
                go_ret
                exact Hfin.out.1 Hk10.out
    | @pair ws q c d n r' a1 a2 a3 => as_aux_lemma =>
      have hcol : adv col z = adv (adv (adv col z0) (ws ++ [c])) [d] := by rw [Hz.out, adv_append, adv_append, adv_append]; rfl
      have hsc := scan_at (x := [c]) (r' := d :: r') Hs1.out Hg1.out hB a1 a2 (by simp)
      have Hsc := Lib.hid hsc
      have hne := Hs1.out.ne Hb1.out
      have hp := scanH_pair a2
      obtain ⟨h4, hpt⟩ := two_cases a3 a2
      have f0 := Hb1.out.frozen 0
      have Hcol := Lib.hid hcol
      clear hcol hsc Hz Hs1 a1 a2 a3
      go_wp2_with fail
      refine Hsc.out.mono ?_
      rintro e w3 ⟨rfl, tk3, h3, hm3⟩
      obtain ⟨htk3, ho3⟩ := hm3.tz Htk.out Ho.out
      have hb3 := Hb1.out.only hm3.only hne
      obtain ⟨s1, _⟩ := tz_end hb3 G1.out G2.out G3.out hlow h3 htk3 ho3 hp
      have c0 := hb3.cell_eq (i := 0) (by decide) G0.out
      have f0 := hb3.frozen 0
      have o4 := ho3.setCell (p := ⟨tz, 0, none⟩) (fun _ => .inl rfl) (.int .i32 q)
      have hg4 := Hgl.out _ o4
      have hn := scNext_any s1.st hg4 hB
      have hpk := peek_again s1.st
      have hb4 := hb3.set 0 (.int .i32 q)
      have hne4 := s1.st.ne hb4 (by decide) (by decide) (by decide) (by decide)
      have Hb4 := Lib.hid hb4
      have Hne4 := Lib.hid hne4
      have O4 := Lib.hid o4
      have Htk3 := Lib.hid htk3
      have hh : headCh (d :: r') = (d.toNat : Int) := rfl
      rw [hh] at hpk
      have Hpt := Lib.hid hpt
      clear h3 hm3 htk3 ho3 hb3 hp hne hne4 hb4 o4 s1 hg4 hh hpt
      rcases h4 with ⟨rfl, rfl, rfl⟩ | ⟨rfl, rfl, rfl⟩ | ⟨rfl, rfl, rfl⟩ | ⟨rfl, rfl, rfl⟩
      all_goals
        have Hn := Lib.hid hn
        have Hpk := Lib.hid hpk
        clear hn hpk
        go_wp2_with fail
        refine Hpk.out.mono ?_
        rintro e w5 ⟨rfl, rfl⟩
        go_wp2_with fail
        refine Hn.out.mono ?_
        rintro e w5 ⟨rfl, tk5, h5, hm5⟩
        obtain ⟨htk5, ho5⟩ := hm5.tz Htk3.out O4.out
        have hb5 := Hb4.out.only hm5.only Hne4.out
        have Hfin := Lib.hid (tz_end2 hb5 ((upd_other _ _ (by omega)).trans G1.out) ((upd_other _ _ (by omega)).trans G2.out) ((upd_other _ _ (by omega)).trans G3.out) hlow h5 htk5 ho5 Hpt.out (by decide))
        have c5 := hb5.cell_eq (i := 0) (by decide) (upd_same _ _ _)
        have f5 := hb5.frozen 0
        clear h5 hm5 htk5 ho5 hb5
        go_wp2
        go_ret
        rw [Hcol.out]
        exact Hfin.out
/-- A new block, its cells told one by one. -/
theorem Blk.lit (w : World) (c : Array Value) (T : TypeId) : Blk (w.alloc (.cells c T)) w.heap.size T c.size (fun i => c.toList.getD i undef) :=
  Blk.new w c T rfl (fun i hi => by
    have h : i < c.toList.length := by simpa using hi
    simp [List.getD, hi])

theorem TNext.len {r : Bs} {k : Int} {x z r' : Bs} (h : TNext r k x z r') : x.length ≤ 64 := by
  induction h with
  | gap _ _ _ _ _ ih => exact ih
  | one _ _ _ h => exact h
  | pair => simp

theorem ScK.st {w : World} {B sb rb : Nat} {rv : Value} {tk : Option Nat} {r : Bs} {col : Nat} {k : Int} {x : Bs} (h : ScK w B sb rb rv tk r col k x) {b : Nat} {n : Nat} {S : Nat → Value} (hb : Blk w b 102 n S) : ¬ (b = sb ∨ b = rb ∨ tk = some b) := by
  rcases h with ⟨_, _, h1, h⟩ | ⟨_, h⟩ | ⟨_, h⟩
  · exact h.ne hb (by decide) (by decide) (by decide) (by decide)
  · exact h.st.ne hb (by decide) (by decide) (by decide) (by decide)
  · exact h.ne hb (by decide) (by decide) (by decide) (by decide)

def TzTextQ (B tz sb rb : Nat) (rv bv : Value) (tk : Option Nat) (r : Bs) (line col : Nat) (k : Int) (x : Bs) (w : World) (e : Ending) (w' : World) : Prop :=
  e = .returned (.string (mkS x)) ∧ ∃ tk', Tz w' B tz sb rb rv bv tk' r line col k x ∧ TkTo w tk tk' ∧ Only (TzD tz sb rb tk) w w'

theorem pair_cases {k : Int} {x : Bs} (h : pairText k = some x) : (k = -1000 ∧ x = [60, 60]) ∨ (k = -1001 ∧ x = [62, 62]) ∨ (k = -1002 ∧ x = [45, 62]) ∨ (k = -1003 ∧ x = [64, 62]) := by
  unfold pairText at h
  split at h
  · rename_i e; cases h; exact .inl ⟨e, rfl⟩
  split at h
  · rename_i e; cases h; exact .inr (.inl ⟨e, rfl⟩)
  split at h
  · rename_i e; cases h; exact .inr (.inr (.inl ⟨e, rfl⟩))
  split at h
  · rename_i e; cases h; exact .inr (.inr (.inr ⟨e, rfl⟩))
  · cases h

theorem pair_none {k : Int} (h : pairText k = none) : ¬ k = -1000 ∧ ¬ k = -1001 ∧ ¬ k = -1002 ∧ ¬ k = -1003 := by
  unfold pairText at h
  split at h
  · cases h
  split at h
  · cases h
  split at h
  · cases h
  split at h
  · cases h
  · exact ⟨by assumption, by assumption, by assumption, by assumption⟩

set_option maxRecDepth 100000 in
set_option maxHeartbeats 2000000 in
theorem tzText {w : World} {B tz sb rb : Nat} {rv bv : Value} {tk : Option Nat} {r : Bs} {line col : Nat} {k : Int} {x : Bs} (h : Tz w B tz sb rb rv bv tk r line col k x) (hk : k ≠ 0) (hx : x.length ≤ 64) :
    Calls Tryz.prog 83 #[.pointer (some ⟨tz, 0, none⟩)] w (TzTextQ B tz sb rb rv bv tk r line col k x w) := by
  have H := Lib.hid h
  obtain ⟨T, hb, e0, e1, e2, e3, hlow, hs⟩ := h
  have hne := hs.st hb
  have c0 := hb.cell_eq (i := 0) (by decide) e0
  have c1 := hb.cell_eq (i := 1) (by decide) e1
  rcases hs with ⟨h1, _⟩ | ⟨hp, hs⟩ | ⟨hp, hs⟩
  · exact absurd h1 hk
  · have Htt := Lib.hid (tokenText_any hs (by omega))
    have hfin : ∀ w' tk', StE w' B sb rb rv tk' r col x → Mv sb rb w tk w' tk' → TzTextQ B tz sb rb rv bv tk r line col k x w (.returned (.string (mkS x))) w' := fun w' tk' h hm =>
      ⟨rfl, tk', ⟨T, hb.only hm.only hne, e0, e1, e2, e3, hlow, .inr (.inl ⟨hp, h⟩)⟩, hm.tks, hm.only.mono (fun j _ hj => .inr hj)⟩
    have Hfin := Lib.hid hfin
    obtain ⟨n1, n2, n3, n4⟩ := pair_none hp
    have b1 : (k == -1000) = false := by simp [n1]
    have b2 : (k == -1001) = false := by simp [n2]
    have b3 : (k == -1002) = false := by simp [n3]
    have b4 : (k == -1003) = false := by simp [n4]
    clear hfin hb e0 e1 e2 e3 hs hne hp
    go_enter Tryz.func83, Tryz.ntmps83
    go_wp2_with fail
    refine Htt.out.mono ?_
    rintro e w5 ⟨rfl, tk5, h5, hm5⟩
    have Hend := Lib.hid (Hfin.out w5 tk5 h5 hm5)
    clear h5 hm5
    go_wp2
    go_ret
    exact Hend.out
  · have hq : TzTextQ B tz sb rb rv bv tk r line col k x w (.returned (.string (mkS x))) w := ⟨rfl, tk, H.out, .inl rfl, Only.refl _ _⟩
    have Hq := Lib.hid hq
    have hc := pair_cases hp
    clear hq hb e0 e1 e2 e3 hs hne hp H hx
    rcases hc with ⟨rfl, rfl⟩ | ⟨rfl, rfl⟩ | ⟨rfl, rfl⟩ | ⟨rfl, rfl⟩
    all_goals
      go_enter Tryz.func83, Tryz.ntmps83
      go_wp2
      go_ret
      exact Hq.out

section
variable {w : World} {B tz sb rb : Nat} {rv bv : Value} {tk : Option Nat} {r : Bs} {line col : Nat} {k : Int} {x : Bs}
set_option maxRecDepth 100000 in
theorem tzLine (h : Tz w B tz sb rb rv bv tk r line col k x) : Calls Tryz.prog 224 #[.pointer (some ⟨tz, 0, none⟩)] w (fun e w' => e = .returned (.int .i64 line) ∧ w' = w) := by
  obtain ⟨T, hb, e0, e1, e2, e3, hlow, hs⟩ := h
  have c3 := hb.cell_eq (i := 3) (by decide) e3
  clear hb e0 e1 e2 e3 hs
  go_enter Tryz.func224, Tryz.ntmps224
  go_wp2
  go_ret
  exact ⟨rfl, rfl⟩
set_option maxRecDepth 100000 in
theorem tzBase (h : Tz w B tz sb rb rv bv tk r line col k x) : Calls Tryz.prog 221 #[.pointer (some ⟨tz, 0, none⟩)] w (fun e w' => e = .returned bv ∧ w' = w) := by
  obtain ⟨T, hb, e0, e1, e2, e3, hlow, hs⟩ := h
  have c2 := hb.cell_eq (i := 2) (by decide) e2
  clear hb e0 e1 e2 e3 hs
  go_enter Tryz.func221, Tryz.ntmps221
  go_wp2
  go_ret
  exact ⟨rfl, rfl⟩
set_option maxRecDepth 100000 in
theorem tzClose (tz : Nat) (w : World) : Calls Tryz.prog 222 #[.pointer (some ⟨tz, 0, none⟩)] w (fun e w' => e = .returned (.tuple #[]) ∧ w' = w) := by
  go_enter Tryz.func222, Tryz.ntmps222
  go_wp2
  go_end0
  exact ⟨rfl, rfl⟩
def ColQ (col : Nat) (w : World) (e : Ending) (w' : World) : Prop := e = .returned (.int .i64 col) ∧ Below w.heap.size w w'
set_option maxRecDepth 100000 in
set_option maxHeartbeats 1000000 in
/-- Col, where something is left. -/
theorem tzCol {c : UInt8} (h : Tz w B tz sb rb rv bv tk (c :: r) line col k x) (hk : k ≠ 0) : Calls Tryz.prog 223 #[.pointer (some ⟨tz, 0, none⟩)] w (ColQ col w) := by
  obtain ⟨T, hb, e0, e1, e2, e3, hlow, hs⟩ := h
  have c1 := hb.cell_eq (i := 1) (by decide) e1
  have hp : Calls Tryz.prog 226 #[.pointer (some ⟨sb, 0, none⟩)] w (PosQ col w) := by
    rcases hs with ⟨h1, _⟩ | ⟨_, hs⟩ | ⟨_, hs⟩
    · exact absurd h1 hk
    · exact pos_col hs.st
    · exact pos_col hs
  have Hp := Lib.hid hp
  clear hb e0 e1 e2 e3 hs hp
  go_enter Tryz.func223, Tryz.ntmps223
  go_wp2_with fail
  refine Hp.out.mono ?_
  rintro e w1 ⟨nm, o, l, rfl, hbel⟩
  have Hb := Lib.hid hbel
  clear hbel
  have hf : ∀ (a b c d : Value) (u : World), (Instr.field 94 (.agg #[a, b, c, d]) 3).run Tryz.prog u = .ok d u := fun a b c d u => by kernel_rfl
  go_wp2
  go_ret
  exact ⟨rfl, Hb.out⟩
end
/-- What the scanner's variable holds at first. -/
def zS (i : Nat) : Value :=
  if i = 0 then .nilIface else if i ≤ 1025 then .int .u8 0 else if i = 1033 then .slice none 0 0 else if i = 1035 then .int .i8 0 else if i = 1038 then .int .i32 0 else
  if i = 1039 then .nilFunc else if i = 1041 then .int .u64 0 else if i = 1042 then .int .u64 0 else if i = 1043 then .nilFunc else if i = 1044 then .string ⟨#[]⟩ else .int .i64 0
set_option maxRecDepth 100000 in
theorem zero_scanner : Tryz.zeroCells96 = ((List.range 1048).map zS).toArray := by kernel_rfl

/-- What Init lays. -/
def InitW (w : World) (sb : Nat) (rv : Value) : World := ((((((((((((((((w.setCell ⟨sb, 0, none⟩ (rv)).setCell ⟨sb, 1, none⟩ (.int .u8 128)).setCell ⟨sb, 1026, none⟩ (.int .i64 0)).setCell ⟨sb, 1027, none⟩ (.int .i64 0)).setCell ⟨sb, 1028, none⟩ (.int .i64 0)).setCell ⟨sb, 1029, none⟩ (.int .i64 1)).setCell ⟨sb, 1030, none⟩ (.int .i64 0)).setCell ⟨sb, 1031, none⟩ (.int .i64 0)).setCell ⟨sb, 1032, none⟩ (.int .i64 0)).setCell ⟨sb, 1036, none⟩ (.int .i64 (-1))).setCell ⟨sb, 1038, none⟩ (.int .i32 (-2))).setCell ⟨sb, 1039, none⟩ (.nilFunc)).setCell ⟨sb, 1040, none⟩ (.int .i64 0)).setCell ⟨sb, 1041, none⟩ (.int .u64 1012)).setCell ⟨sb, 1042, none⟩ (.int .u64 4294977024)).setCell ⟨sb, 1046, none⟩ (.int .i64 0))
def InitS (S : Nat → Value) (rv : Value) : Nat → Value := (upd (upd (upd (upd (upd (upd (upd (upd (upd (upd (upd (upd (upd (upd (upd (upd S 0 (rv)) 1 (.int .u8 128)) 1026 (.int .i64 0)) 1027 (.int .i64 0)) 1028 (.int .i64 0)) 1029 (.int .i64 1)) 1030 (.int .i64 0)) 1031 (.int .i64 0)) 1032 (.int .i64 0)) 1036 (.int .i64 (-1))) 1038 (.int .i32 (-2))) 1039 (.nilFunc)) 1040 (.int .i64 0)) 1041 (.int .u64 1012)) 1042 (.int .u64 4294977024)) 1046 (.int .i64 0))
theorem InitW_blk {w : World} {sb : Nat} {S : Nat → Value} (h : Blk w sb 96 1048 S) (rv : Value) : Blk (InitW w sb rv) sb 96 1048 (InitS S rv) :=
  ((((((((((((((((h.set 0 (rv)).set 1 (.int .u8 128)).set 1026 (.int .i64 0)).set 1027 (.int .i64 0)).set 1028 (.int .i64 0)).set 1029 (.int .i64 1)).set 1030 (.int .i64 0)).set 1031 (.int .i64 0)).set 1032 (.int .i64 0)).set 1036 (.int .i64 (-1))).set 1038 (.int .i32 (-2))).set 1039 (.nilFunc)).set 1040 (.int .i64 0)).set 1041 (.int .u64 1012)).set 1042 (.int .u64 4294977024)).set 1046 (.int .i64 0))
theorem InitW_only (w : World) (sb : Nat) (rv : Value) : Only (fun k => k = sb) w (InitW w sb rv) :=
  (((((((((((((((((Only.refl (fun k => k = sb) w).setCell (p := ⟨sb, 0, none⟩) (fun _ => rfl) (rv)).setCell (p := ⟨sb, 1, none⟩) (fun _ => rfl) (.int .u8 128)).setCell (p := ⟨sb, 1026, none⟩) (fun _ => rfl) (.int .i64 0)).setCell (p := ⟨sb, 1027, none⟩) (fun _ => rfl) (.int .i64 0)).setCell (p := ⟨sb, 1028, none⟩) (fun _ => rfl) (.int .i64 0)).setCell (p := ⟨sb, 1029, none⟩) (fun _ => rfl) (.int .i64 1)).setCell (p := ⟨sb, 1030, none⟩) (fun _ => rfl) (.int .i64 0)).setCell (p := ⟨sb, 1031, none⟩) (fun _ => rfl) (.int .i64 0)).setCell (p := ⟨sb, 1032, none⟩) (fun _ => rfl) (.int .i64 0)).setCell (p := ⟨sb, 1036, none⟩) (fun _ => rfl) (.int .i64 (-1))).setCell (p := ⟨sb, 1038, none⟩) (fun _ => rfl) (.int .i32 (-2))).setCell (p := ⟨sb, 1039, none⟩) (fun _ => rfl) (.nilFunc)).setCell (p := ⟨sb, 1040, none⟩) (fun _ => rfl) (.int .i64 0)).setCell (p := ⟨sb, 1041, none⟩) (fun _ => rfl) (.int .u64 1012)).setCell (p := ⟨sb, 1042, none⟩) (fun _ => rfl) (.int .u64 4294977024)).setCell (p := ⟨sb, 1046, none⟩) (fun _ => rfl) (.int .i64 0))

set_option maxRecDepth 100000 in
set_option maxHeartbeats 4000000 in
theorem init_any (sb : Nat) (S : Nat → Value) (ty : TypeId) (ra : Option Addr) (w : World) (hb : Blk w sb 96 1048 S) :
    Calls Tryz.prog 47 #[.pointer (some ⟨sb, 0, none⟩), .iface ty (.pointer ra)] w (fun e w' => e = .returned (.pointer (some ⟨sb, 0, none⟩)) ∧ w' = InitW w sb (.iface ty (.pointer ra))) := by
  have k0 := hb.cell (i := 0) (by decide)
  have f0 := hb.frozen 0
  have k1 := hb.cell (i := 1) (by decide)
  have f1 := hb.frozen 1
  have k1026 := hb.cell (i := 1026) (by decide)
  have f1026 := hb.frozen 1026
  have k1027 := hb.cell (i := 1027) (by decide)
  have f1027 := hb.frozen 1027
  have k1028 := hb.cell (i := 1028) (by decide)
  have f1028 := hb.frozen 1028
  have k1029 := hb.cell (i := 1029) (by decide)
  have f1029 := hb.frozen 1029
  have k1030 := hb.cell (i := 1030) (by decide)
  have f1030 := hb.frozen 1030
  have k1031 := hb.cell (i := 1031) (by decide)
  have f1031 := hb.frozen 1031
  have k1032 := hb.cell (i := 1032) (by decide)
  have f1032 := hb.frozen 1032
  have k1036 := hb.cell (i := 1036) (by decide)
  have f1036 := hb.frozen 1036
  have k1038 := hb.cell (i := 1038) (by decide)
  have f1038 := hb.frozen 1038
  have k1039 := hb.cell (i := 1039) (by decide)
  have f1039 := hb.frozen 1039
  have k1040 := hb.cell (i := 1040) (by decide)
  have f1040 := hb.frozen 1040
  have k1041 := hb.cell (i := 1041) (by decide)
  have f1041 := hb.frozen 1041
  have k1042 := hb.cell (i := 1042) (by decide)
  have f1042 := hb.frozen 1042
  have k1046 := hb.cell (i := 1046) (by decide)
  have f1046 := hb.frozen 1046
  clear hb
  unfold InitW
  go_enter Tryz.func47, Tryz.ntmps47
  go_wp2
  go_ret
  exact ⟨rfl, rfl⟩

/-- The base of a file: its name. -/
def PB (w : World) (b : Nat) (nm : ByteArray) : Prop := ∃ S, Blk w b 129 8 S ∧ S 2 = .string nm

set_option maxRecDepth 100000 in
theorem makeLico_one (w : World) : Calls Tryz.prog 86 #[.int .u64 1, .int .u64 1] w (fun e w' => e = .returned (.int .u32 4112) ∧ w' = w) := by
  go_enter Tryz.func86, Tryz.ntmps86
  go_wp2
  go_ret
  exact ⟨rfl, rfl⟩

set_option maxRecDepth 100000 in
theorem makePos_one (b : Nat) (w : World) : Calls Tryz.prog 65 #[.pointer (some ⟨b, 0, none⟩), .int .u64 1, .int .u64 1] w (fun e w' => e = .returned (.agg #[.pointer (some ⟨b, 0, none⟩), .int .u32 4112]) ∧ Below w.heap.size w w') := by
  go_enter Tryz.func65, Tryz.ntmps65
  go_wp2_with fail
  refine (makeLico_one _).mono ?_
  rintro e w1 ⟨rfl, rfl⟩
  go_wp2
  exact bodyPost_ret (v := .agg #[.pointer (some ⟨b, 0, none⟩), .int .u32 4112]) (by simp [results, Tryz.results65, go_sem]) rfl ⟨rfl, (Below.refl _ _).alloc (Nat.le_refl _) _⟩

def BaseQ (nm : ByteArray) (w : World) (e : Ending) (w' : World) : Prop := ∃ b, e = .returned (.pointer (some ⟨b, 0, none⟩)) ∧ PB w' b nm ∧ w.heap.size ≤ b ∧ Below w.heap.size w w'

set_option maxRecDepth 100000 in
theorem newFileBase_any (nm nm2 : ByteArray) (w : World) : Calls Tryz.prog 49 #[.string nm, .string nm2] w (BaseQ nm w) := by
  go_enter Tryz.func49, Tryz.ntmps49
  go_wp2_with fail
  refine (makePos_one _ _).mono ?_
  rintro e w1 ⟨rfl, hb⟩
  have hB := (Blk.lit w #[.pointer none, .int .u32 0, .string nm, .string nm2, .int .u64 1, .int .u64 1, .int .i64 (-1), .int .i64 (-1)] 129).of_heap (hb.block _ (by simp))
  have c0 := hB.cell_eq (i := 0) (by simp) rfl
  have c1 := hB.cell_eq (i := 1) (by simp) rfl
  have f0 := hB.frozen 0
  have f1 := hB.frozen 1
  have hbel : Below w.heap.size w w1 := ((Below.refl _ _).alloc (Nat.le_refl _) _).trans (hb.mono (by simp))
  have hfin : BaseQ nm w (.returned (.pointer (some ⟨w.heap.size, 0, none⟩))) ((w1.setCell ⟨w.heap.size, 0, none⟩ (.pointer (some ⟨w.heap.size, 0, none⟩))).setCell ⟨w.heap.size, 1, none⟩ (.int .u32 4112)) :=
    ⟨_, rfl, ⟨_, (hB.set 0 _).set 1 _, by rw [upd_other _ _ (by omega), upd_other _ _ (by omega)]; rfl⟩, Nat.le_refl _, (hbel.setCell (by simp) _).setCell (by simp) _⟩
  have Hfin := Lib.hid hfin
  clear hb hB hbel hfin
  go_wp2
  go_ret
  exact Hfin.out

theorem Only.ofBelow {B : Nat} {a w : World} (h : Below B a w) : Only (fun k => B ≤ k) a w := ⟨h.os, h.tape, h.output, h.size, fun k _ hd => h.block k (by omega)⟩

/-- What NewTokenizer leaves. -/
def NewTQ (B rb : Nat) (rv : Value) (nm : ByteArray) (text : Bs) (w : World) (e : Ending) (w' : World) : Prop :=
  ∃ tz sb bb, e = .returned (.pointer (some ⟨tz, 0, none⟩)) ∧ Tz w' B tz sb rb rv (.pointer (some ⟨bb, 0, none⟩)) none text 1 1 0 [] ∧ PB w' bb nm ∧ w.heap.size ≤ tz ∧ w.heap.size ≤ sb ∧ w.heap.size ≤ bb ∧ Below w.heap.size w w'

def tzS (rv : Value) (nm : ByteArray) : Nat → Value := upd (upd (upd (upd (InitS zS rv) 1042 (.int .u64 4294976000)) 1041 (.int .u64 380)) 1044 (.string nm)) 1043 (.func (.func 48) #[] #[])

theorem tz_start {w : World} {B sb rb : Nat} {rv : Value} {nm : ByteArray} {text : Bs} (hb : Blk w sb 96 1048 (tzS rv nm)) (hlow : B ≤ sb) (hr : Rdr w B rv rb text) (ha : ascii text) (hl : text.length < 9000000) :
    St w B sb rb rv none (-2) true text 1 none := by
  refine ⟨⟨0, 0, 0, 1, 0, 0, 0, -1, 0, -2, 0, 0, 0, 0, nm, fun i => if i = 0 then 128 else 0, text, []⟩, ⟨tzS rv nm, ?_⟩, ?_, rfl⟩
  · refine { blk := hb, low := hlow, rdr := hr, tb := ⟨rfl, ⟨0, rfl⟩, by simp, .inl ⟨rfl, rfl, rfl⟩⟩, s0 := rfl, sbuf := ?_, s1026 := rfl, s1027 := rfl, s1028 := rfl, s1029 := rfl, s1030 := rfl, s1031 := rfl, s1032 := rfl, s1036 := rfl, s1037 := rfl, s1038 := rfl, s1040 := rfl, s1045 := rfl, s1046 := rfl, s1047 := rfl, s1039 := rfl, s1041 := rfl, s1042 := rfl, s1043 := rfl, s1044 := rfl }
    intro i hi
    by_cases h0 : i = 0
    · subst h0; rfl
    · unfold tzS InitS
      repeat rw [upd_other _ _ (by omega)]
      unfold zS
      rw [if_neg (by omega), if_pos (by omega)]
      simp [h0]
  · exact { ple := Nat.le_refl _, fle := by simp, sent := rfl, lll := by simp, asc := ha, clen := by omega, col1 := Nat.le_refl _, lc := rfl, unread := rfl, atChar := fun h => (by cases h), cols := ⟨rfl, rfl⟩, tok := rfl }

set_option maxRecDepth 100000 in
set_option maxHeartbeats 2000000 in
theorem newTok_any {w : World} {B rb : Nat} {ty : TypeId} {ra : Option Addr} {nm : ByteArray} {text : Bs} (hB : B ≤ w.heap.size) (hr : Rdr w B (.iface ty (.pointer ra)) rb text) (hrb : rb < w.heap.size) (ha : ascii text) (hl : text.length < 9000000) :
    Calls Tryz.prog 32 #[.string nm, .iface ty (.pointer ra)] w (NewTQ B rb (.iface ty (.pointer ra)) nm text w) := by
  have hB1 : Blk (w.alloc (.cells Tryz.zeroCells96 96)) w.heap.size 96 1048 zS := by
    rw [zero_scanner]
    exact Blk.new w _ _ (by simp) (fun i hi => by simp [hi])
  have hbel1 : Below w.heap.size w (w.alloc (.cells Tryz.zeroCells96 96)) := (Below.refl _ _).alloc (Nat.le_refl _) _
  have Hr := Lib.hid hr
  have Ha := Lib.hid ha
  have Hrb := Lib.hid hrb
  clear hr ha hrb
  go_enter Tryz.func32, Tryz.ntmps32
  go_wp2_with fail
  obtain ⟨sb, hsb⟩ : ∃ sb, sb = w.heap.size := ⟨_, rfl⟩
  rw [← hsb] at hB1 hbel1 ⊢
  have Hsb := Lib.hid hsb
  clear hsb
  generalize w.alloc (.cells Tryz.zeroCells96 96) = w1 at hB1 hbel1 ⊢
  have hi := init_any sb zS ty ra w1 hB1
  have hB2 := InitW_blk hB1 (.iface ty (.pointer ra))
  have hbel2 : Below sb w (InitW w1 sb (.iface ty (.pointer ra))) := hbel1.trans ((InitW_only w1 sb (.iface ty (.pointer ra))).below (Nat.le_of_lt hB1.lt) (fun k hk e => by omega))
  have Hi := Lib.hid hi
  clear hi hB1 hbel1
  refine Hi.out.mono ?_
  rintro e w2 ⟨rfl, hw2⟩
  rw [← hw2] at hB2 hbel2
  clear hw2 Hi
  have c42 := hB2.cell (i := 1042) (by decide)
  have c41 := hB2.cell (i := 1041) (by decide)
  have c44 := hB2.cell (i := 1044) (by decide)
  have c43 := hB2.cell (i := 1043) (by decide)
  have f42 := hB2.frozen 1042
  have f41 := hB2.frozen 1041
  have f44 := hB2.frozen 1044
  have f43 := hB2.frozen 1043
  have HB2 := Lib.hid hB2
  have Hbel2 := Lib.hid hbel2
  clear hB2 hbel2
  go_wp2_with fail
  have hB3 : Blk ((((w2.setCell ⟨sb, 1042, none⟩ (.int .u64 4294976000)).setCell ⟨sb, 1041, none⟩ (.int .u64 380)).setCell ⟨sb, 1044, none⟩ (.string nm)).setCell ⟨sb, 1043, none⟩ (.func (.func 48) #[] #[])) sb 96 1048 (tzS (.iface ty (.pointer ra)) nm) :=
    (((HB2.out.set 1042 _).set 1041 _).set 1044 _).set 1043 _
  have hbel3 : Below sb w ((((w2.setCell ⟨sb, 1042, none⟩ (.int .u64 4294976000)).setCell ⟨sb, 1041, none⟩ (.int .u64 380)).setCell ⟨sb, 1044, none⟩ (.string nm)).setCell ⟨sb, 1043, none⟩ (.func (.func 48) #[] #[])) :=
    (((Hbel2.out.setCell (by simp) _).setCell (by simp) _).setCell (by simp) _).setCell (by simp) _
  generalize ((((w2.setCell ⟨sb, 1042, none⟩ (.int .u64 4294976000)).setCell ⟨sb, 1041, none⟩ (.int .u64 380)).setCell ⟨sb, 1044, none⟩ (.string nm)).setCell ⟨sb, 1043, none⟩ (.func (.func 48) #[] #[])) = w3 at hB3 hbel3 ⊢
  have HB3 := Lib.hid hB3
  have Hbel3 := Lib.hid hbel3
  clear hB3 hbel3 HB2 Hbel2 c42 c41 c44 c43 f42 f41 f44 f43
  refine (newFileBase_any nm nm w3).mono ?_
  rintro e w4 ⟨bb, rfl, hpb, hbb, hbel4⟩
  have hlt := HB3.out.lt
  have hfin : NewTQ B rb (.iface ty (.pointer ra)) nm text w (.returned (.pointer (some ⟨w4.heap.size, 0, none⟩))) (w4.alloc (.cells #[.int .i32 0, .pointer (some ⟨sb, 0, none⟩), .pointer (some ⟨bb, 0, none⟩), .int .i64 1] 102)) := by
    have hb5 : Blk (w4.alloc (.cells #[.int .i32 0, .pointer (some ⟨sb, 0, none⟩), .pointer (some ⟨bb, 0, none⟩), .int .i64 1] 102)) sb 96 1048 (tzS (.iface ty (.pointer ra)) nm) := (HB3.out.of_heap (hbel4.block _ hlt)).alloc _
    have hsz : sb ≤ w3.heap.size := Nat.le_of_lt hlt
    have hs := hbel4.size
    have hall : Below sb w (w4.alloc (.cells #[.int .i32 0, .pointer (some ⟨sb, 0, none⟩), .pointer (some ⟨bb, 0, none⟩), .int .i64 1] 102)) := (Hbel3.out.trans (hbel4.mono hsz)).alloc (by omega) _
    have hr5 := Hr.out.only (Only.ofBelow hall) (by have := Hrb.out; have := Hsb.out; omega)
    have hw : w.heap.size = sb := Hsb.out.symm
    refine ⟨w4.heap.size, sb, bb, rfl, ⟨_, Blk.lit w4 _ _, rfl, rfl, rfl, rfl, ?_, .inl ⟨rfl, rfl, rfl, tz_start hb5 (by omega) hr5 Ha.out hl⟩⟩, ?_, by omega, by omega, by omega, by rw [hw]; exact hall⟩
    · omega
    · obtain ⟨S, hS, hn⟩ := hpb
      exact ⟨S, hS.alloc _, hn⟩
  have Hfin := Lib.hid hfin
  clear hfin hpb hbb hbel4 hlt
  go_wp2
  go_ret
  exact Hfin.out
/-- Tokens as cells. -/
def cellsT (ts : List (Int × Bs)) : List Value := ts.flatMap fun t => [.int .i32 t.1, .string (mkS t.2)]
theorem cellsT_len (ts : List (Int × Bs)) : (cellsT ts).length = ts.length * 2 := by
  induction ts with
  | nil => rfl
  | cons t r ih => simp only [cellsT, List.flatMap_cons, List.length_append, List.length_cons, List.length_nil] at *; omega
theorem cellsT_get : ∀ (ts : List (Int × Bs)) (i : Nat) (t : Int × Bs), ts[i]? = some t → (cellsT ts)[2 * i]? = some (.int .i32 t.1) ∧ (cellsT ts)[2 * i + 1]? = some (.string (mkS t.2))
  | [], i, t, h => by simp at h
  | s :: r, 0, t, h => by
    simp at h; subst h
    exact ⟨rfl, rfl⟩
  | s :: r, i + 1, t, h => by
    have := cellsT_get r i t (by simpa using h)
    rw [show 2 * (i + 1) = 2 * i + 2 by omega, show 2 * i + 2 + 1 = 2 * i + 1 + 2 by omega]
    exact this

/-- v is a slice of these tokens. -/
def Toki (w : World) (v : Value) (ts : List (Int × Bs)) : Prop := w.ownsRow 0 116 2 v ts.length (cellsT ts)
theorem ownsRow_only {w w' : World} {B : Nat} {e : TypeId} {size : Nat} {v : Value} {n : Nat} {xs : List Value} (h : w.ownsRow B e size v n xs) (hb : ∀ k, v.ownBlock = some k → w'.heap[k]? = w.heap[k]?) : w'.ownsRow B e size v n xs := by
  obtain ⟨h1, h2⟩ := h
  refine ⟨h1, h2.imp id ?_⟩
  rintro ⟨g, cap, cur, rfl, a, b, c⟩
  exact ⟨g, cap, cur, rfl, a, (hb g rfl).trans b, c⟩
theorem ownsRow_type {w : World} {B : Nat} {e : TypeId} {size : Nat} {v : Value} {n : Nat} {xs : List Value} (h : w.ownsRow B e size v n xs) {k : Nat} (hk : v.ownBlock = some k) : ∃ c m, w.heap[k]? = some (.cells c e (0, 0)) ∧ m = c.size := by
  obtain ⟨h1, ⟨rfl, _⟩ | ⟨g, cap, cur, rfl, a, b, c⟩⟩ := h
  · cases hk
  · cases hk; exact ⟨cur, _, b, rfl⟩
theorem Toki.cell {w : World} {v : Value} {ts : List (Int × Bs)} (h : Toki w v ts) {i : Nat} {t : Int × Bs} (hi : ts[i]? = some t) :
    ∃ g cap, v = .slice (some ⟨g, 0, none⟩) ts.length cap ∧ ts.length ≤ cap ∧ cap ≤ maxLen ∧ w.cell? ⟨g, i * 2, none⟩ = some (.int .i32 t.1) ∧ w.cell? ⟨g, i * 2 + 1, none⟩ = some (.string (mkS t.2)) := by
  have hlt := (List.getElem?_eq_some_iff.1 hi).1
  have h' := h
  obtain ⟨h1, ⟨rfl, h0⟩ | ⟨g, cap, cur, rfl, a, b, c, d, e, f⟩⟩ := h
  · omega
  · refine ⟨g, cap, rfl, c, d, ?_, ?_⟩
    · have := h'.cells (g := g) rfl (2 * i) _ (cellsT_get ts i t hi).1
      rwa [Addr.add_lit, Nat.zero_add, Nat.mul_comm] at this
    · have := h'.cells (g := g) rfl (2 * i + 1) _ (cellsT_get ts i t hi).2
      rwa [Addr.add_lit, Nat.zero_add, Nat.mul_comm] at this

/-- THE READER IN BLOCK sl has told n of the tokens. -/
def Sl (w : World) (B sl : Nat) (tv bv : Value) (line : Nat) (all : List (Int × Bs)) (n : Nat) : Prop :=
  ∃ S, Blk w sl 161 4 S ∧ S 0 = tv ∧ S 1 = bv ∧ S 2 = .int .i64 (line : Nat) ∧ S 3 = .int .i64 ((n : Int) - 1) ∧ B ≤ sl ∧ Toki w tv all

def SlNewQ (B : Nat) (tv bv : Value) (line : Nat) (all : List (Int × Bs)) (w : World) (e : Ending) (w' : World) : Prop :=
  ∃ sl, e = .returned (.pointer (some ⟨sl, 0, none⟩)) ∧ Sl w' B sl tv bv line all 0 ∧ w.heap.size ≤ sl ∧ Below w.heap.size w w'

set_option maxRecDepth 100000 in
theorem newSlice_any {w : World} {B : Nat} {ta ba : Option Addr} {tl tc : Nat} {line : Nat} {all : List (Int × Bs)} (hB : B ≤ w.heap.size) (ht : Toki w (.slice ta tl tc) all) :
    Calls Tryz.prog 74 #[.pointer ba, .int .i64 line, .slice ta tl tc] w (SlNewQ B (.slice ta tl tc) (.pointer ba) line all w) := by
  have hfin : SlNewQ B (.slice ta tl tc) (.pointer ba) line all w (.returned (.pointer (some ⟨w.heap.size, 0, none⟩))) (w.alloc (.cells #[.slice ta tl tc, .pointer ba, .int .i64 line, .int .i64 (-1)] 161)) :=
    ⟨_, rfl, ⟨_, Blk.lit w _ _, rfl, rfl, rfl, rfl, hB, ownsRow_only ht (fun k hk => by
      obtain ⟨c, m, hc, _⟩ := ownsRow_type ht hk
      exact Below.heap_alloc w _ k (Array.getElem?_eq_some_iff.1 hc).1)⟩, Nat.le_refl _, (Below.refl _ _).alloc (Nat.le_refl _) _⟩
  have Hfin := Lib.hid hfin
  clear hfin ht
  go_enter Tryz.func74, Tryz.ntmps74
  go_wp2
  go_ret
  exact Hfin.out

section
variable {w : World} {B sl : Nat} {tv bv : Value} {line : Nat} {all : List (Int × Bs)} {n : Nat}

theorem Sl.next (h : Sl w B sl tv bv line all n) (m : Nat) : Sl ((w.setCell ⟨sl, 3, none⟩ (.int .i64 (n : Nat))).drewN m) B sl tv bv line all (n + 1) := by
  obtain ⟨S, hb, h0, h1, h2, h3, hl, ht⟩ := h
  refine ⟨_, (hb.set 3 _).drewN m, (upd_other _ _ (by omega)).trans h0, (upd_other _ _ (by omega)).trans h1, (upd_other _ _ (by omega)).trans h2, (upd_same _ _ _).trans ?_, hl, ownsRow_only ht (fun k hk => ?_)⟩
  · congr 1; omega
  · obtain ⟨c, m', hc, _⟩ := ownsRow_type ht hk
    refine Below.heap_setCell w _ _ k (fun e => ?_)
    obtain ⟨c', hb1, _⟩ := hb
    subst e
    rw [hc] at hb1
    simp at hb1

def SlQ (B sl : Nat) (tv bv : Value) (line : Nat) (all : List (Int × Bs)) (n : Nat) (k : Int) (w : World) (e : Ending) (w' : World) : Prop :=
  e = .returned (.int .i32 k) ∧ Sl w' B sl tv bv line all n ∧ Only (fun k => k = sl) w w'

set_option maxRecDepth 100000 in
set_option maxHeartbeats 1000000 in
theorem slNext_some {t : Int × Bs} (h : Sl w B sl tv bv line all n) (ht : all[n]? = some t) (hl : all.length < 1000000) :
    Calls Tryz.prog 244 #[.pointer (some ⟨sl, 0, none⟩)] w (SlQ B sl tv bv line all (n + 1) t.1 w) := by
  have hn := h.next
  obtain ⟨S, hb, h0, h1, h2, h3, hlow, htok⟩ := h
  obtain ⟨g, cap, rfl, hc1, hc2, k0, k1⟩ := htok.cell ht
  have hlt := (List.getElem?_eq_some_iff.1 ht).1
  have hne : ¬ sl = g := fun e => by
    obtain ⟨c, m, hc, _⟩ := ownsRow_type htok (k := g) rfl
    obtain ⟨c', hb1, _⟩ := hb
    subst e
    rw [hc] at hb1
    simp at hb1
  have c0 := hb.cell_eq (i := 0) (by decide) h0
  have c3 := hb.cell_eq (i := 3) (by decide) h3
  have f3 := hb.frozen 3
  have e1 : IntKind.i64.wrap ((n : Int) - 1 + 1) = (n : Int) := by rw [show (n : Int) - 1 + 1 = (n : Int) by omega]; exact IntWalk.i64_in _ (by omega)
  have e2 : wrap64 ((n : Int) - 1 + 1) = (n : Int) := by unfold wrap64; omega
  have Hn := Lib.hid hn
  unfold maxLen at hc2
  clear hb h0 h1 h2 h3 htok ht hn
  obtain ⟨L, hL⟩ : ∃ L, L = all.length := ⟨_, rfl⟩
  rw [← hL] at hlt hc1 hl c0
  have HL := Lib.hid hL
  have hnl : (n : Int) < (L : Int) := by omega
  clear hL
  go_enter Tryz.func244, Tryz.ntmps244
  go_wp2
  go_quiet (fail)
  go_wp2
  go_quiet (fail)
  go_wp2
  go_ret
  rw [World.drewN_drewN]
  exact ⟨rfl, Hn.out _, ((Only.refl (fun k => k = sl) w).setCell (p := ⟨sl, 3, none⟩) (fun _ => rfl) _).drewN _⟩

set_option maxRecDepth 100000 in
set_option maxHeartbeats 1000000 in
theorem slNext_none (h : Sl w B sl tv bv line all n) (hn : n = all.length) (hl : all.length < 1000000) :
    Calls Tryz.prog 244 #[.pointer (some ⟨sl, 0, none⟩)] w (SlQ B sl tv bv line all (n + 1) (-1) w) := by
  have hn1 := h.next
  obtain ⟨S, hb, h0, h1, h2, h3, hlow, htok⟩ := h
  obtain ⟨ta, tc, rfl⟩ : ∃ ta tc, tv = .slice ta all.length tc := by
    obtain ⟨_, ⟨rfl, e⟩ | ⟨g, cap, cur, rfl, _⟩⟩ := htok
    · exact ⟨none, 0, by rw [e]⟩
    · exact ⟨_, _, rfl⟩
  have c0 := hb.cell_eq (i := 0) (by decide) h0
  have c3 := hb.cell_eq (i := 3) (by decide) h3
  have f3 := hb.frozen 3
  have e1 : IntKind.i64.wrap ((n : Int) - 1 + 1) = (n : Int) := by rw [show (n : Int) - 1 + 1 = (n : Int) by omega]; exact IntWalk.i64_in _ (by omega)
  have e2 : wrap64 ((n : Int) - 1 + 1) = (n : Int) := by unfold wrap64; omega
  have Hn := Lib.hid hn1
  clear hb h0 h1 h2 h3 htok hn1
  obtain ⟨L, hL⟩ : ∃ L, L = all.length := ⟨_, rfl⟩
  rw [← hL] at hn hl c0
  have HL := Lib.hid hL
  clear hL
  subst hn
  go_enter Tryz.func244, Tryz.ntmps244
  go_wp2
  go_quiet (fail)
  go_wp2
  go_ret
  exact ⟨rfl, Hn.out _, ((Only.refl (fun k => k = sl) w).setCell (p := ⟨sl, 3, none⟩) (fun _ => rfl) _).drewN _⟩

set_option maxRecDepth 100000 in
set_option maxHeartbeats 1000000 in
theorem slText {t : Int × Bs} (h : Sl w B sl tv bv line all (n + 1)) (ht : all[n]? = some t) (hl : all.length < 1000000) :
    Calls Tryz.prog 246 #[.pointer (some ⟨sl, 0, none⟩)] w (fun e w' => e = .returned (.string (mkS t.2)) ∧ ∃ m, w' = w.drewN m) := by
  obtain ⟨S, hb, h0, h1, h2, h3, hlow, htok⟩ := h
  obtain ⟨g, cap, rfl, hc1, hc2, k0, k1⟩ := htok.cell ht
  have hlt := (List.getElem?_eq_some_iff.1 ht).1
  have c0 := hb.cell_eq (i := 0) (by decide) h0
  have c3 := hb.cell_eq (i := 3) (by decide) (h3.trans (by rw [show (((n + 1 : Nat) : Int) - 1) = (n : Int) by omega]))
  unfold maxLen at hc2
  clear hb h0 h1 h2 h3 htok ht
  obtain ⟨L, hL⟩ : ∃ L, L = all.length := ⟨_, rfl⟩
  rw [← hL] at hlt hc1 hl c0
  have hnl : (n : Int) < (L : Int) := by omega
  clear hL
  go_enter Tryz.func246, Tryz.ntmps246
  go_wp2
  go_quiet (fail)
  go_wp2
  go_ret
  exact ⟨rfl, _, rfl⟩

set_option maxRecDepth 100000 in
theorem slLine (h : Sl w B sl tv bv line all n) : Calls Tryz.prog 243 #[.pointer (some ⟨sl, 0, none⟩)] w (fun e w' => e = .returned (.int .i64 line) ∧ w' = w) := by
  obtain ⟨S, hb, h0, h1, h2, h3, hlow, htok⟩ := h
  have c2 := hb.cell_eq (i := 2) (by decide) h2
  clear hb h0 h1 h2 h3 htok
  go_enter Tryz.func243, Tryz.ntmps243
  go_wp2
  go_ret
  exact ⟨rfl, rfl⟩
set_option maxRecDepth 100000 in
theorem slBase (h : Sl w B sl tv bv line all n) : Calls Tryz.prog 239 #[.pointer (some ⟨sl, 0, none⟩)] w (fun e w' => e = .returned bv ∧ w' = w) := by
  obtain ⟨S, hb, h0, h1, h2, h3, hlow, htok⟩ := h
  have c1 := hb.cell_eq (i := 1) (by decide) h1
  clear hb h0 h1 h2 h3 htok
  go_enter Tryz.func239, Tryz.ntmps239
  go_wp2
  go_ret
  exact ⟨rfl, rfl⟩
set_option maxRecDepth 100000 in
theorem slClose (sl : Nat) (w : World) : Calls Tryz.prog 240 #[.pointer (some ⟨sl, 0, none⟩)] w (fun e w' => e = .returned (.tuple #[]) ∧ w' = w) := by
  go_enter Tryz.func240, Tryz.ntmps240
  go_wp2
  go_end0
  exact ⟨rfl, rfl⟩
end
def sTok (line : Nat) (t : Int × Bs) : Tok := ⟨t.1, t.2, line, 0⟩

/-- THE READER v: what it may write (D), its base's block, the token that it told last, the tokens to come. -/
inductive Rd (w : World) (B : Nat) : Value → (Nat → Prop) → Nat → Tok → List Tok → Prop
  | tz {tz sb rb rv tk r bb cur ts} : Tz w B tz sb rb rv (.pointer (some ⟨bb, 0, none⟩)) tk r cur.line cur.col cur.k cur.x → TL r cur.line cur.col ts → cur.line + r.length < 1000000 → cur.x.length ≤ 64 → Rd w B (.iface 61 (.pointer (some ⟨tz, 0, none⟩))) (TzD tz sb rb tk) bb cur ts
  | sl {sl tv line all n bb cur} : Sl w B sl tv (.pointer (some ⟨bb, 0, none⟩)) line all n → n ≤ all.length → all.length < 1000000 → (∀ t ∈ all, t.1 ≠ -1) → cur.line = line → (cur.k = 0 ∨ ∃ m t, n = m + 1 ∧ all[m]? = some t ∧ cur = sTok line t) → Rd w B (.iface 132 (.pointer (some ⟨sl, 0, none⟩))) (fun k => k = sl) bb cur ((all.drop n).map (sTok line))

/-- The types of the blocks that readers write. -/
def RT (T : TypeId) : Prop := T = 102 ∨ T = 96 ∨ T = 11 ∨ T = 104 ∨ T = 5 ∨ T = 161
def Typed (w : World) (k : Nat) (P : TypeId → Prop) : Prop := ∃ c T, w.heap[k]? = some (.cells c T (0, 0)) ∧ P T
theorem Blk.typed {w : World} {b : Nat} {T : TypeId} {n : Nat} {S : Nat → Value} {P : TypeId → Prop} (h : Blk w b T n S) (hp : P T) : Typed w b P := by
  obtain ⟨c, h1, _⟩ := h; exact ⟨c, T, h1, hp⟩
theorem Typed.lt {w : World} {k : Nat} {P : TypeId → Prop} (h : Typed w k P) : k < w.heap.size := by
  obtain ⟨c, T, h1, _⟩ := h; exact (Array.getElem?_eq_some_iff.1 h1).1

theorem St.typed {w : World} {B sb rb : Nat} {rv : Value} {tk : Option Nat} {ch : Int} {fr : Bool} {r : Bs} {col : Nat} {x : Option Bs} (h : St w B sb rb rv tk ch fr r col x) : ∀ k, (k = sb ∨ k = rb ∨ tk = some k) → Typed w k RT := by
  obtain ⟨N, ⟨S', h⟩, _⟩ := h
  rintro k (e | e | e)
  · exact e ▸ h.blk.typed (.inr (.inl rfl))
  · subst e
    obtain ⟨_, ⟨_, S2, z, hr, _⟩ | ⟨_, S2, t, i, p, hr, _⟩⟩ := h.rdr
    · exact hr.typed (.inr (.inr (.inl rfl)))
    · exact hr.typed (.inr (.inr (.inr (.inl rfl))))
  · obtain ⟨_, _, _, ⟨e', _⟩ | ⟨k', e', _, _, F, hF, _⟩⟩ := h.tb
    · rw [e'] at e; cases e
    · rw [e'] at e; cases e; exact hF.typed (.inr (.inr (.inr (.inr (.inl rfl)))))
theorem ScK.stx {w : World} {B sb rb : Nat} {rv : Value} {tk : Option Nat} {r : Bs} {col : Nat} {k : Int} {x : Bs} (h : ScK w B sb rb rv tk r col k x) : ∃ ch fr x0, St w B sb rb rv tk ch fr r col x0 := by
  rcases h with ⟨_, _, h1, h⟩ | ⟨_, h⟩ | ⟨_, h⟩
  · subst h1; exact ⟨_, _, _, h⟩
  · exact ⟨_, _, _, h.st⟩
  · exact ⟨_, _, _, h⟩

section
variable {w w' : World} {B : Nat} {v : Value} {D : Nat → Prop} {bb : Nat} {cur : Tok} {ts : List Tok}
theorem Rd.foot (h : Rd w B v D bb cur ts) : ∀ k, D k → B ≤ k ∧ Typed w k RT := by
  cases h with
  | tz h1 =>
    obtain ⟨T, hb, _, _, _, _, hlow, hs⟩ := h1
    obtain ⟨ch, fr, x0, hst⟩ := hs.stx
    rintro k (e | e)
    · exact ⟨e ▸ hlow, e ▸ hb.typed (.inl rfl)⟩
    · exact ⟨hst.above k e, hst.typed k e⟩
  | sl h1 =>
    obtain ⟨S, hb, _, _, _, _, hlow, _⟩ := h1
    rintro k rfl
    exact ⟨hlow, hb.typed (.inr (.inr (.inr (.inr (.inr rfl)))))⟩

/-- Other blocks change: none of the reader's own, and no list of tokens. -/
theorem Rd.only {E : Nat → Prop} (h : Rd w B v D bb cur ts) (ho : Only E w w') (hd : ∀ k, D k → ¬ E k) (ht : ∀ k, E k → k < w.heap.size → ¬ Typed w k (· = 116)) : Rd w' B v D bb cur ts := by
  cases h with
  | tz h1 h2 h3 h4 => exact .tz (h1.only ho hd) h2 h3 h4
  | sl h1 h2 h3 h4 h5 h6 =>
    obtain ⟨S, hb, a0, a1, a2, a3, hlow, htok⟩ := h1
    refine .sl ⟨S, hb.only ho (hd _ rfl), a0, a1, a2, a3, hlow, ownsRow_only htok (fun k hk => ?_)⟩ h2 h3 h4 h5 h6
    obtain ⟨c, m, hc, _⟩ := ownsRow_type htok hk
    have hlt := (Array.getElem?_eq_some_iff.1 hc).1
    exact ho.block k hlt (fun he => ht k he hlt ⟨c, _, hc, rfl⟩)
end

theorem rt_not_token {w : World} {k : Nat} (h : Typed w k RT) : ¬ Typed w k (· = 116) := by
  rintro ⟨c', T', h', e⟩
  obtain ⟨c, T, h1, h2⟩ := h
  rw [h1] at h'
  have : T = T' := by simpa using (Option.some.inj h' : Obj.cells c T (0, 0) = Obj.cells c' T' (0, 0)) |> fun x => (Obj.cells.inj x).2.1
  rw [e] at this
  subst this
  rcases h2 with h | h | h | h | h | h <;> exact absurd h (by decide)

/-- The number of a reader's method. -/
def isTz (v : Value) : Prop := ∃ tz, v = .iface 61 (.pointer (some ⟨tz, 0, none⟩))

/-- What a reader's Next leaves: t is told. -/
def RdQ (B : Nat) (v : Value) (D : Nat → Prop) (bb : Nat) (t : Tok) (ts : List Tok) (w : World) (e : Ending) (w' : World) : Prop :=
  e = .returned (.int .i32 t.k) ∧ ∃ D', Rd w' B v D' bb t ts ∧ Only D w w' ∧ (∀ k, D' k → D k ∨ w.heap.size ≤ k)

theorem tzd_grow {w : World} {tz sb rb : Nat} {tk tk' : Option Nat} (h : TkTo w tk tk') : ∀ k, TzD tz sb rb tk' k → TzD tz sb rb tk k ∨ w.heap.size ≤ k := by
  rintro k (e | e | e | e)
  · exact .inl (.inl e)
  · exact .inl (.inr (.inl e))
  · exact .inl (.inr (.inr (.inl e)))
  · rcases h with rfl | ⟨_, k', e', hle⟩
    · exact .inl (.inr (.inr (.inr e)))
    · rw [e'] at e; cases e; exact .inr hle

theorem line_le {r : Bs} {k : Int} {x z r' : Bs} {line : Nat} (h : TNext r k x z r') (hl : line + r.length < 1000000) : lineAt line k + r'.length < 1000000 := by
  have hs := h.split
  have hlen : r.length = z.length + r'.length := by rw [hs, List.length_append]
  unfold lineAt
  split
  · rename_i e
    have : 1 ≤ z.length := by
      clear hlen hs
      induction h with
      | gap _ _ _ _ _ ih =>
        simp; omega
      | @one ws k x r' _ hk =>
        cases hk with
        | char => simp
        | _ => cases e
      | pair => simp
    omega
  · omega

section
variable {w : World} {B : Nat} {v : Value} {D : Nat → Prop} {bb : Nat} {cur : Tok} {ts : List Tok} {ev : Value}

/-- A tokenizer tells the next token. -/
theorem rdNext_tz {tz : Nat} {t : Tok} (h : Rd w B (.iface 61 (.pointer (some ⟨tz, 0, none⟩))) D bb cur (t :: ts)) (hg : Glob w ev) (hB : 21 ≤ B) :
    Calls Tryz.prog 82 #[.pointer (some ⟨tz, 0, none⟩)] w (RdQ B (.iface 61 (.pointer (some ⟨tz, 0, none⟩))) D bb t ts w) := by
  generalize hts : t :: ts = tt at h
  cases h with
  | tz h1 h2 h3 h4 =>
    subst hts
    cases h2 with
    | cons ht hk htl =>
      refine (tzNext h1 hg hB ht (by omega)).mono ?_
      rintro e w' ⟨rfl, tk', hz, htk, ho⟩
      exact ⟨rfl, _, .tz hz htl (line_le ht h3) (TNext.len ht), ho, tzd_grow htk⟩

/-- .. or its end. -/
theorem rdEof_tz {tz : Nat} (h : Rd w B (.iface 61 (.pointer (some ⟨tz, 0, none⟩))) D bb cur []) (hg : Glob w ev) (hB : 21 ≤ B) :
    Calls Tryz.prog 82 #[.pointer (some ⟨tz, 0, none⟩)] w (fun e w' => ∃ c, RdQ B (.iface 61 (.pointer (some ⟨tz, 0, none⟩))) D bb ⟨-1, [], cur.line, c⟩ [] w e w') := by
  generalize hts : ([] : List Tok) = tt at h
  cases h with
  | tz h1 h2 h3 h4 =>
    subst hts
    cases h2 with
    | nil ht =>
      refine (tzNext h1 hg hB ht (by omega)).mono ?_
      rintro e w' ⟨rfl, tk', hz, htk, ho⟩
      refine ⟨_, rfl, _, .tz (cur := ⟨-1, [], cur.line, _⟩) hz (.nil (z := []) ?_) ?_ (by simp), ho, tzd_grow htk⟩
      · exact .one (ws := []) (x := []) (by simp) .eof (by decide) (by simp) (by intro d n e; cases e)
      · have := line_le ht h3; unfold lineAt at this; simpa using this

theorem rdNext_sl {sl : Nat} {t : Tok} (h : Rd w B (.iface 132 (.pointer (some ⟨sl, 0, none⟩))) D bb cur (t :: ts)) :
    Calls Tryz.prog 244 #[.pointer (some ⟨sl, 0, none⟩)] w (RdQ B (.iface 132 (.pointer (some ⟨sl, 0, none⟩))) D bb t ts w) := by
  generalize hts : t :: ts = tt at h
  cases h with
  | @sl _ tv line all n _ _ h1 h2 h3 h4 h5 h6 =>
    have hlt : n < all.length := by
      rcases Nat.lt_or_ge n all.length with h | h
      · exact h
      · rw [List.drop_eq_nil_of_le h] at hts; cases hts
    rw [List.drop_eq_getElem_cons hlt, List.map_cons] at hts
    obtain ⟨rfl, rfl⟩ := List.cons.inj hts
    have hget : all[n]? = some all[n] := List.getElem?_eq_getElem hlt
    refine (slNext_some h1 hget h3).mono ?_
    rintro e w' ⟨rfl, hs, ho⟩
    exact ⟨rfl, _, .sl hs hlt h3 h4 rfl (.inr ⟨n, all[n], rfl, hget, rfl⟩), ho, fun k hk => .inl hk⟩

theorem rdEof_sl {sl : Nat} (h : Rd w B (.iface 132 (.pointer (some ⟨sl, 0, none⟩))) D bb cur []) :
    Calls Tryz.prog 244 #[.pointer (some ⟨sl, 0, none⟩)] w (fun e w' => e = .returned (.int .i32 (-1)) ∧ Only D w w') := by
  generalize hts : ([] : List Tok) = tt at h
  cases h with
  | @sl _ tv line all n _ _ h1 h2 h3 h4 h5 h6 =>
    have hlt : n = all.length := by
      rcases Nat.lt_or_ge n all.length with h | h
      · rw [List.drop_eq_getElem_cons h, List.map_cons] at hts; cases hts
      · omega
    refine (slNext_none h1 hlt h3).mono ?_
    rintro e w' ⟨rfl, hs, ho⟩
    exact ⟨rfl, ho⟩
end
end Go.Proofs.YtpoimmpdncickaaGreatDoor
