/- The words of the statements on lists of bytes; what the input tells of lines. -/
import Derived.Test.YtpoimmpdncickaaGreatDoorHelpB
import Derived.Test.YtpoimmpdncickaaGreatDoorJ1
import Derived.Test.YtpoimmpdncickaaGreatDoorN8
import Derived.Test.YtpoimmpdncickaaGreatDoorJ9
/- What the words of the statements are: the printed functions of the package spec, on lists of bytes. -/
namespace Go.Proofs.YtpoimmpdncickaaGreatDoor
open Go Go.RowKit Lex Go.Proofs.YtpoimmpdncickaaGreatDoorW.PrintWords Go.Proofs.YtpoimmpdncickaaGreatDoor.PHelp
set_option linter.unusedVariables false
set_option linter.unusedSimpArgs false

theorem Ev.one {α : Type} {g : Nat → Option α} {r r' : α} (h : Ev g r) (h' : Ev g r') : r = r' := by
  obtain ⟨K, h⟩ := h
  obtain ⟨K', h'⟩ := h'
  have h1 := h (max K K') (Nat.le_max_left _ _)
  have h2 := h' (max K K') (Nat.le_max_right _ _)
  rw [h1] at h2
  exact Option.some.inj h2

theorem bt_mk (b : Bs) (i : Nat) (c : UInt8) (h : b[i]? = some c) : bt (mkS b) (i : Int) = (c.toNat : Int) := by
  obtain ⟨hlt, he⟩ := List.getElem?_eq_some_iff.1 h
  have h2 : ((i : Int)).toNat < (mkS b).size := by rw [mkS_size]; simpa using hlt
  rw [← bt_at (mkS b) i h2]
  have : (mkS b)[((i : Int)).toNat]'h2 = c := by
    show (mkS b).data[((i : Int)).toNat]'h2 = c
    simp [mkS, he]
  rw [this]
theorem ext_mk (b : Bs) (i j : Nat) : (mkS b).extract i j = mkS ((b.drop i).take (j - i)) := by
  apply ByteArray.ext
  simp [mkS, ByteArray.data_extract, List.extract_eq_take_drop]

set_option maxRecDepth 100000 in
theorem letter_fin : ∀ n : Fin 256, spec_IsLetter.f (n.val : Int) = some (isLet (UInt8.ofNat n.val)) := by decide
set_option maxRecDepth 100000 in
theorem digit_fin : ∀ n : Fin 256, spec_IsDigit.f (n.val : Int) = some (isDig (UInt8.ofNat n.val)) := by decide
set_option maxRecDepth 100000 in
theorem hex_fin : ∀ n : Fin 256, spec_isHex.f (n.val : Int) = some (isHexd (UInt8.ofNat n.val)) := by decide
theorem letter_f (c : UInt8) : spec_IsLetter.f (c.toNat : Int) = some (isLet c) := by
  have := letter_fin ⟨c.toNat, UInt8.toNat_lt c⟩; simpa using this
theorem digit_f (c : UInt8) : spec_IsDigit.f (c.toNat : Int) = some (isDig c) := by
  have := digit_fin ⟨c.toNat, UInt8.toNat_lt c⟩; simpa using this
theorem hex_f (c : UInt8) : spec_isHex.f (c.toNat : Int) = some (isHexd c) := by
  have := hex_fin ⟨c.toNat, UInt8.toNat_lt c⟩; simpa using this

theorem skip_j1 (b : Bs) : ∃ n : Nat, Ev (fun k => spec_skipped.j1 k (mkS b) false) (n : Int) ∧ n ≤ b.length ∧ (ascii b → n = 0) := by
  have hs := mkS_size b
  by_cases h3 : 3 ≤ b.length
  · by_cases e : ((mkS b).extract 0 3).toList = ([226, 136, 149] : List UInt8)
    · refine ⟨3, Ev.step (f := fun _ => some ((3 : Nat) : Int)) (fun k => ?_) (Ev.now _), h3, fun ha => ?_⟩
      · simp only [spec_skipped.j1]
        rw [if_neg (by simp), if_pos (by omega), if_pos (by decide), if_pos (by omega), if_pos e]
        rfl
      · rw [ext_mk, mkS_toList] at e
        have h : (226 : UInt8) ∈ (b.drop 0).take (3 - 0) := by rw [e]; simp
        exact absurd (ha 226 (List.mem_of_mem_drop (List.mem_of_mem_take h))) (by decide)
    · refine ⟨0, Ev.step (f := fun _ => some ((0 : Nat) : Int)) (fun k => ?_) (Ev.now _), by omega, fun ha => rfl⟩
      simp only [spec_skipped.j1]
      rw [if_neg (by simp), if_pos (by omega), if_pos (by decide), if_pos (by omega), if_neg e]
      rfl
  · refine ⟨0, Ev.step (f := fun _ => some ((0 : Nat) : Int)) (fun k => ?_) (Ev.now _), by omega, fun ha => rfl⟩
    simp only [spec_skipped.j1]
    rw [if_neg (by simp), if_neg (by omega)]
    rfl

theorem skip_j0 (b : Bs) : ∃ n : Nat, Ev (fun k => spec_skipped.j0 k (mkS b) false) (n : Int) ∧ n ≤ b.length ∧ (ascii b → n = 0) := by
  have hs := mkS_size b
  obtain ⟨n, h1, h2, h3⟩ := skip_j1 b
  by_cases hl : 2 ≤ b.length
  · cases e : (((mkS b).extract 0 2).toList == ([194, 183] : List UInt8)) with
    | true =>
      refine ⟨2, Ev.step (f := fun k => spec_skipped.j1 k (mkS b) true) (fun k => ?_) (Ev.step (f := fun _ => some ((2 : Nat) : Int)) (fun k => ?_) (Ev.now _)), hl, fun ha => ?_⟩
      · simp only [spec_skipped.j0]
        rw [if_neg (by simp), if_pos (by omega), if_pos (by decide), if_pos (by omega), e]
      · simp only [spec_skipped.j1]
        rfl
      · have e' := eq_of_beq e
        rw [ext_mk, mkS_toList] at e'
        have h : (194 : UInt8) ∈ (b.drop 0).take (2 - 0) := by rw [e']; simp
        exact absurd (ha 194 (List.mem_of_mem_drop (List.mem_of_mem_take h))) (by decide)
    | false =>
      refine ⟨n, Ev.step (f := fun k => spec_skipped.j1 k (mkS b) false) (fun k => ?_) h1, h2, h3⟩
      simp only [spec_skipped.j0]
      rw [if_neg (by simp), if_pos (by omega), if_pos (by decide), if_pos (by omega), e]
  · refine ⟨n, Ev.step (f := fun k => spec_skipped.j1 k (mkS b) false) (fun k => ?_) h1, h2, h3⟩
    simp only [spec_skipped.j0]
    rw [if_neg (by simp), if_neg (by omega)]

/-- The character at the beginning of a text. -/
theorem skipped_f (c : UInt8) (s : Bs) (first : Bool) : ∃ n : Nat, Ev (fun k => spec_skipped.f k (mkS (c :: s)) first) (n : Int) ∧ n ≤ (c :: s).length ∧ (ascii (c :: s) → n ≠ 0 → n = 1 ∧ (isLet c = true ∨ (first = false ∧ isDig c = true))) := by
  have hne : ¬ (mkS (c :: s)).toList = ([] : List UInt8) := by rw [mkS_toList]; simp
  have hsz : 0 < ((mkS (c :: s)).size : Int) := by rw [mkS_size]; simp
  have hb : bt (mkS (c :: s)) 0 = (c.toNat : Int) := bt_mk (c :: s) 0 c rfl
  have h1 : Ev (fun k => spec_skipped.j0 k (mkS (c :: s)) true) ((1 : Nat) : Int) := Ev.step (f := fun _ => some ((1 : Nat) : Int)) (fun k => by simp only [spec_skipped.j0]; rfl) (Ev.now _)
  obtain ⟨n, h2, h3, h4⟩ := skip_j0 (c :: s)
  have hf : ∀ k, spec_skipped.f k (mkS (c :: s)) first = if isLet c = true then spec_skipped.j0 k (mkS (c :: s)) true else if first = true then spec_skipped.j0 k (mkS (c :: s)) false else spec_skipped.j0 k (mkS (c :: s)) (isDig c) := fun k => by
    unfold spec_skipped.f
    rw [if_neg hne, if_pos hsz, hb, letter_f, digit_f]
    rfl
  cases hl : isLet c with
  | true => exact ⟨1, Ev.congr (fun k => by rw [hf, if_pos hl]) h1, by simp, fun _ _ => ⟨rfl, .inl rfl⟩⟩
  | false =>
    cases first with
    | true => exact ⟨n, Ev.congr (fun k => by rw [hf, if_neg (by simp [hl]), if_pos rfl]) h2, h3, fun ha hn => absurd (h4 ha) hn⟩
    | false =>
      cases hd : isDig c with
      | true => exact ⟨1, Ev.congr (fun k => by rw [hf, if_neg (by simp [hl]), if_neg (by simp), hd]) h1, by simp, fun _ _ => ⟨rfl, .inr ⟨rfl, rfl⟩⟩⟩
      | false => exact ⟨n, Ev.congr (fun k => by rw [hf, if_neg (by simp [hl]), if_neg (by simp), hd]) h2, h3, fun ha hn => absurd (h4 ha) hn⟩

theorem w64 {i : Int} (h : 0 ≤ i ∧ i < 9223372036854775807) : wrap64 i = i := by unfold wrap64; omega

theorem name_l0 (b : Bs) (hb : b.length ≤ 2147483647) : ∀ d i, b.length - i ≤ d → i ≤ b.length → ∃ r, Ev (fun k => spec_IsName.l0 k (mkS b) (i : Int)) r ∧
    (ascii b → r = true → ∀ j, i ≤ j → ∀ c, b[j]? = some c → (j = 0 → isLet c = true) ∧ isIdc c = true) := by
  have hs := mkS_size b
  intro d
  induction d with
  | zero =>
    intro i hd hi
    refine ⟨true, Ev.step (f := fun _ => some true) (fun k => ?_) (Ev.now _), fun _ _ j hj c hc => ?_⟩
    · simp only [spec_IsName.l0]
      rw [if_neg (by omega)]
    · have := (List.getElem?_eq_some_iff.1 hc).1
      omega
  | succ d ih =>
    intro i hd hi
    rcases Nat.lt_or_ge i b.length with hlt | hge
    · obtain ⟨c, hc⟩ : ∃ c, b[i]? = some c := ⟨b[i], List.getElem?_eq_getElem hlt⟩
      have hdrop : b.drop i = c :: b.drop (i + 1) := by
        rw [List.drop_eq_getElem_cons hlt]
        congr 1
        exact Option.some.inj ((List.getElem?_eq_getElem hlt).symm.trans hc)
      obtain ⟨n, h1, h2, h3⟩ := skipped_f c (b.drop (i + 1)) ((i : Int) == 0)
      rw [← hdrop] at h1 h2 h3
      have hlen : (b.drop i).length = b.length - i := List.length_drop
      have hstep : ∀ k, spec_IsName.l0 (k + 1) (mkS b) (i : Int) = (spec_skipped.f k (mkS (b.drop i)) ((i : Int) == 0)).bind fun t => if t = 0 then some false else spec_IsName.l0 k (mkS b) (wrap64 ((i : Int) + t)) := fun k => by
        simp only [spec_IsName.l0]
        rw [if_pos (by omega), if_pos (by omega), if_pos (by omega), ext_mk, Int.toNat_natCast, hs]
        rw [List.take_of_length_le (by omega)]
      have hasc : ascii b → ascii (b.drop i) := fun ha x hx => ha x (List.mem_of_mem_drop hx)
      by_cases hn : n = 0
      · subst hn
        refine ⟨false, Ev.step hstep (Ev.bind h1 (Ev.congr (f := fun _ => some false) (fun k => by simp) (Ev.now _))), fun _ h => by cases h⟩
      · obtain ⟨r, h4, h5⟩ := ih (i + n) (by omega) (by omega)
        refine ⟨r, Ev.step hstep (Ev.bind h1 (Ev.congr (fun k => ?_) h4)), fun ha hr j hj c' hc' => ?_⟩
        · rw [if_neg (by omega), w64 (by omega)]
          rfl
        · obtain ⟨e, hcl⟩ := h3 (hasc ha) hn
          subst e
          rcases Nat.lt_or_ge i j with hlt' | hge'
          · exact h5 ha hr j (by omega) c' hc'
          · have : j = i := by omega
            subst this
            rw [hc] at hc'
            cases hc'
            constructor
            · intro h0
              subst h0
              rcases hcl with h | ⟨h, _⟩
              · exact h
              · simp at h
            · unfold isIdc
              rcases hcl with h | ⟨_, h⟩ <;> simp [h]
    · refine ⟨true, Ev.step (f := fun _ => some true) (fun k => ?_) (Ev.now _), fun _ _ j hj c hc => ?_⟩
      · simp only [spec_IsName.l0]
        rw [if_neg (by omega)]
      · have := (List.getElem?_eq_some_iff.1 hc).1
        omega

/-- A plain name. -/
def PName (b : Bs) : Prop := ∃ c x, b = c :: x ∧ isLet c = true ∧ ∀ y ∈ x, isIdc y = true

theorem name_f (b : Bs) (hb : b.length ≤ 2147483647) : ∃ r, Ev (fun k => spec_IsName.f k (mkS b)) r ∧ (ascii b → r = true → PName b) := by
  cases b with
  | nil => exact ⟨false, Ev.congr (f := fun _ => some false) (fun k => by unfold spec_IsName.f; rw [if_pos (by rw [mkS_toList])]) (Ev.now _), fun _ h => by cases h⟩
  | cons c x =>
    obtain ⟨r, h1, h2⟩ := name_l0 (c :: x) hb _ 0 (Nat.le_refl _) (by simp)
    refine ⟨r, Ev.congr (fun k => by unfold spec_IsName.f; rw [if_neg (by rw [mkS_toList]; simp)]; rfl) h1, fun ha hr => ⟨c, x, rfl, (h2 ha hr 0 (Nat.le_refl _) c rfl).1 rfl, fun y hy => ?_⟩⟩
    obtain ⟨j, hj⟩ := List.getElem?_of_mem hy
    exact (h2 ha hr (j + 1) (by omega) y (by simpa using hj)).2

def marks : Bs := [43, 45, 42, 37, 38, 124, 94, 126, 40, 41, 91, 93, 123, 125, 44, 59, 58, 36, 33, 61, 60, 62, 64, 63]
theorem marks_mk : (⟨#[43, 45, 42, 37, 38, 124, 94, 126, 40, 41, 91, 93, 123, 125, 44, 59, 58, 36, 33, 61, 60, 62, 64, 63]⟩ : ByteArray) = mkS marks := rfl

theorem mark_l0 (b : Bs) : ∀ d i : Nat, 24 - i ≤ d → i ≤ 24 → Ev (fun k => spec_IsMark.l0 k (mkS b) (i : Int)) ((marks.drop i).any fun c => b == [c]) := by
  intro d
  have hml : marks.length = 24 := rfl
  induction d with
  | zero =>
    intro i hd hi
    obtain rfl : i = 24 := by omega
    refine Ev.step (f := fun _ => some false) (fun k => ?_) (Ev.now _)
    simp only [spec_IsMark.l0]
    rw [if_neg (by omega)]
  | succ d ih =>
    intro i hd hi
    rcases Nat.lt_or_ge i 24 with hlt | hge
    · have hdrop : marks.drop i = marks[i]'(by omega) :: marks.drop (i + 1) := List.drop_eq_getElem_cons (by omega)
      have hw : wrap64 ((i : Int) + 1) = (i + 1 : Nat) := by rw [w64 (by omega)]; omega
      by_cases e : b = [marks[i]'(by omega)]
      · have hv : (marks.drop i).any (fun c => b == [c]) = true := by rw [hdrop, List.any_cons, e]; simp
        rw [hv]
        refine Ev.step (f := fun _ => some true) (fun k => ?_) (Ev.now _)
        simp only [spec_IsMark.l0]
        rw [if_pos (by omega), if_pos (by omega), hw, if_pos (by omega), if_pos (by omega), marks_mk, if_pos]
        rw [ext_mk, mkS_toList, mkS_toList, Int.toNat_natCast, Int.toNat_natCast, hdrop, show i + 1 - i = 1 by omega]
        exact e
      · have hv : (marks.drop i).any (fun c => b == [c]) = (marks.drop (i + 1)).any (fun c => b == [c]) := by
          rw [hdrop, List.any_cons]
          have : (b == [marks[i]'(by omega)]) = false := by simpa using e
          rw [this, Bool.false_or]
        rw [hv]
        refine Ev.step (f := fun k => spec_IsMark.l0 k (mkS b) ((i + 1 : Nat) : Int)) (fun k => ?_) (ih (i + 1) (by omega) (by omega))
        simp only [spec_IsMark.l0]
        rw [if_pos (by omega), if_pos (by omega), hw, if_pos (by omega), if_pos (by omega), marks_mk, if_neg]
        rw [ext_mk, mkS_toList, mkS_toList, Int.toNat_natCast, Int.toNat_natCast, hdrop, show i + 1 - i = 1 by omega]
        exact e
    · obtain rfl : i = 24 := by omega
      refine Ev.step (f := fun _ => some false) (fun k => ?_) (Ev.now _)
      simp only [spec_IsMark.l0]
      rw [if_neg (by omega)]

theorem mark_f (b : Bs) : Ev (fun k => spec_IsMark.f k (mkS b)) (marks.any fun c => b == [c]) := mark_l0 b _ 0 (Nat.le_refl _) (by omega)

/-- A number. -/
def NumW (b : Bs) : Prop := (∃ x, b = 48 :: 120 :: x ∧ x ≠ [] ∧ ∀ y ∈ x, isHexd y = true) ∨ b = [48] ∨ ∃ c x, b = c :: x ∧ isDig c = true ∧ c ≠ 48 ∧ ∀ y ∈ x, isDig y = true

theorem num_l0 (b : Bs) (hb : b.length ≤ 2147483647) : ∀ d i, b.length - i ≤ d → ∃ r, Ev (fun k => spec_IsNumber.l0 k (mkS b) (i : Int)) r ∧ (r = true → ∀ j, i ≤ j → ∀ c, b[j]? = some c → isHexd c = true) := by
  have hs := mkS_size b
  intro d
  induction d with
  | zero =>
    intro i hd
    refine ⟨true, Ev.step (f := fun _ => some true) (fun k => ?_) (Ev.now _), fun _ j hj c hc => ?_⟩
    · simp only [spec_IsNumber.l0]
      rw [if_neg (by omega)]
    · have := (List.getElem?_eq_some_iff.1 hc).1
      omega
  | succ d ih =>
    intro i hd
    rcases Nat.lt_or_ge i b.length with hlt | hge
    · obtain ⟨c, hc⟩ : ∃ c, b[i]? = some c := ⟨b[i], List.getElem?_eq_getElem hlt⟩
      have hbt := bt_mk b i c hc
      have hw : wrap64 ((i : Int) + 1) = (i + 1 : Nat) := by rw [w64 (by omega)]; omega
      have hstep : ∀ k, spec_IsNumber.l0 (k + 1) (mkS b) (i : Int) = if isHexd c = true then spec_IsNumber.l0 k (mkS b) ((i + 1 : Nat) : Int) else some false := fun k => by
        simp only [spec_IsNumber.l0]
        rw [if_pos (by omega), if_pos (by omega), hbt, hex_f, Option.bind_some, hw]
      cases hx : isHexd c with
      | false => exact ⟨false, Ev.step (f := fun _ => some false) (fun k => by rw [hstep, hx]; simp) (Ev.now _), fun h => by cases h⟩
      | true =>
        obtain ⟨r, h1, h2⟩ := ih (i + 1) (by omega)
        refine ⟨r, Ev.step (fun k => by rw [hstep, hx, if_pos rfl]) h1, fun hr j hj c' hc' => ?_⟩
        rcases Nat.lt_or_ge i j with h | h
        · exact h2 hr j h c' hc'
        · obtain rfl : j = i := by omega
          rw [hc] at hc'
          cases hc'
          exact hx
    · refine ⟨true, Ev.step (f := fun _ => some true) (fun k => ?_) (Ev.now _), fun _ j hj c hc => ?_⟩
      · simp only [spec_IsNumber.l0]
        rw [if_neg (by omega)]
      · have := (List.getElem?_eq_some_iff.1 hc).1
        omega

theorem num_l1 (b : Bs) (hb : b.length ≤ 2147483647) : ∀ d i, b.length - i ≤ d → ∃ r, Ev (fun k => spec_IsNumber.l1 k (mkS b) (b.length : Int) (i : Int)) r ∧ (r = true → ∀ j, i ≤ j → ∀ c, b[j]? = some c → isDig c = true ∧ (j = 0 → c = 48 → b.length ≤ 1)) := by
  have hs := mkS_size b
  intro d
  induction d with
  | zero =>
    intro i hd
    refine ⟨true, Ev.step (f := fun _ => some true) (fun k => ?_) (Ev.now _), fun _ j hj c hc => ?_⟩
    · simp only [spec_IsNumber.l1]
      rw [if_neg (by omega)]
    · have := (List.getElem?_eq_some_iff.1 hc).1
      omega
  | succ d ih =>
    intro i hd
    rcases Nat.lt_or_ge i b.length with hlt | hge
    · obtain ⟨c, hc⟩ : ∃ c, b[i]? = some c := ⟨b[i], List.getElem?_eq_getElem hlt⟩
      have hbt := bt_mk b i c hc
      have hw : wrap64 ((i : Int) + 1) = (i + 1 : Nat) := by rw [w64 (by omega)]; omega
      have hstep : ∀ k, spec_IsNumber.l1 (k + 1) (mkS b) (b.length : Int) (i : Int) = if isDig c = true then (if (i : Int) = 0 ∧ c = 48 ∧ 1 < b.length then some false else spec_IsNumber.l1 k (mkS b) (b.length : Int) ((i + 1 : Nat) : Int)) else some false := fun k => by
        simp only [spec_IsNumber.l1]
        rw [if_pos (by omega), if_pos (by omega), if_pos (by omega), hbt, digit_f, Option.bind_some, hw]
        cases hdg : isDig c with
        | false => simp
        | true =>
          simp only [if_true]
          by_cases h0 : (i : Int) = 0
          · have hi0 : i = 0 := by omega
            subst hi0
            rw [if_pos h0, if_pos (by omega), show bt (mkS b) 0 = (c.toNat : Int) from hbt]
            by_cases h48 : c = 48
            · subst h48
              rw [if_pos (by decide)]
              by_cases hl : (1 : Int) < b.length
              · rw [hs, if_pos (by omega), if_pos ⟨h0, rfl, by omega⟩]
              · rw [hs, if_neg (by omega), if_neg (by omega)]
            · have h48' : ¬ (c.toNat : Int) = 48 := fun e => h48 (UInt8.toNat_inj.1 (by show c.toNat = 48; omega))
              rw [if_neg h48', if_neg (by intro h; exact h48 h.2.1)]
          · rw [if_neg h0, if_neg (by intro h; exact h0 h.1)]
      cases hx : isDig c with
      | false => exact ⟨false, Ev.step (f := fun _ => some false) (fun k => by rw [hstep, hx]; simp) (Ev.now _), fun h => by cases h⟩
      | true =>
        by_cases hz : (i : Int) = 0 ∧ c = 48 ∧ 1 < b.length
        · exact ⟨false, Ev.step (f := fun _ => some false) (fun k => by rw [hstep, hx, if_pos rfl, if_pos hz]) (Ev.now _), fun h => by cases h⟩
        · obtain ⟨r, h1, h2⟩ := ih (i + 1) (by omega)
          refine ⟨r, Ev.step (fun k => by rw [hstep, hx, if_pos rfl, if_neg hz]) h1, fun hr j hj c' hc' => ?_⟩
          rcases Nat.lt_or_ge i j with h | h
          · exact h2 hr j h c' hc'
          · obtain rfl : j = i := by omega
            rw [hc] at hc'
            cases hc'
            exact ⟨hx, fun h0 h48 => Nat.le_of_not_lt (fun hl => hz ⟨by omega, h48, hl⟩)⟩
    · refine ⟨true, Ev.step (f := fun _ => some true) (fun k => ?_) (Ev.now _), fun _ j hj c hc => ?_⟩
      · simp only [spec_IsNumber.l1]
        rw [if_neg (by omega)]
      · have := (List.getElem?_eq_some_iff.1 hc).1
        omega

theorem num_f (b : Bs) (hb : b.length ≤ 2147483647) : ∃ r, Ev (fun k => spec_IsNumber.f k (mkS b)) r ∧ (r = true → NumW b) := by
  have hs := mkS_size b
  by_cases h0 : b = []
  · subst h0
    exact ⟨false, Ev.congr (f := fun _ => some false) (fun k => by unfold spec_IsNumber.f; rw [if_pos (by rw [mkS_toList])]) (Ev.now _), fun h => by cases h⟩
  have hne : ¬ (mkS b).toList = ([] : List UInt8) := by rw [mkS_toList]; exact h0
  have hdec : ∃ r, Ev (fun k => spec_IsNumber.j0 k (mkS b) false) r ∧ (r = true → NumW b) := by
    obtain ⟨r, h1, h2⟩ := num_l1 b hb _ 0 (Nat.le_refl _)
    refine ⟨r, Ev.step (fun k => ?_) h1, fun hr => .inr ?_⟩
    · simp only [spec_IsNumber.j0]
      rw [if_neg (by simp), hs]
      rfl
    · cases b with
      | nil => exact absurd rfl h0
      | cons c x =>
        have h3 := h2 hr 0 (Nat.le_refl _) c rfl
        by_cases h48 : c = 48
        · have := h3.2 rfl h48
          simp at this
          left
          rw [h48, this]
        · exact .inr ⟨c, x, rfl, h3.1, h48, fun y hy => by
            obtain ⟨j, hj⟩ := List.getElem?_of_mem hy
            exact (h2 hr (j + 1) (by omega) y (by simpa using hj)).1⟩
  by_cases h2 : 2 < b.length
  · cases e : (((mkS b).extract 0 2).toList == ([48, 120] : List UInt8)) with
    | false =>
      obtain ⟨r, h3, h4⟩ := hdec
      refine ⟨r, Ev.congr (fun k => ?_) h3, h4⟩
      unfold spec_IsNumber.f
      rw [if_neg hne, if_pos (by omega), if_pos (by decide), if_pos (by omega), e]
    | true =>
      obtain ⟨r, h3, h4⟩ := num_l0 b hb _ 2 (Nat.le_refl _)
      refine ⟨r, Ev.congr (f := fun k => spec_IsNumber.j0 k (mkS b) true) (fun k => ?_) (Ev.step (fun k => ?_) h3), fun hr => .inl ?_⟩
      · unfold spec_IsNumber.f
        rw [if_neg hne, if_pos (by omega), if_pos (by decide), if_pos (by omega), e]
      · simp only [spec_IsNumber.j0]
        rfl
      · have e' := eq_of_beq e
        rw [ext_mk, mkS_toList] at e'
        match b, h2, e', h4 with
        | c1 :: c2 :: x, h2, e', h4 =>
          simp at e'
          obtain ⟨rfl, rfl⟩ := e'
          refine ⟨x, rfl, by intro e; subst e; simp at h2, fun y hy => ?_⟩
          obtain ⟨j, hj⟩ := List.getElem?_of_mem hy
          exact h4 hr (j + 2) (by omega) y (by simpa using hj)
  · obtain ⟨r, h3, h4⟩ := hdec
    refine ⟨r, Ev.congr (fun k => ?_) h3, h4⟩
    unfold spec_IsNumber.f
    rw [if_neg hne, if_neg (by omega)]

theorem quo_l0 (b : Bs) (hb : b.length ≤ 2147483647) (h2 : 2 ≤ b.length) : ∀ d i, b.length - 1 - i ≤ d → ∃ r, Ev (fun k => spec_IsQuoted.l0 k (mkS b) (b.length : Int) (i : Int)) r ∧ (r = true → ∀ j, i ≤ j → j + 1 < b.length → ∀ c, b[j]? = some c → isStr c = true) := by
  have hs := mkS_size b
  have hw1 : wrap64 ((b.length : Int) - 1) = (b.length - 1 : Nat) := by rw [w64 (by omega)]; omega
  have hend : ∀ i : Nat, b.length - 1 ≤ i → ∃ r, Ev (fun k => spec_IsQuoted.l0 k (mkS b) (b.length : Int) (i : Int)) r ∧ (r = true → ∀ j, i ≤ j → j + 1 < b.length → ∀ c, b[j]? = some c → isStr c = true) := fun i hi => by
    refine ⟨true, Ev.step (f := fun _ => some true) (fun k => ?_) (Ev.now _), fun _ j hj hj2 c hc => by omega⟩
    simp only [spec_IsQuoted.l0]
    rw [hw1, if_neg (by omega)]
  intro d
  induction d with
  | zero => exact fun i hd => hend i (by omega)
  | succ d ih =>
    intro i hd
    rcases Nat.lt_or_ge i (b.length - 1) with hlt | hge
    · have hlt' : i < b.length := by omega
      obtain ⟨c, hc⟩ : ∃ c, b[i]? = some c := ⟨b[i], List.getElem?_eq_getElem hlt'⟩
      have hbt := bt_mk b i c hc
      have hw : wrap64 ((i : Int) + 1) = (i + 1 : Nat) := by rw [w64 (by omega)]; omega
      have hstep : ∀ k, spec_IsQuoted.l0 (k + 1) (mkS b) (b.length : Int) (i : Int) = if isStr c = true then spec_IsQuoted.l0 k (mkS b) (b.length : Int) ((i + 1 : Nat) : Int) else some false := fun k => by
        simp only [spec_IsQuoted.l0]
        rw [hw1, if_pos (by omega), if_pos (by omega), if_pos (by omega), hbt, hw]
        have h1 : ((c.toNat : Int) < 32) ↔ ¬ 32 ≤ c := by rw [UInt8.le_iff_toNat_le]; show _ ↔ ¬ 32 ≤ c.toNat; omega
        have h3 : ((c.toNat : Int) ≥ 127) ↔ ¬ c ≤ 126 := by rw [UInt8.le_iff_toNat_le]; show _ ↔ ¬ c.toNat ≤ 126; omega
        have h4 : ((c.toNat : Int) = 34) ↔ c = 34 := ⟨fun e => UInt8.toNat_inj.1 (by show c.toNat = 34; omega), fun e => by subst e; rfl⟩
        have h5 : ((c.toNat : Int) = 92) ↔ c = 92 := ⟨fun e => UInt8.toNat_inj.1 (by show c.toNat = 92; omega), fun e => by subst e; rfl⟩
        unfold isStr
        by_cases a1 : 32 ≤ c <;> by_cases a2 : c ≤ 126 <;> by_cases a3 : c = 34 <;> by_cases a4 : c = 92 <;> simp [h1, h3, h4, h5, a1, a2, a3, a4]
      cases hx : isStr c with
      | false => exact ⟨false, Ev.step (f := fun _ => some false) (fun k => by rw [hstep, hx]; simp) (Ev.now _), fun h => by cases h⟩
      | true =>
        obtain ⟨r, h1, h3⟩ := ih (i + 1) (by omega)
        refine ⟨r, Ev.step (fun k => by rw [hstep, hx, if_pos rfl]) h1, fun hr j hj hj2 c' hc' => ?_⟩
        rcases Nat.lt_or_ge i j with h | h
        · exact h3 hr j h hj2 c' hc'
        · obtain rfl : j = i := by omega
          rw [hc] at hc'
          cases hc'
          exact hx
    · exact hend i hge

/-- A text in quotation marks. -/
def QuoW (b : Bs) : Prop := ∃ m, b = 34 :: (m ++ [34]) ∧ ∀ y ∈ m, isStr y = true

theorem quo_f (b : Bs) (hb : b.length ≤ 2147483647) : ∃ r, Ev (fun k => spec_IsQuoted.f k (mkS b)) r ∧ (r = true → QuoW b) := by
  have hs := mkS_size b
  have hno : Ev (fun k => spec_IsQuoted.j0 k (mkS b) (b.length : Int) true) false := Ev.step (f := fun _ => some false) (fun k => by simp only [spec_IsQuoted.j0]; rfl) (Ev.now _)
  by_cases h2 : b.length < 2
  · exact ⟨false, Ev.congr (fun k => by unfold spec_IsQuoted.f; rw [if_pos (by omega), hs]) hno, fun h => by cases h⟩
  match b, h2, hs, hno, hb with
  | c :: x, h2, hs, hno, hb =>
    have hb0 : bt (mkS (c :: x)) 0 = (c.toNat : Int) := bt_mk (c :: x) 0 c rfl
    by_cases h34 : c = 34
    · subst h34
      have hw1 : wrap64 (((34 :: x : Bs).length : Int) - 1) = ((34 :: x : Bs).length - 1 : Nat) := by rw [w64 (by omega)]; omega
      obtain ⟨z, hz⟩ : ∃ z, (34 :: x : Bs)[(34 :: x : Bs).length - 1]? = some z := ⟨_, List.getElem?_eq_getElem (by omega)⟩
      have hbz := bt_mk _ _ z hz
      by_cases hz34 : z = 34
      · subst hz34
        obtain ⟨r, h3, h4⟩ := quo_l0 (34 :: x) hb (by omega) _ 1 (Nat.le_refl _)
        refine ⟨r, Ev.congr (f := fun k => spec_IsQuoted.j0 k (mkS (34 :: x)) ((34 :: x : Bs).length : Int) false) (fun k => ?_) (Ev.step (fun k => ?_) h3), fun hr => ?_⟩
        · unfold spec_IsQuoted.f
          rw [if_neg (by omega), if_pos (by omega), hb0, if_pos (by decide), hs, hw1, if_pos (by omega), if_pos (by omega), hbz]
          rfl
        · simp only [spec_IsQuoted.j0]
          rfl
        · have hx0 : x ≠ [] := by intro e; subst e; simp at h2
          refine ⟨x.dropLast, ?_, fun y hy => ?_⟩
          · have e1 : x.getLast hx0 = 34 := by
              rw [List.getLast_eq_getElem]
              have : (34 :: x : Bs)[(34 :: x : Bs).length - 1]? = x[x.length - 1]? := by
                have hxl : 0 < x.length := List.length_pos_iff.2 hx0
                rw [show (34 :: x : Bs).length - 1 = (x.length - 1) + 1 by simp; omega, List.getElem?_cons_succ]
              rw [this, List.getElem?_eq_getElem (by have := List.length_pos_iff.2 hx0; omega)] at hz
              exact Option.some.inj hz
            rw [← e1, List.dropLast_concat_getLast]
          · obtain ⟨j, hj⟩ := List.getElem?_of_mem hy
            have hlt := (List.getElem?_eq_some_iff.1 hj).1
            rw [List.length_dropLast] at hlt
            refine h4 hr (j + 1) (by omega) (by simp; omega) y ?_
            rw [List.getElem?_cons_succ]
            rw [List.getElem?_dropLast, if_pos hlt] at hj
            exact hj
      · refine ⟨false, Ev.congr (fun k => ?_) hno, fun h => by cases h⟩
        unfold spec_IsQuoted.f
        have hne : ((z.toNat : Int) != 34) = true := by
          have : ¬ (z.toNat : Int) = 34 := fun e => hz34 (UInt8.toNat_inj.1 (by show z.toNat = 34; omega))
          simpa using this
        rw [if_neg (by omega), if_pos (by omega), hb0, if_pos (by decide), hs, hw1, if_pos (by omega), if_pos (by omega), hbz, hne]
    · refine ⟨false, Ev.congr (fun k => ?_) hno, fun h => by cases h⟩
      unfold spec_IsQuoted.f
      have hne : ¬ (c.toNat : Int) = 34 := fun e => h34 (UInt8.toNat_inj.1 (by show c.toNat = 34; omega))
      rw [if_neg (by omega), if_pos (by omega), hb0, if_neg hne, hs]

/-- A word of the statements. -/
inductive Wd : Int → Bs → Prop
  | p1 : Wd (-1000) [60, 60]
  | p2 : Wd (-1001) [62, 62]
  | p3 : Wd (-1002) [45, 62]
  | p4 : Wd (-1003) [64, 62]
  | nl : Wd 10 [10]
  | mark {c : UInt8} : c ∈ marks → Wd c.toNat [c]
  | name {b} : (ascii b → PName b) → Wd (-2) b
  | num {b} : NumW b → Wd (-3) b
  | quo {b} : QuoW b → Wd (-6) b

theorem kind_f (b : Bs) (hb : b.length ≤ 2147483647) : ∃ r, Ev (fun k => spec_KindOf.f k (mkS b)) r ∧ (r ≠ 0 → Wd r b) := by
  have hone : ∀ c : UInt8, Ev (fun k => spec_KindOf.j0 k (mkS [c]) true) (c.toNat : Int) := fun c => by
    refine Ev.step (f := fun _ => some (c.toNat : Int)) (fun k => ?_) (Ev.now _)
    simp only [spec_KindOf.j0]
    have h0 : bt (mkS [c]) 0 = (c.toNat : Int) := bt_mk [c] 0 c rfl
    have := UInt8.toNat_lt c
    rw [if_pos trivial, if_pos (by rw [mkS_size]; simp), h0, w64 (by omega)]
  have hrest : ∃ r, Ev (fun k => spec_KindOf.j0 k (mkS b) false) r ∧ (r ≠ 0 → Wd r b) := by
    have hst : ∀ k, spec_KindOf.j0 (k + 1) (mkS b) false = (spec_IsName.f k (mkS b)).bind fun t => if t = true then some (-2) else (spec_IsNumber.f k (mkS b)).bind fun t => if t = true then some (-3) else (spec_IsQuoted.f k (mkS b)).bind fun t => if t = true then some (-6) else some 0 := fun k => by
      simp only [spec_KindOf.j0]
      rw [if_neg (by simp)]
    obtain ⟨r1, n1, n2⟩ := name_f b hb
    obtain ⟨r2, m1, m2⟩ := num_f b hb
    obtain ⟨r3, q1, q2⟩ := quo_f b hb
    cases r1 with
    | true => exact ⟨-2, Ev.step hst (Ev.bind n1 (Ev.congr (f := fun _ => some (-2)) (fun k => by simp) (Ev.now _))), fun _ => .name fun ha => n2 ha rfl⟩
    | false =>
      cases r2 with
      | true => exact ⟨-3, Ev.step hst (Ev.bind n1 (Ev.congr (fun k => by rw [if_neg (by simp)]) (Ev.bind m1 (Ev.congr (f := fun _ => some (-3)) (fun k => by simp) (Ev.now _))))), fun _ => .num (m2 rfl)⟩
      | false =>
        cases r3 with
        | true => exact ⟨-6, Ev.step hst (Ev.bind n1 (Ev.congr (fun k => by rw [if_neg (by simp)]) (Ev.bind m1 (Ev.congr (fun k => by rw [if_neg (by simp)]) (Ev.bind q1 (Ev.congr (f := fun _ => some (-6)) (fun k => by simp) (Ev.now _))))))), fun _ => .quo (q2 rfl)⟩
        | false => exact ⟨0, Ev.step hst (Ev.bind n1 (Ev.congr (fun k => by rw [if_neg (by simp)]) (Ev.bind m1 (Ev.congr (fun k => by rw [if_neg (by simp)]) (Ev.bind q1 (Ev.congr (f := fun _ => some 0) (fun k => by simp) (Ev.now _))))))), fun h => absurd rfl h⟩
  have hf : ∀ k, spec_KindOf.f k (mkS b) = if b = [60, 60] then some (-1000) else if b = [62, 62] then some (-1001) else if b = [45, 62] then some (-1002) else if b = [64, 62] then some (-1003) else if b = [10] then spec_KindOf.j0 k (mkS b) true else (spec_IsMark.f k (mkS b)).bind fun t => spec_KindOf.j0 k (mkS b) t := fun k => by
    unfold spec_KindOf.f
    rw [mkS_toList]
  by_cases h1 : b = [60, 60]
  · exact ⟨-1000, Ev.congr (f := fun _ => some (-1000)) (fun k => by rw [hf, if_pos h1]) (Ev.now _), fun _ => h1 ▸ .p1⟩
  by_cases h2 : b = [62, 62]
  · exact ⟨-1001, Ev.congr (f := fun _ => some (-1001)) (fun k => by rw [hf, if_neg h1, if_pos h2]) (Ev.now _), fun _ => h2 ▸ .p2⟩
  by_cases h3 : b = [45, 62]
  · exact ⟨-1002, Ev.congr (f := fun _ => some (-1002)) (fun k => by rw [hf, if_neg h1, if_neg h2, if_pos h3]) (Ev.now _), fun _ => h3 ▸ .p3⟩
  by_cases h4 : b = [64, 62]
  · exact ⟨-1003, Ev.congr (f := fun _ => some (-1003)) (fun k => by rw [hf, if_neg h1, if_neg h2, if_neg h3, if_pos h4]) (Ev.now _), fun _ => h4 ▸ .p4⟩
  by_cases h5 : b = [10]
  · refine ⟨10, Ev.congr (fun k => by rw [hf, if_neg h1, if_neg h2, if_neg h3, if_neg h4, if_pos h5]) ?_, fun _ => h5 ▸ .nl⟩
    rw [h5]
    exact hone 10
  have hg : ∀ k, spec_KindOf.f k (mkS b) = (spec_IsMark.f k (mkS b)).bind fun t => spec_KindOf.j0 k (mkS b) t := fun k => by rw [hf, if_neg h1, if_neg h2, if_neg h3, if_neg h4, if_neg h5]
  have hmk := mark_f b
  cases hm : marks.any (fun c => b == [c]) with
  | true =>
    rw [hm] at hmk
    obtain ⟨c, hc, e⟩ := List.any_eq_true.1 hm
    have e' : b = [c] := eq_of_beq e
    subst e'
    exact ⟨c.toNat, Ev.congr hg (Ev.bind hmk (hone c)), fun _ => .mark hc⟩
  | false =>
    rw [hm] at hmk
    obtain ⟨r, h6, h7⟩ := hrest
    exact ⟨r, Ev.congr hg (Ev.bind hmk h6), h7⟩
theorem plain_l0 (b : Bs) (hb : b.length ≤ 2147483647) : ∀ d i, b.length - i ≤ d → ∃ r, Ev (fun k => spec_IsPlainName.l0 k (mkS b) (b.length : Int) (i : Int)) r ∧ (r = true → (∀ j, i ≤ j → ∀ c, b[j]? = some c → c < 128) ∧ Ev (fun k => spec_IsName.f k (mkS b)) true) := by
  have hs := mkS_size b
  obtain ⟨rn, n1, _⟩ := name_f b hb
  have hend : ∀ i : Nat, b.length ≤ i → ∃ r, Ev (fun k => spec_IsPlainName.l0 k (mkS b) (b.length : Int) (i : Int)) r ∧ (r = true → (∀ j, i ≤ j → ∀ c, b[j]? = some c → c < 128) ∧ Ev (fun k => spec_IsName.f k (mkS b)) true) := fun i hi => by
    refine ⟨rn, Ev.step (f := fun k => (spec_IsName.f k (mkS b)).bind fun t => some t) (fun k => ?_) (Ev.bind n1 (Ev.now _)), fun hr => ⟨fun j hj c hc => ?_, hr ▸ n1⟩⟩
    · simp only [spec_IsPlainName.l0]
      rw [if_neg (by omega)]
    · have := (List.getElem?_eq_some_iff.1 hc).1
      omega
  intro d
  induction d with
  | zero => exact fun i hd => hend i (by omega)
  | succ d ih =>
    intro i hd
    rcases Nat.lt_or_ge i b.length with hlt | hge
    · obtain ⟨c, hc⟩ : ∃ c, b[i]? = some c := ⟨b[i], List.getElem?_eq_getElem hlt⟩
      have hbt := bt_mk b i c hc
      have hw : wrap64 ((i : Int) + 1) = (i + 1 : Nat) := by rw [w64 (by omega)]; omega
      have hcb : ((c.toNat : Int) ≥ 128) ↔ ¬ c < 128 := by rw [UInt8.lt_iff_toNat_lt]; show _ ↔ ¬ c.toNat < 128; omega
      have hstep : ∀ k, spec_IsPlainName.l0 (k + 1) (mkS b) (b.length : Int) (i : Int) = if c < 128 then spec_IsPlainName.l0 k (mkS b) (b.length : Int) ((i + 1 : Nat) : Int) else some false := fun k => by
        simp only [spec_IsPlainName.l0]
        rw [if_pos (by omega), if_pos (by omega), if_pos (by omega), hbt, hw]
        by_cases h : c < 128
        · rw [if_neg (by rw [hcb]; simpa using h), if_pos h]
        · rw [if_pos (by rw [hcb]; exact h), if_neg h]
      by_cases hx : c < 128
      · obtain ⟨r, h1, h2⟩ := ih (i + 1) (by omega)
        refine ⟨r, Ev.step (fun k => by rw [hstep, if_pos hx]) h1, fun hr => ⟨fun j hj c' hc' => ?_, (h2 hr).2⟩⟩
        rcases Nat.lt_or_ge i j with h | h
        · exact (h2 hr).1 j h c' hc'
        · obtain rfl : j = i := by omega
          rw [hc] at hc'
          cases hc'
          exact hx
      · exact ⟨false, Ev.step (f := fun _ => some false) (fun k => by rw [hstep, if_neg hx]) (Ev.now _), fun h => by cases h⟩
    · exact hend i hge

theorem plain_f (b : Bs) (hb : b.length ≤ 2147483647) : ∃ r, Ev (fun k => spec_IsPlainName.f k (mkS b)) r ∧ (r = true → ascii b ∧ PName b) := by
  obtain ⟨r, h1, h2⟩ := plain_l0 b hb _ 0 (Nat.le_refl _)
  refine ⟨r, h1, fun hr => ?_⟩
  have ha : ascii b := fun c hc => by
    obtain ⟨j, hj⟩ := List.getElem?_of_mem hc
    exact (h2 hr).1 j (Nat.zero_le _) c hj
  obtain ⟨rn, n1, n2⟩ := name_f b hb
  exact ⟨ha, n2 ha (Ev.one n1 (h2 hr).2)⟩

theorem rd_at {l : List ByteArray} {i : Nat} {x : ByteArray} (h : l[i]? = some x) : rdOf ByteArray.empty l (i : Int) = x := by
  unfold rdOf
  rw [Int.toNat_natCast, List.getD_eq_getElem?_getD, h]
  rfl

/-- A loop over words that ends with false at the first word that is not good. -/
theorem loop_all {ws : List Bs} {l0 : Nat → Int → Option Bool} {p : Nat → Bs → Option Bool} {e : Nat → Option Bool} {P : Bs → Prop} {Q : Prop}
    (h1 : ∀ k (i : Nat) w, ws[i]? = some w → l0 (k + 1) (i : Int) = (p k w).bind fun ok => if ok = true then l0 k ((i + 1 : Nat) : Int) else some false)
    (h2 : ∀ k, l0 (k + 1) (ws.length : Int) = e k) (h3 : ∀ w ∈ ws, ∃ r, Ev (fun k => p k w) r ∧ (r = true → P w)) (h4 : ∃ r, Ev e r ∧ (r = true → Q)) :
    ∃ r, Ev (fun k => l0 k 0) r ∧ (r = true → (∀ w ∈ ws, P w) ∧ Q) := by
  obtain ⟨re, e1, e2⟩ := h4
  have H : ∀ d i : Nat, ws.length - i ≤ d → i ≤ ws.length → ∃ r, Ev (fun k => l0 k (i : Int)) r ∧ (r = true → (∀ j, i ≤ j → ∀ w, ws[j]? = some w → P w) ∧ Q) := by
    intro d
    induction d with
    | zero =>
      intro i hd hi
      obtain rfl : i = ws.length := by omega
      exact ⟨re, Ev.step h2 e1, fun hr => ⟨fun j hj w hw => by have := (List.getElem?_eq_some_iff.1 hw).1; omega, e2 hr⟩⟩
    | succ d ih =>
      intro i hd hi
      rcases Nat.lt_or_ge i ws.length with hlt | hge
      · obtain ⟨w, hw⟩ : ∃ w, ws[i]? = some w := ⟨ws[i], List.getElem?_eq_getElem hlt⟩
        obtain ⟨rw', p1, p2⟩ := h3 w (List.mem_of_getElem? hw)
        cases rw' with
        | false => exact ⟨false, Ev.step (fun k => h1 k i w hw) (Ev.bind p1 (Ev.congr (f := fun _ => some false) (fun k => by simp) (Ev.now _))), fun h => by cases h⟩
        | true =>
          obtain ⟨r, i1, i2⟩ := ih (i + 1) (by omega) (by omega)
          refine ⟨r, Ev.step (fun k => h1 k i w hw) (Ev.bind p1 (Ev.congr (fun k => by rw [if_pos rfl]) i1)), fun hr => ⟨fun j hj w' hw' => ?_, (i2 hr).2⟩⟩
          rcases Nat.lt_or_ge i j with h | h
          · exact (i2 hr).1 j h w' hw'
          · obtain rfl : j = i := by omega
            rw [hw] at hw'
            cases hw'
            exact p2 rfl
      · obtain rfl : i = ws.length := by omega
        exact ⟨re, Ev.step h2 e1, fun hr => ⟨fun j hj w hw => by have := (List.getElem?_eq_some_iff.1 hw).1; omega, e2 hr⟩⟩
  obtain ⟨r, h5, h6⟩ := H _ 0 (Nat.le_refl _) (Nat.zero_le _)
  refine ⟨r, h5, fun hr => ⟨fun w hw => ?_, (h6 hr).2⟩⟩
  obtain ⟨j, hj⟩ := List.getElem?_of_mem hw
  exact (h6 hr).1 j (Nat.zero_le _) w hj

section
variable {ws : List Bs}
theorem at_map {i : Nat} {w : Bs} (h : ws[i]? = some w) : (ws.map mkS)[i]? = some (mkS w) := by rw [List.getElem?_map, h]; rfl

/-- Nothing is too long. -/
theorem fits_f : ∃ r, Ev (fun k => laws_zzFits5.f k (ws.map mkS)) r ∧ (r = true → (∀ w ∈ ws, w.length ≤ 2147483647) ∧ ws.length ≤ 2147483647) := by
  by_cases hl : ws.length ≤ 2147483647
  · obtain ⟨r, h1, h2⟩ := loop_all (ws := ws) (l0 := fun k i => laws_zzFits5.l0 k (ws.map mkS) (ws.length : Int) i) (p := fun _ w => some (decide (w.length ≤ 2147483647))) (e := fun _ => some true) (P := fun w => w.length ≤ 2147483647) (Q := True)
      (fun k i w hw => by
        have hlt := (List.getElem?_eq_some_iff.1 hw).1
        simp only [laws_zzFits5.l0]
        rw [if_pos (by omega), if_pos (by omega), if_pos (by rw [List.length_map]; omega), rd_at (at_map hw), mkS_size, w64 (by omega)]
        by_cases h : w.length ≤ 2147483647
        · rw [if_neg (by omega)]; simp [h]
        · rw [if_pos (by omega)]; simp [h])
      (fun k => by simp only [laws_zzFits5.l0]; rw [if_neg (by omega)])
      (fun w _ => ⟨_, Ev.now _, fun h => by simpa using h⟩) ⟨true, Ev.now _, fun _ => trivial⟩
    refine ⟨r, Ev.congr (fun k => ?_) h1, fun hr => ⟨(h2 hr).1, hl⟩⟩
    unfold laws_zzFits5.f
    rw [List.length_map, if_neg (by omega)]
  · refine ⟨false, Ev.congr (f := fun _ => some false) (fun k => ?_) (Ev.now _), fun h => by cases h⟩
    unfold laws_zzFits5.f
    rw [List.length_map, if_pos (by omega)]

/-- A word of which the statements speak, of at most 60 bytes. -/
def Good (w : Bs) : Prop := w.length ≤ 60 ∧ ∃ kd, Ev (fun k => spec_KindOf.f k (mkS w)) kd ∧ kd ≠ 0

theorem words_f (hl : ws.length ≤ 2147483647) (hw : ∀ w ∈ ws, w.length ≤ 2147483647) : ∃ r, Ev (fun k => laws_wordsOk.f k (ws.map mkS)) r ∧ (r = true → (∀ w ∈ ws, Good w) ∧ ws.length ≤ 60) := by
  refine loop_all (ws := ws) (l0 := fun k i => laws_wordsOk.l0 k (ws.map mkS) (ws.map mkS) ((ws.map mkS).length : Int) i) (p := fun k w => (spec_KindOf.f k (mkS w)).bind fun t => some (decide (t ≠ 0) && decide (w.length ≤ 60))) (e := fun _ => some (decide (ws.length ≤ 60)))
    (fun k i w hw => ?_) (fun k => ?_) (fun w hm => ?_) ⟨_, Ev.now _, fun h => by simpa using h⟩
  · have hlt := (List.getElem?_eq_some_iff.1 hw).1
    simp only [laws_wordsOk.l0]
    rw [if_pos (by rw [List.length_map]; omega), if_pos (by omega), if_pos (by rw [List.length_map]; omega), rd_at (at_map hw), mkS_size, w64 (by omega)]
    cases spec_KindOf.f k (mkS w) with
    | none => rfl
    | some t =>
      simp only [Option.bind_some]
      by_cases h0 : t = 0
      · simp [h0]
      · by_cases h60 : w.length ≤ 60
        · rw [if_neg h0, if_neg (by omega)]; simp [h0, h60]
        · rw [if_neg h0, if_pos (by omega)]; simp [h0, h60]
  · simp only [laws_wordsOk.l0]
    rw [if_neg (by rw [List.length_map]; omega), List.length_map]
    congr 1
    simp
    omega
  · obtain ⟨kd, k1, k2⟩ := kind_f w (hw w hm)
    refine ⟨_, Ev.bind k1 (Ev.now _), fun h => ?_⟩
    simp at h
    exact ⟨h.2, kd, k1, h.1⟩

theorem plains_f (hl : ws.length ≤ 2147483647) (hw : ∀ w ∈ ws, w.length ≤ 2147483647) : ∃ r, Ev (fun k => laws_plainWords.f k (ws.map mkS)) r ∧ (r = true → ∀ w ∈ ws, Ev (fun k => spec_KindOf.f k (mkS w)) (-2) → ascii w ∧ PName w) := by
  have H := loop_all (ws := ws) (l0 := fun k i => laws_plainWords.l0 k (ws.map mkS) ((ws.map mkS).length : Int) i) (p := fun k w => (spec_KindOf.f k (mkS w)).bind fun t => if t = -2 then (spec_IsPlainName.f k (mkS w)).bind fun t => some t else some true) (e := fun _ => some true)
    (P := fun w => Ev (fun k => spec_KindOf.f k (mkS w)) (-2) → ascii w ∧ PName w) (Q := True)
    (fun k i w hw => by
      have hlt := (List.getElem?_eq_some_iff.1 hw).1
      simp only [laws_plainWords.l0]
      rw [if_pos (by rw [List.length_map]; omega), if_pos (by omega), if_pos (by rw [List.length_map]; omega), rd_at (at_map hw), w64 (by omega)]
      cases spec_KindOf.f k (mkS w) with
      | none => rfl
      | some t =>
        simp only [Option.bind_some]
        by_cases h2 : t = -2
        · rw [if_pos h2, if_pos h2]
          cases spec_IsPlainName.f k (mkS w) with
          | none => rfl
          | some b => cases b <;> simp
        · rw [if_neg h2, if_neg h2]
          simp)
    (fun k => by simp only [laws_plainWords.l0]; rw [if_neg (by rw [List.length_map]; omega)])
    (fun w hm => by
      obtain ⟨kd, k1, k2⟩ := kind_f w (hw w hm)
      by_cases h2 : kd = -2
      · obtain ⟨r, p1, p2⟩ := plain_f w (hw w hm)
        exact ⟨r, Ev.bind k1 (Ev.congr (fun k => by rw [if_pos h2]) (Ev.bind p1 (Ev.now _))), fun hr _ => p2 hr⟩
      · exact ⟨true, Ev.bind k1 (Ev.congr (f := fun _ => some true) (fun k => by rw [if_neg h2]) (Ev.now _)), fun _ h => absurd (Ev.one k1 h) h2⟩)
    ⟨true, Ev.now _, fun _ => trivial⟩
  obtain ⟨r, h1, h2⟩ := H
  exact ⟨r, h1, fun hr => (h2 hr).1⟩

/-- A word of a line: no end of a line, a name is plain. -/
def LineW (w : Bs) : Prop := w.length ≤ 60 ∧ w ≠ [10] ∧ ∃ kd, Ev (fun k => spec_KindOf.f k (mkS w)) kd ∧ kd ≠ 0 ∧ (kd = -2 → ascii w ∧ PName w)

theorem line_f (hl : ws.length ≤ 2147483647) (hw : ∀ w ∈ ws, w.length ≤ 2147483647) : ∃ r, Ev (fun k => laws_lineOk.f k (ws.map mkS)) r ∧ (r = true → (∀ w ∈ ws, LineW w) ∧ ws.length ≤ 20) := by
  have H := loop_all (ws := ws) (l0 := fun k i => laws_lineOk.l0 k (ws.map mkS) (ws.map mkS) ((ws.map mkS).length : Int) i) (p := fun _ w => some (decide (w ≠ [10])))
    (e := fun k => (laws_wordsOk.f k (ws.map mkS)).bind fun t => if t = true then (laws_plainWords.f k (ws.map mkS)).bind fun t => if t = true then some (decide (((ws.map mkS).length : Int) ≤ 20)) else some false else some false)
    (P := fun w => w ≠ [10]) (Q := (∀ w ∈ ws, Good w) ∧ (∀ w ∈ ws, Ev (fun k => spec_KindOf.f k (mkS w)) (-2) → ascii w ∧ PName w) ∧ ws.length ≤ 20)
    (fun k i w hw => by
      have hlt := (List.getElem?_eq_some_iff.1 hw).1
      simp only [laws_lineOk.l0]
      rw [if_pos (by rw [List.length_map]; omega), if_pos (by omega), if_pos (by rw [List.length_map]; omega), rd_at (at_map hw), mkS_toList, w64 (by omega)]
      by_cases h : w = [10]
      · rw [if_pos h]; simp [h]
      · rw [if_neg h]; simp [h])
    (fun k => by simp only [laws_lineOk.l0]; rw [if_neg (by rw [List.length_map]; omega)])
    (fun w _ => ⟨_, Ev.now _, fun h => by simpa using h⟩)
    (by
      obtain ⟨r1, w1, w2⟩ := words_f hl hw
      obtain ⟨r2, p1, p2⟩ := plains_f hl hw
      cases r1 with
      | false => exact ⟨false, Ev.bind w1 (Ev.congr (f := fun _ => some false) (fun k => by simp) (Ev.now _)), fun h => by cases h⟩
      | true =>
        cases r2 with
        | false => exact ⟨false, Ev.bind w1 (Ev.congr (fun k => by rw [if_pos rfl]) (Ev.bind p1 (Ev.congr (f := fun _ => some false) (fun k => by simp) (Ev.now _)))), fun h => by cases h⟩
        | true => exact ⟨_, Ev.bind w1 (Ev.congr (fun k => by rw [if_pos rfl]) (Ev.bind p1 (Ev.congr (fun k => by rw [if_pos rfl]) (Ev.now _)))), fun h => ⟨(w2 rfl).1, p2 rfl, by simp at h; omega⟩⟩)
  obtain ⟨r, h1, h2⟩ := H
  refine ⟨r, h1, fun hr => ⟨fun w hm => ?_, (h2 hr).2.2.2⟩⟩
  obtain ⟨a, b, c, d⟩ := h2 hr
  obtain ⟨g1, kd, g2, g3⟩ := b w hm
  exact ⟨g1, a w hm, kd, g2, g3, fun e => c w hm (e ▸ g2)⟩

theorem has_f (n : Bs) (hl : ws.length ≤ 2147483647) : Ev (fun k => laws_has.f k (ws.map mkS) (mkS n)) (ws.any fun w => w == n) := by
  have H : ∀ d i : Nat, ws.length - i ≤ d → i ≤ ws.length → Ev (fun k => laws_has.l0 k (mkS n) (ws.map mkS) ((ws.map mkS).length : Int) (i : Int)) ((ws.drop i).any fun w => w == n) := by
    have hend : Ev (fun k => laws_has.l0 k (mkS n) (ws.map mkS) ((ws.map mkS).length : Int) (ws.length : Int)) ((ws.drop ws.length).any fun w => w == n) := by
      refine Ev.step (f := fun _ => some _) (fun k => ?_) (Ev.now _)
      simp only [laws_has.l0]
      rw [if_neg (by rw [List.length_map]; omega), List.drop_length]
      rfl
    intro d
    induction d with
    | zero =>
      intro i hd hi
      obtain rfl : i = ws.length := by omega
      exact hend
    | succ d ih =>
      intro i hd hi
      rcases Nat.lt_or_ge i ws.length with hlt | hge
      · obtain ⟨w, hw⟩ : ∃ w, ws[i]? = some w := ⟨ws[i], List.getElem?_eq_getElem hlt⟩
        have hdrop : ws.drop i = w :: ws.drop (i + 1) := by
          rw [List.drop_eq_getElem_cons hlt]
          congr 1
          exact Option.some.inj ((List.getElem?_eq_getElem hlt).symm.trans hw)
        have hstep : ∀ k, laws_has.l0 (k + 1) (mkS n) (ws.map mkS) ((ws.map mkS).length : Int) (i : Int) = if w = n then some true else laws_has.l0 k (mkS n) (ws.map mkS) ((ws.map mkS).length : Int) ((i + 1 : Nat) : Int) := fun k => by
          simp only [laws_has.l0]
          rw [if_pos (by rw [List.length_map]; omega), if_pos (by omega), if_pos (by rw [List.length_map]; omega), rd_at (at_map hw), mkS_toList, mkS_toList, w64 (by omega)]
          rfl
        rw [hdrop, List.any_cons]
        by_cases e : w = n
        · refine Ev.step (f := fun _ => some true) (fun k => by rw [hstep, if_pos e]) ?_
          simp [e]
          exact Ev.now _
        · have e' : (w == n) = false := by simpa using e
          rw [e', Bool.false_or]
          exact Ev.step (fun k => by rw [hstep, if_neg e]) (ih (i + 1) (by omega) (by omega))
      · obtain rfl : i = ws.length := by omega
        exact hend
  exact H _ 0 (Nat.le_refl _) (Nat.zero_le _)

/-- The words, a blank behind each. -/
def textB (ws : List Bs) : Bs := ws.flatMap fun w => w ++ [32]
theorem textB_len (ws : List Bs) (h : ∀ w ∈ ws, w.length ≤ 60) : (textB ws).length ≤ 61 * ws.length := by
  induction ws with
  | nil => simp [textB]
  | cons w r ih =>
    have h1 := h w (by simp)
    have h2 := ih (fun x hx => h x (by simp [hx]))
    simp only [textB, List.flatMap_cons, List.length_append, List.length_cons, List.length_nil] at *
    omega
theorem mkS_app (x y : Bs) : mkS x ++ mkS y = mkS (x ++ y) := by
  apply ByteArray.ext
  simp [mkS, ByteArray.data_append]

theorem text_f (hl : ws.length ≤ 1000) (hw : ∀ w ∈ ws, w.length ≤ 60) : Ev (fun k => laws_textOf.f k (ws.map mkS)) (mkS (textB ws)) := by
  have H : ∀ d i : Nat, ws.length - i ≤ d → i ≤ ws.length → Ev (fun k => laws_textOf.l0 k (mkS (textB (ws.take i))) (ws.map mkS) ((ws.map mkS).length : Int) (i : Int)) (mkS (textB ws)) := by
    have hend : Ev (fun k => laws_textOf.l0 k (mkS (textB (ws.take ws.length))) (ws.map mkS) ((ws.map mkS).length : Int) (ws.length : Int)) (mkS (textB ws)) := by
      refine Ev.step (f := fun _ => some _) (fun k => ?_) (Ev.now _)
      simp only [laws_textOf.l0]
      rw [if_neg (by rw [List.length_map]; omega), List.take_length]
    intro d
    induction d with
    | zero =>
      intro i hd hi
      obtain rfl : i = ws.length := by omega
      exact hend
    | succ d ih =>
      intro i hd hi
      rcases Nat.lt_or_ge i ws.length with hlt | hge
      · obtain ⟨w, hw'⟩ : ∃ w, ws[i]? = some w := ⟨ws[i], List.getElem?_eq_getElem hlt⟩
        have htk : ws.take (i + 1) = ws.take i ++ [w] := by rw [List.take_add_one, hw']; rfl
        have hwl := hw w (List.mem_of_getElem? hw')
        have htl := textB_len (ws.take i) (fun x hx => hw x (List.mem_of_mem_take hx))
        rw [List.length_take] at htl
        refine Ev.step (fun k => ?_) (ih (i + 1) (by omega) (by omega))
        simp only [laws_textOf.l0]
        have e32 : (⟨#[32]⟩ : ByteArray) = mkS [32] := rfl
        rw [if_pos (by rw [List.length_map]; omega), if_pos (by omega), if_pos (by rw [List.length_map]; omega), rd_at (at_map hw'), if_pos (by rw [mkS_size]; omega), e32, mkS_app, mkS_app, w64 (by omega)]
        rw [if_pos (by rw [mkS_size, mkS_size, List.length_append, List.length_singleton]; omega)]
        have e : textB (ws.take i) ++ (w ++ [32]) = textB (ws.take (i + 1)) := by
          rw [htk]; simp [textB]
        rw [e]
        rfl
      · obtain rfl : i = ws.length := by omega
        exact hend
  exact H _ 0 (Nat.le_refl _) (Nat.zero_le _)

end
theorem two_d {k : Int} {d : UInt8} {n : Int} (h : two k = some (d, n)) : d = 62 ∨ d = 60 := by
  unfold two at h
  split at h <;> simp at h <;> simp [h.1.symm]

def blanks (p : Bs) : Prop := ∀ b ∈ p, isWs b = true

theorem mark_plain : ∀ c ∈ marks, isPlain c = true := by decide

theorem word_next0 {w : Bs} {kd : Int} (h : Wd kd w) (hnl : w ≠ [10]) (hname : kd = -2 → PName w) (hl : w.length ≤ 60) {p : Bs} (hp : blanks p) {r : Bs} (hs : ∀ s, r.head? = some s → s = 32 ∨ s = 10 ∨ s = 9 ∨ s = 13 ∨ s = 47) : TNext (p ++ (w ++ r)) kd w (p ++ w) r := by
  have h32 : ∀ d n, two kd = some (d, n) → r.head? ≠ some d := fun d n e hh => by
    rcases two_d e with rfl | rfl <;> rcases hs _ hh with e | e | e | e | e <;> revert e <;> decide
  have hid : ends isIdc r := fun c hc => by rcases hs c hc with rfl | rfl | rfl | rfl | rfl <;> decide
  have hdot : ends idot r := fun c hc => by rcases hs c hc with rfl | rfl | rfl | rfl | rfl <;> decide
  cases h with
  | p1 => exact .pair (c := 60) (d := 60) (k := ((60 : UInt8).toNat : Int)) hp (.char (by decide)) rfl
  | p2 => exact .pair (c := 62) (d := 62) (k := ((62 : UInt8).toNat : Int)) hp (.char (by decide)) rfl
  | p3 => exact .pair (c := 45) (d := 62) (k := ((45 : UInt8).toNat : Int)) hp (.char (by decide)) rfl
  | p4 => exact .pair (c := 64) (d := 62) (k := ((64 : UInt8).toNat : Int)) hp (.char (by decide)) rfl
  | nl => exact absurd rfl hnl
  | @mark c hc => exact .one hp (.char (mark_plain c hc)) (by omega) (by simp) h32
  | name _ =>
    obtain ⟨c, x, rfl, h1, h2⟩ := hname rfl
    exact .one hp (.ident h1 h2 hid) (by decide) (Nat.le_trans hl (by decide)) h32
  | num hn =>
    rcases hn with ⟨x, rfl, h1, h2⟩ | rfl | ⟨c, x, rfl, h1, h2, h3⟩
    · exact .one hp (.hex h1 h2 hdot) (by decide) (Nat.le_trans hl (by decide)) h32
    · exact .one hp (.zero hdot) (by decide) (Nat.le_trans hl (by decide)) h32
    · exact .one hp (.dec h1 h2 h3 hdot) (by decide) (Nat.le_trans hl (by decide)) h32
  | quo hq =>
    obtain ⟨m, rfl, hm⟩ := hq
    exact .one hp (.str hm) (by decide) (Nat.le_trans hl (by decide)) h32
theorem word_next {w : Bs} {kd : Int} (h : Wd kd w) (hnl : w ≠ [10]) (hname : kd = -2 → PName w) (hl : w.length ≤ 60) {p : Bs} (hp : blanks p) {s : UInt8} (hs : s = 32 ∨ s = 10 ∨ s = 9 ∨ s = 13 ∨ s = 47) (r : Bs) : TNext (p ++ (w ++ s :: r)) kd w (p ++ w) (s :: r) :=
  word_next0 h hnl hname hl hp (fun c hc => by simp at hc; subst hc; exact hs)

/-- The tokens of a text: kinds and texts alone. -/
inductive Pc : Bs → List (Int × Bs) → Prop
  | nil : Pc [] []
  | cons {r k x z r' ts} : TNext r k x z r' → k ≠ -1 → Pc r' ts → Pc r ((k, x) :: ts)

theorem Pc.tl {r : Bs} {ts : List (Int × Bs)} (h : Pc r ts) : ∀ l c, ∃ T, TL r l c T ∧ T.map Tok.kx = ts := by
  induction h with
  | nil => exact fun l c => ⟨[], .nil (z := []) (.one (ws := []) (x := []) (r' := []) (by simp) .eof (by decide) (by simp) (by intro d n e; cases e)), rfl⟩
  | cons h1 h2 _ ih =>
    intro l c
    obtain ⟨T, h3, h4⟩ := ih (lineAt l _) (adv c _)
    exact ⟨_, .cons h1 h2 h3, by simp [Tok.kx, h4]⟩

theorem pc_nl {p tail : Bs} {ts : List (Int × Bs)} (hp : blanks p) (h : Pc tail ts) : Pc (p ++ 10 :: tail) ((10, [10]) :: ts) :=
  .cons (z := p ++ [10]) (r' := tail) (.one (k := ((10 : UInt8).toNat : Int)) (x := [10]) hp (.char (by decide)) (by decide) (by simp) (by intro d n e; cases e)) (by decide) h

/-- The kind of a word. -/
noncomputable def kindW (w : Bs) : Int := Classical.epsilon fun kd => Ev (fun k => spec_KindOf.f k (mkS w)) kd
theorem kindW_ev {w : Bs} {kd : Int} (h : Ev (fun k => spec_KindOf.f k (mkS w)) kd) : kindW w = kd :=
  Ev.one (Classical.epsilon_spec (p := fun kd => Ev (fun k => spec_KindOf.f k (mkS w)) kd) ⟨kd, h⟩) h

/-- What is known of a word of a line. -/
structure WordL (w : Bs) : Prop where
  wd : Wd (kindW w) w
  ev : Ev (fun k => spec_KindOf.f k (mkS w)) (kindW w)
  nnl : w ≠ [10]
  nm : kindW w = -2 → PName w
  len : w.length ≤ 60

theorem LineW.word {w : Bs} (h : LineW w) : WordL w := by
  obtain ⟨h1, h2, kd, h3, h4, h5⟩ := h
  have e := kindW_ev h3
  obtain ⟨r, r1, r2⟩ := kind_f w (by omega)
  have e2 := Ev.one r1 h3
  subst e2
  exact ⟨e ▸ r2 h4, e.symm ▸ h3, h2, fun hn => (h5 (e ▸ hn)).2, h1⟩

set_option maxRecDepth 100000 in
theorem PName.ascii {w : Bs} (h : PName w) : ascii w := by
  obtain ⟨c, x, rfl, h1, h2⟩ := h
  have hl : ∀ n : Fin 256, isIdc (UInt8.ofNat n.val) = true → UInt8.ofNat n.val < 128 := by decide
  have hall : ∀ c : UInt8, isIdc c = true → c < 128 := fun c h => by
    have := hl ⟨c.toNat, UInt8.toNat_lt c⟩
    simp only [UInt8.ofNat_toNat] at this
    exact this h
  intro y hy
  rcases List.mem_cons.1 hy with rfl | hy
  · exact hall _ (by unfold isIdc; simp [h1])
  · exact hall _ (h2 y hy)

set_option maxRecDepth 100000 in
theorem hexd_fin : ∀ n : Fin 256, (isHexd (UInt8.ofNat n.val) = true ∨ isDig (UInt8.ofNat n.val) = true ∨ isStr (UInt8.ofNat n.val) = true) → UInt8.ofNat n.val < 128 := by decide
theorem WordL.ascii {w : Bs} (h : WordL w) : Lex.ascii w := by
  have hall : ∀ c : UInt8, (isHexd c = true ∨ isDig c = true ∨ isStr c = true) → c < 128 := fun c h => by
    have := hexd_fin ⟨c.toNat, UInt8.toNat_lt c⟩
    simp only [UInt8.ofNat_toNat] at this
    exact this h
  have hmk : ∀ c ∈ marks, c < 128 := by decide
  have hw := h.wd
  generalize hk : kindW w = kd at hw
  cases hw with
  | p1 => intro y hy; simp at hy; subst hy; decide
  | p2 => intro y hy; simp at hy; subst hy; decide
  | p3 => intro y hy; simp at hy; rcases hy with rfl | rfl <;> decide
  | p4 => intro y hy; simp at hy; rcases hy with rfl | rfl <;> decide
  | nl => exact absurd rfl h.nnl
  | @mark c hc => intro y hy; simp at hy; subst hy; exact hmk _ hc
  | name _ => exact (h.nm hk).ascii
  | num hn =>
    rcases hn with ⟨x, rfl, h1, h2⟩ | rfl | ⟨c, x, rfl, h1, h2, h3⟩
    · intro y hy
      rcases List.mem_cons.1 hy with rfl | hy
      · decide
      · rcases List.mem_cons.1 hy with rfl | hy
        · decide
        · exact hall _ (.inl (h2 y hy))
    · intro y hy; simp at hy; subst hy; decide
    · intro y hy
      rcases List.mem_cons.1 hy with rfl | hy
      · exact hall _ (.inr (.inl h1))
      · exact hall _ (.inr (.inl (h3 y hy)))
  | quo hq =>
    obtain ⟨m, rfl, hm⟩ := hq
    intro y hy
    simp at hy
    rcases hy with rfl | hy | rfl
    · decide
    · exact hall _ (.inr (.inr (hm y hy)))
    · decide

/-- The words' tokens. -/
noncomputable def tokW (w : Bs) : Int × Bs := (kindW w, w)

theorem WordL.kind {w : Bs} (h : WordL w) : kindW w ≠ -1 ∧ kindW w ≠ 0 ∧ kindW w ≠ 10 ∧ kindW w ≠ 35 ∧ kindW w ≠ 92 ∧ -1000000 ≤ kindW w ∧ kindW w < 1000000 ∧ w ≠ [] ∧ (kindW w = 40 → w = [40]) := by
  have hmk : ∀ c ∈ marks, c.toNat ≠ 0 ∧ c.toNat ≠ 10 ∧ c.toNat ≠ 35 ∧ c.toNat ≠ 92 ∧ c.toNat < 256 := by decide
  have hw := h.wd
  generalize hk : kindW w = kd at hw ⊢
  cases hw with
  | p1 => decide
  | p2 => decide
  | p3 => decide
  | p4 => decide
  | nl => exact absurd rfl h.nnl
  | @mark c hc =>
    have := hmk c hc
    refine ⟨by omega, by omega, by omega, by omega, by omega, by omega, by omega, by simp, fun e => ?_⟩
    have : c = 40 := UInt8.toNat_inj.1 (by show c.toNat = 40; omega)
    rw [this]
  | name _ =>
    obtain ⟨c, x, rfl, h1, h2⟩ := h.nm hk
    exact ⟨by decide, by decide, by decide, by decide, by decide, by decide, by decide, by simp, fun e => absurd e (by decide)⟩
  | num hn =>
    refine ⟨by decide, by decide, by decide, by decide, by decide, by decide, by decide, ?_, fun e => absurd e (by decide)⟩
    rcases hn with ⟨x, rfl, h1, h2⟩ | rfl | ⟨c, x, rfl, h1, h2, h3⟩ <;> simp
  | quo hq =>
    obtain ⟨m, rfl, hm⟩ := hq
    exact ⟨by decide, by decide, by decide, by decide, by decide, by decide, by decide, by simp, fun e => absurd e (by decide)⟩

theorem blanks_one : blanks [32] := fun b hb => by simp at hb; subst hb; decide

theorem pc_words {ws : List Bs} (hws : ∀ w ∈ ws, WordL w) {tail : Bs} {ts : List (Int × Bs)} (ht : ∀ p, blanks p → Pc (p ++ tail) ts) : ∀ p, blanks p → Pc (p ++ (textB ws ++ tail)) (ws.map tokW ++ ts) := by
  induction ws with
  | nil => exact ht
  | cons w r ih =>
    intro p hp
    have h := hws w (by simp)
    have h1 := word_next h.wd h.nnl h.nm h.len hp (.inl rfl) (textB r ++ tail)
    have h2 := ih (fun x hx => hws x (by simp [hx])) [32] blanks_one
    have e : textB (w :: r) ++ tail = w ++ 32 :: (textB r ++ tail) := by simp [textB]
    rw [e]
    exact .cons h1 h.kind.1 h2
theorem pc_name {x : Bs} (h : PName x) (hl : x.length ≤ 60) {p tail : Bs} {ts : List (Int × Bs)} (hp : blanks p) (ht : Pc (32 :: tail) ts) : Pc (p ++ (x ++ 32 :: tail)) ((-2, x) :: ts) := by
  obtain ⟨c, y, rfl, h1, h2⟩ := h
  exact .cons (.one hp (.ident h1 h2 (fun c hc => by simp at hc; subst hc; decide)) (by decide) (Nat.le_trans hl (by decide)) (by intro d n e; cases e)) (by decide) ht

/-- The line that makes a macro. -/
def defB (name : Bs) (body : List Bs) (tail : Bs) : Bs := 35 :: (kwDefine ++ 32 :: (name ++ 32 :: (textB body ++ 10 :: tail)))

theorem pc_def {name : Bs} {body : List Bs} (hn : PName name) (hl : name.length ≤ 60) (hb : ∀ w ∈ body, WordL w) {tail : Bs} {ts : List (Int × Bs)} (ht : Pc tail ts) : ∀ p, blanks p →
    Pc (p ++ defB name body tail) ((35, [35]) :: (-2, kwDefine) :: (-2, name) :: (body.map tokW ++ (10, [10]) :: ts)) := by
  intro p hp
  refine .cons (z := p ++ [35]) (.one (ws := p) (k := ((35 : UInt8).toNat : Int)) (x := [35]) (r' := kwDefine ++ 32 :: (name ++ 32 :: (textB body ++ 10 :: tail))) hp (.char (by decide)) (by decide) (by simp) (by intro d n e; cases e)) (by decide) ?_
  refine pc_name (x := kwDefine) (p := []) ⟨100, [101, 102, 105, 110, 101], by decide, by decide, by decide⟩ (by decide) (by intro b h; cases h) ?_
  refine pc_name (p := [32]) hn hl blanks_one ?_
  exact pc_words hb (fun p hp => pc_nl hp ht) [32] blanks_one

theorem pc_line {ws : List Bs} (hb : ∀ w ∈ ws, WordL w) {tail : Bs} {ts : List (Int × Bs)} (ht : Pc tail ts) : ∀ p, blanks p → Pc (p ++ (textB ws ++ 10 :: tail)) (ws.map tokW ++ (10, [10]) :: ts) :=
  pc_words hb (fun p hp => pc_nl hp ht)

/-- The line that takes a macro away. -/
def undB (name : Bs) (tail : Bs) : Bs := 35 :: (kwUndef ++ 32 :: (name ++ 10 :: tail))

theorem pc_nm {x : Bs} (h : PName x) (hl : x.length ≤ 60) {p tail : Bs} {s : UInt8} (hs : isIdc s = false) {ts : List (Int × Bs)} (hp : blanks p) (ht : Pc (s :: tail) ts) : Pc (p ++ (x ++ s :: tail)) ((-2, x) :: ts) := by
  obtain ⟨c, y, rfl, h1, h2⟩ := h
  exact .cons (.one hp (.ident h1 h2 (fun c hc => by simp at hc; subst hc; exact hs)) (by decide) (Nat.le_trans hl (by decide)) (by intro d n e; cases e)) (by decide) ht

theorem pc_und {name : Bs} (hn : PName name) (hl : name.length ≤ 60) {tail : Bs} {ts : List (Int × Bs)} (ht : Pc tail ts) : ∀ p, blanks p →
    Pc (p ++ undB name tail) ((35, [35]) :: (-2, kwUndef) :: (-2, name) :: (10, [10]) :: ts) := by
  intro p hp
  refine .cons (z := p ++ [35]) (.one (ws := p) (k := ((35 : UInt8).toNat : Int)) (x := [35]) (r' := kwUndef ++ 32 :: (name ++ 10 :: tail)) hp (.char (by decide)) (by decide) (by simp) (by intro d n e; cases e)) (by decide) ?_
  refine pc_nm (x := kwUndef) (p := []) ⟨117, [110, 100, 101, 102], by decide, by decide, by decide⟩ (by decide) (by decide) (by intro b h; cases h) ?_
  exact pc_nm (p := [32]) hn hl (by decide) blanks_one (pc_nl (p := []) (by intro b h; cases h) ht)

/-- A line of a directive without a name. -/
def dirB (kw : Bs) (tail : Bs) : Bs := 35 :: (kw ++ 10 :: tail)
/-- A line of a directive with a name. -/
def dirN (kw name : Bs) (tail : Bs) : Bs := 35 :: (kw ++ 32 :: (name ++ 10 :: tail))

theorem pc_dirB {kw : Bs} (hk : PName kw) (hl : kw.length ≤ 60) {tail : Bs} {ts : List (Int × Bs)} (ht : Pc tail ts) : Pc (dirB kw tail) ((35, [35]) :: (-2, kw) :: (10, [10]) :: ts) := by
  refine .cons (z := [35]) (.one (ws := []) (k := ((35 : UInt8).toNat : Int)) (x := [35]) (r' := kw ++ 10 :: tail) (by intro b h; cases h) (.char (by decide)) (by decide) (by simp) (by intro d n e; cases e)) (by decide) ?_
  exact pc_nm (p := []) hk hl (by decide) (by intro b h; cases h) (pc_nl (p := []) (by intro b h; cases h) ht)
theorem pc_dirN {kw name : Bs} (hk : PName kw) (hl : kw.length ≤ 60) (hn : PName name) (hnl : name.length ≤ 60) {tail : Bs} {ts : List (Int × Bs)} (ht : Pc tail ts) : Pc (dirN kw name tail) ((35, [35]) :: (-2, kw) :: (-2, name) :: (10, [10]) :: ts) := by
  refine .cons (z := [35]) (.one (ws := []) (k := ((35 : UInt8).toNat : Int)) (x := [35]) (r' := kw ++ 32 :: (name ++ 10 :: tail)) (by intro b h; cases h) (.char (by decide)) (by decide) (by simp) (by intro d n e; cases e)) (by decide) ?_
  refine pc_nm (p := []) hk hl (by decide) (by intro b h; cases h) ?_
  exact pc_nm (p := [32]) hn hnl (by decide) blanks_one (pc_nl (p := []) (by intro b h; cases h) ht)
theorem pn_ifdef : PName kwIfdef := ⟨105, [102, 100, 101, 102], by decide, by decide, by decide⟩
theorem pn_ifndef : PName kwIfndef := ⟨105, [102, 110, 100, 101, 102], by decide, by decide, by decide⟩
theorem pn_else : PName kwElse := ⟨101, [108, 115, 101], by decide, by decide, by decide⟩
theorem pn_endif : PName kwEndif := ⟨101, [110, 100, 105, 102], by decide, by decide, by decide⟩
theorem StT.run {y : Wy} {l : List Fd} {s s' : Sg} (h : StT y l s s') {nm : ByteArray} {mac : Bs → Option Mc} {mn : Nat} (he : At s' nm [] [] mac [] mn) : Run y l.length s s' := by
  induction h with
  | nil =>
    obtain ⟨dead, a, h1, h2, h3, h4, h5, h6, h7, h8, h9⟩ := he
    exact .done h1 h3 (kx_nil h6) h4 h8 (by simp; omega)
  | cons a b c d e f _ ih => exact .step a b c d (ih he)

section
variable {y : Wy} {s : Sg} {nm : ByteArray} {rest : List Ab} {R : List (Int × Bs)} {mac : Bs → Option Mc} {ifs : List Bool} {mn : Nat}

/-- One token that is no macro. -/
theorem st_tok {k : Int} {x : Bs} (h : At s nm rest ((k, x) :: R) mac ifs mn) (hr : rest.length ≤ 90) (h1 : k ≠ 35) (h2 : k ≠ -1) (h3 : k ≠ 0) (h4 : -1000000 ≤ k) (h5 : k < 1000000) (hx : x.length ≤ 1000) (hm : k = -2 → mac x = none) (hi : ifs.length < 1000) (ho : onB ifs = true) :
    ∃ l s1, StT y l s s1 ∧ l.map Fd.kx = [(k, x)] ∧ At s1 nm rest R mac ifs mn ∧ s1.bol = (k == 10) ∧ ∀ f ∈ l, f.nm = nm := by
  obtain ⟨dead, a, q1, q2, q3, q4, q5, q6, q7, q8, q9⟩ := h
  obtain ⟨t, T', hT, hk, hx', hrest⟩ := kx_cons q6
  have hk' : t.k = k := hk
  have hx'' : t.x = x := hx'
  refine ⟨[⟨t.k, t.x, a.nm, t.line⟩], { s with ab := { a with cur := t, ts := T' } :: rest, bol := t.k == 10, text := t.x }, .cons (m := 0) (.tok (dead := dead) (a := a) (rest := rest) (t := t) (ts := T') q1 q3 hT (by simp; omega) (by omega) (by omega) (by omega) (by rw [hx'']; exact hx) (fun e => by rw [q7, hx'']; exact hm (by omega)) (by rw [q8]; exact hi) (by rw [q8]; exact ho)) (by omega) (by omega) (by omega) rfl (by simp; omega) .nil, by simp [Fd.kx, hk', hx''], ⟨[], { a with cur := t, ts := T' }, rfl, (by simp; omega), by simp, q4, q5, hrest, q7, q8, q9⟩, by simp [hk'], fun f hf => by simp at hf; rw [hf]; exact q5⟩

/-- What words stand for: mac's tokens are words that are no macros. -/
structure Rep (mac : Bs → Option Mc) (rep : Bs → List Bs) : Prop where
  none : ∀ w, mac w = none → rep w = [w]
  some : ∀ w m, mac w = some m → m.args = Option.none ∧ m.toks = (rep w).map tokW ∧ rep w ≠ [] ∧ (rep w).length ≤ 1000 ∧ ∀ b ∈ rep w, WordL b ∧ (kindW b = -2 → mac b = Option.none)

/-- The rest of a macro's tokens. -/
theorem st_body {a : Ab} (hr : rest.length ≤ 90) (hi : ifs.length < 1000) (ho : onB ifs = true) :
    ∀ (bs : List Bs) (s : Sg) (sl : Ab), (∀ b ∈ bs, WordL b ∧ (kindW b = -2 → mac b = none)) → s.ab = sl :: a :: rest → sl.nm = nm → sl.ts.map Tok.kx = bs.map tokW → a.istz = true → a.nm = nm → a.ts.map Tok.kx = R → s.mac = mac → s.ifs = ifs → s.mn = mn →
      ∃ l s1, StT y l s s1 ∧ l.map Fd.kx = bs.map tokW ∧ At s1 nm rest R mac ifs mn ∧ ∀ f ∈ l, f.nm = nm := by
  intro bs
  induction bs with
  | nil =>
    intro s sl hb hab hn hts htz han hats hm hif hmn
    exact ⟨[], s, .nil, rfl, ⟨[sl], a, hab, (by simp; omega), fun d hd => by simp at hd; rw [hd]; exact kx_nil hts, htz, han, hats, hm, hif, hmn⟩, by simp⟩
  | cons w r ih =>
    intro s sl hb hab hn hts htz han hats hm hif hmn
    obtain ⟨t, T', hT, hk, hx, hrest⟩ := kx_cons hts
    have hw := (hb w (by simp)).1
    have hwm := (hb w (by simp)).2
    have hkd := hw.kind
    have hlen := hw.len
    have hk' : t.k = kindW w := hk
    have hx' : t.x = w := hx
    obtain ⟨l, s1, h1, h2, h3, h4⟩ := ih { s with ab := { sl with cur := t, ts := T' } :: a :: rest, bol := t.k == 10, text := t.x } { sl with cur := t, ts := T' } (fun x hx => hb x (by simp [hx])) rfl hn hrest htz han hats hm hif hmn
    refine ⟨⟨t.k, t.x, sl.nm, t.line⟩ :: l, s1, .cons (m := 0) (.tok (dead := []) (a := sl) (rest := a :: rest) (t := t) (ts := T') hab (by simp) hT (by simp; omega) (by omega) (by omega) (by omega) (by rw [hx']; omega) (fun e => by rw [hm, hx']; exact hwm (by omega)) (by rw [hif]; exact hi) (by rw [hif]; exact ho)) (by omega) (by omega) (by omega) rfl (by simp; omega) h1, ?_, h3, ?_⟩
    · rw [List.map_cons, h2, List.map_cons]
      simp [Fd.kx, tokW, hk', hx']
    · intro f hf
      rcases List.mem_cons.1 hf with rfl | hf
      · exact hn
      · exact h4 f hf

/-- A line's words, the macros among them as what they stand for. -/
theorem st_words {rep : Bs → List Bs} (hrep : Rep mac rep) (hr : rest.length ≤ 90) (hi : ifs.length < 1000) (ho : onB ifs = true) :
    ∀ (ws : List Bs) (s : Sg), (∀ w ∈ ws, WordL w ∧ ((mac w).isSome = true → kindW w = -2)) → At s nm rest (ws.map tokW ++ R) mac ifs mn →
      ∃ l s1, StT y l s s1 ∧ l.map Fd.kx = (ws.flatMap rep).map tokW ∧ At s1 nm rest R mac ifs mn ∧ ∀ f ∈ l, f.nm = nm := by
  intro ws
  induction ws with
  | nil => exact fun s _ h => ⟨[], s, .nil, rfl, h, by simp⟩
  | cons w r ih =>
    intro s hw h
    obtain ⟨hwl, hwk⟩ := hw w (by simp)
    have hkd := hwl.kind
    have hlen := hwl.len
    cases hmw : mac w with
    | none =>
      obtain ⟨l1, s1, a1, a2, a3, a4, a5⟩ := st_tok (y := y) (k := kindW w) (x := w) (R := r.map tokW ++ R) h hr hkd.2.2.2.1 hkd.1 hkd.2.1 hkd.2.2.2.2.2.1 hkd.2.2.2.2.2.2.1 (by omega) (fun _ => hmw) hi ho
      obtain ⟨l2, s2, b1, b2, b3, b4⟩ := ih s1 (fun x hx => hw x (by simp [hx])) a3
      refine ⟨l1 ++ l2, s2, a1.app b1, ?_, b3, fun f hf => ?_⟩
      · rw [List.map_append, a2, b2, List.flatMap_cons, hrep.none w hmw]
        simp [tokW]
      · rcases List.mem_append.1 hf with hf | hf
        · exact a5 f hf
        · exact b4 f hf
    | some m =>
      obtain ⟨m1, m2, m3, m4, m5⟩ := hrep.some w m hmw
      have hk2 : kindW w = -2 := hwk (by rw [hmw]; rfl)
      obtain ⟨b0, br, hbe⟩ : ∃ b0 br, rep w = b0 :: br := by
        cases hc : rep w with
        | nil => exact absurd hc m3
        | cons b0 br => exact ⟨b0, br, rfl⟩
      rw [hbe] at m2 m4 m5
      have hb0 := m5 b0 (by simp)
      have hb0k := hb0.1.kind
      have hb0l := hb0.1.len
      obtain ⟨dead, a, q1, q2, q3, q4, q5, q6, q7, q8, q9⟩ := h
      rw [List.map_cons, List.cons_append] at q6
      obtain ⟨t, T', hT, hk, hx, hrest⟩ := kx_cons q6
      have hk' : t.k = kindW w := hk
      have hx' : t.x = w := hx
      have hsl : (slAb a.nm t.line m.toks).ts = sTok t.line (tokW b0) :: (br.map tokW).map (sTok t.line) := by rw [m2]; rfl
      obtain ⟨l1, s1, c1, c2, c3, c4⟩ := st_body (y := y) (R := r.map tokW ++ R) (a := { a with cur := t, ts := T' }) (nm := nm) (mac := mac) (mn := mn) hr hi ho br
        { s with ab := { slAb a.nm t.line m.toks with cur := sTok t.line (tokW b0), ts := (br.map tokW).map (sTok t.line) } :: { a with cur := t, ts := T' } :: rest, bol := (sTok t.line (tokW b0)).k == 10, text := (sTok t.line (tokW b0)).x }
        { slAb a.nm t.line m.toks with cur := sTok t.line (tokW b0), ts := (br.map tokW).map (sTok t.line) } (fun x hx => m5 x (by simp [hx])) rfl q5 (by simp [Tok.kx, sTok]) q4 q5 hrest q7 q8 q9
      obtain ⟨l2, s2, d1, d2, d3, d4⟩ := ih s1 (fun x hx => hw x (by simp [hx])) c3
      have hnx : Nx y 0 1 s (sTok t.line (tokW b0)).k { s with ab := { slAb a.nm t.line m.toks with cur := sTok t.line (tokW b0), ts := (br.map tokW).map (sTok t.line) } :: { a with cur := t, ts := T' } :: rest, bol := (sTok t.line (tokW b0)).k == 10, text := (sTok t.line (tokW b0)).x } :=
        .mac (dead := dead) (a := a) (rest := rest) (t := t) (ts := T') (m := m) q1 q3 hT (by simp; omega) (by omega) (by rw [hx']; omega) (by rw [q7, hx']; exact hmw) m1 (by rw [m2]; simp at m4 ⊢; omega) (fun q hq => by
            rw [m2] at hq
            obtain ⟨x, hx1, rfl⟩ := List.mem_map.1 hq
            exact (m5 x hx1).1.kind.1) (by omega)
          (.tok (dead := []) (a := slAb a.nm t.line m.toks) (rest := { a with cur := t, ts := T' } :: rest) rfl (by simp) hsl (by simp; omega) hb0k.2.2.2.1 hb0k.1 hb0k.2.1 (by show b0.length ≤ 1000; omega) (fun e => by rw [show (sTok t.line (tokW b0)).x = b0 from rfl]; show s.mac b0 = none; rw [q7]; exact hb0.2 e) (by show s.ifs.length < 1000; rw [q8]; exact hi) (by show onB s.ifs = true; rw [q8]; exact ho))
      refine ⟨⟨(sTok t.line (tokW b0)).k, (sTok t.line (tokW b0)).x, a.nm, t.line⟩ :: (l1 ++ l2), s2, .cons hnx hb0k.1 hb0k.2.2.2.2.2.1 hb0k.2.2.2.2.2.2.1 rfl (by simp; omega) (c1.app d1), ?_, d3, fun f hf => ?_⟩
      · rw [List.map_cons, List.map_append, c2, d2, List.flatMap_cons, hbe]
        simp [Fd.kx, sTok, tokW]
      · rcases List.mem_cons.1 hf with rfl | hf
        · exact q5
        · rcases List.mem_append.1 hf with hf | hf
          · exact c4 f hf
          · exact d4 f hf

/-- The end of a line. -/
theorem st_nl (h : At s nm rest ((10, [10]) :: R) mac ifs mn) (hr : rest.length ≤ 90) (hi : ifs.length < 1000) (ho : onB ifs = true) :
    ∃ l s1, StT y l s s1 ∧ l.map Fd.kx = [(10, [10])] ∧ At s1 nm rest R mac ifs mn ∧ s1.bol = true ∧ ∀ f ∈ l, f.nm = nm :=
  st_tok h hr (by decide) (by decide) (by decide) (by decide) (by decide) (by decide) (fun e => absurd e (by decide)) hi ho

/-- A line that makes a macro. -/
theorem st_def {name : Bs} {body : List Bs} (h : At s nm rest ((35, [35]) :: (-2, kwDefine) :: (-2, name) :: (body.map tokW ++ (10, [10]) :: R)) mac ifs mn) (hbol : s.bol = true) (hr : ∀ q ∈ rest, q.istz = true) (hrl : rest.length ≤ 90) (hi : ifs.length < 1000) (ho : onB ifs = true) (hmn : mn < 1000)
    (hnl : name.length ≤ 60) (hb : ∀ w ∈ body, WordL w) (hb0 : body ≠ []) (hbh : body.head? ≠ some [40]) (hb20 : body.length ≤ 20) (hno : mac name = none) :
    ∃ l s1, StT y l s s1 ∧ l.map Fd.kx = [(35, [35])] ∧ At s1 nm rest R (fun z => if z = name then some ⟨none, body.map tokW⟩ else mac z) ifs (mn + 1) ∧ s1.bol = true ∧ ∀ f ∈ l, f.nm = nm := by
  obtain ⟨dead, a, q1, q2, q3, q4, q5, q6, q7, q8, q9⟩ := h
  obtain ⟨t, T1, hT, hk, hx, h2⟩ := kx_cons q6
  obtain ⟨kt, T2, rfl, hkk, hkx, h2⟩ := kx_cons h2
  obtain ⟨nt, T3, rfl, hnk, hnx, h2⟩ := kx_cons h2
  obtain ⟨b0, br, hbe⟩ : ∃ b0 br, body = b0 :: br := by
    cases hc : body with
    | nil => exact absurd hc hb0
    | cons b0 br => exact ⟨b0, br, rfl⟩
  rw [hbe, List.map_cons, List.cons_append] at h2
  obtain ⟨t0, T4, rfl, h0k, h0x, h2⟩ := kx_cons h2
  obtain ⟨B, T5, rfl, hB, h3⟩ := List.map_eq_append_iff.1 h2
  obtain ⟨nl, T6, rfl, hnlk, hnlx, h3⟩ := kx_cons h3
  have hbody : (t0 :: B).map Tok.kx = body.map tokW := by
    rw [hbe, List.map_cons, List.map_cons, hB]
    congr 1
    show (t0.k, t0.x) = _
    rw [h0k, h0x]
  have hnx' : nt.x = name := hnx
  have hb0k := (hb b0 (by rw [hbe]; simp)).kind
  have hok : ∀ q ∈ t0 :: B, okTok q ∧ q.k ≠ 10 ∧ q.k ≠ 92 ∧ q.k ≠ -1 ∧ q.k ≠ 0 := fun q hq => by
    have hm : Tok.kx q ∈ body.map tokW := hbody ▸ List.mem_map_of_mem hq
    obtain ⟨w, hwm, e⟩ := List.mem_map.1 hm
    have hW := hb w hwm
    have hkd := hW.kind
    have e1 : q.k = kindW w := by have := congrArg Prod.fst e; exact this.symm
    have e2 : q.x = w := by have := congrArg Prod.snd e; exact this.symm
    refine ⟨⟨e2 ▸ hW.ascii, e2 ▸ hkd.2.2.2.2.2.2.2.1, by rw [e2]; have := hW.len; omega⟩, by rw [e1]; exact hkd.2.2.1, by rw [e1]; exact hkd.2.2.2.2.1, by rw [e1]; exact hkd.1, by rw [e1]; exact hkd.2.1⟩
  have hs1 : Hs y { s with ab := { a with cur := t, ts := kt :: nt :: t0 :: (B ++ nl :: T6) } :: rest } true _ :=
    .define (dead := []) (a := { a with cur := t, ts := kt :: nt :: t0 :: (B ++ nl :: T6) }) (rest := rest) (kt := kt) (nt := nt) (t0 := t0) (body := B) (nl := nl) (ts := T6) ⟨rfl, by show onB s.ifs = true; rw [q8]; exact ho, by show s.ifs.length < 1000; rw [q8]; exact hi, by simp, rfl, hkk, hkx, by simp; omega⟩ (fun q hq => by
      rcases List.mem_cons.1 hq with rfl | hq
      · exact q4
      · exact hr q hq) hnk (by rw [hnx']; omega) (by show s.mac nt.x = none; rw [q7, hnx']; exact hno) (by show s.mn < 1000000; omega)
      (fun e => hbh (by rw [hbe]; have := hb0k.2.2.2.2.2.2.2.2 (by rw [← e]; exact h0k.symm); rw [this]; rfl)) hok hnlk (by have := congrArg List.length hB; simp at this; rw [hbe] at hb20; simp at hb20; omega)
  have hmac : (fun z => if z = nt.x then some (⟨none, (t0 :: B).map Tok.kx⟩ : Mc) else s.mac z) = fun z => if z = name then some (⟨none, body.map tokW⟩ : Mc) else mac z := by
    funext z; rw [hnx', hbody, q7]
  refine ⟨_, _, .cons (m := 0) (k := 35) (.hash (dead := dead) (a := a) (rest := rest) (t := t) (ts := kt :: nt :: t0 :: (B ++ nl :: T6)) q1 q3 hT (by simp; omega) hk hbol hs1) (by decide) (by decide) (by decide) rfl (by simp; omega) .nil, rfl, ⟨[], { a with cur := nl, ts := T6 }, rfl, (by simp; omega), by simp, q4, q5, h3, hmac, q8, by rw [← q9]⟩, rfl, fun f hf => by simp at hf; rw [hf]; exact q5⟩

/-- A line that takes a macro away. -/
theorem st_undef {name : Bs} {m : Mc} (h : At s nm rest ((35, [35]) :: (-2, kwUndef) :: (-2, name) :: (10, [10]) :: R) mac ifs mn) (hbol : s.bol = true) (hrl : rest.length ≤ 90) (hi : ifs.length < 1000) (ho : onB ifs = true) (hnl : name.length ≤ 60) (hno : mac name = some m) :
    ∃ l s1, StT y l s s1 ∧ l.map Fd.kx = [(35, [35])] ∧ At s1 nm rest R (fun z => if z = name then none else mac z) ifs mn ∧ s1.bol = true ∧ ∀ f ∈ l, f.nm = nm := by
  obtain ⟨dead, a, q1, q2, q3, q4, q5, q6, q7, q8, q9⟩ := h
  obtain ⟨t, T1, hT, hk, hx, h2⟩ := kx_cons q6
  obtain ⟨kt, T2, rfl, hkk, hkx, h2⟩ := kx_cons h2
  obtain ⟨nt, T3, rfl, hnk, hnx, h2⟩ := kx_cons h2
  obtain ⟨nl, T6, rfl, hnlk, hnlx, h3⟩ := kx_cons h2
  have hnx' : nt.x = name := hnx
  have hs1 : Hs y { s with ab := { a with cur := t, ts := kt :: nt :: nl :: T6 } :: rest } true _ :=
    .undef (dead := []) (a := { a with cur := t, ts := kt :: nt :: nl :: T6 }) (rest := rest) (kt := kt) (nt := nt) (nl := nl) (ts := T6) (m := m) ⟨rfl, by show onB s.ifs = true; rw [q8]; exact ho, by show s.ifs.length < 1000; rw [q8]; exact hi, by simp, rfl, hkk, hkx, by simp; omega⟩ hnk (by rw [hnx']; omega) (by show s.mac nt.x = some m; rw [q7, hnx']; exact hno) hnlk
  have hmac : (fun z => if z = nt.x then none else s.mac z) = fun z => if z = name then none else mac z := by
    funext z; rw [hnx', q7]
  refine ⟨_, _, .cons (m := 0) (k := 35) (.hash (dead := dead) (a := a) (rest := rest) (t := t) (ts := kt :: nt :: nl :: T6) q1 q3 hT (by simp; omega) hk hbol hs1) (by decide) (by decide) (by decide) rfl (by simp; omega) .nil, rfl, ⟨[], { a with cur := nl, ts := T6 }, rfl, (by simp; omega), by simp, q4, q5, h3, hmac, q8, q9⟩, rfl, fun f hf => by simp at hf; rw [hf]; exact q5⟩
end

/-- A file at its start. -/
theorem at_start {T : List Tok} {nm : ByteArray} {R : List (Int × Bs)} (h : T.map Tok.kx = R) : At ⟨[tzAb nm T], 0, fun _ => none, [], true, []⟩ nm [] R (fun _ => none) [] 0 :=
  ⟨[], tzAb nm T, rfl, by simp, by simp, rfl, rfl, h, rfl, rfl, rfl⟩
section
variable {y : Wy} {s : Sg} {nm : ByteArray} {rest : List Ab} {R : List (Int × Bs)} {mac : Bs → Option Mc} {ifs : List Bool} {mn : Nat}

/-- One directive is read: '#' is told. -/
def HashTo (y : Wy) (s s1 : Sg) (nm : ByteArray) (rest : List Ab) : Prop := Nx y 0 0 s 35 s1 ∧ s1.text = [35] ∧ ∃ a, s1.ab = a :: rest ∧ a.nm = nm

theorem HashTo.st {s1 : Sg} {m : Nat} (h : Nx y 0 m s 35 s1) (hx : s1.text = [35]) (ha : ∃ a, s1.ab = a :: rest ∧ a.nm = nm) (hrl : rest.length ≤ 90) : ∃ l, StT y l s s1 ∧ l.map Fd.kx = [(35, [35])] ∧ ∀ f ∈ l, f.nm = nm := by
  obtain ⟨a, h2, h3⟩ := ha
  refine ⟨_, .cons h (by decide) (by decide) (by decide) h2 (by simp; omega) .nil, by simp [Fd.kx, hx], fun f hf => by simp at hf; rw [hf]; exact h3⟩

/-- A part that is not read is passed by. -/
theorem nx_skips (hrl : rest.length ≤ 90) (hi : ifs.length < 1000) (ho : onB ifs = false) :
    ∀ (Q : List (Int × Bs)) (s : Sg), (∀ q ∈ Q, q.1 ≠ 35 ∧ q.1 ≠ -1 ∧ q.1 ≠ 0 ∧ q.2.length ≤ 1000 ∧ (q.1 = -2 → mac q.2 = none)) → At s nm rest (Q ++ R) mac ifs mn →
      ∃ s2, At s2 nm rest R mac ifs mn ∧ (∀ q, Q.getLast? = some q → s2.bol = (q.1 == 10)) ∧ (Q = [] → s2.bol = s.bol) ∧ ∀ nest n k s', Nx y nest n s2 k s' → Nx y nest (n + Q.length) s k s' := by
  intro Q
  induction Q with
  | nil => exact fun s _ h => ⟨s, h, fun q hq => by simp at hq, fun _ => rfl, fun _ _ _ _ h => h⟩
  | cons q Q ih =>
    intro s hq h
    obtain ⟨g1, g2, g3, g4, g5⟩ := hq q (by simp)
    obtain ⟨dead, a, q1, q2, q3, q4, q5, q6, q7, q8, q9⟩ := h
    rw [List.cons_append] at q6
    obtain ⟨t, T', hT, hk, hx, hrest⟩ := kx_cons q6
    obtain ⟨s2, b1, b2, b3, b4⟩ := ih { s with ab := { a with cur := t, ts := T' } :: rest, bol := t.k == 10 } (fun x hx => hq x (by simp [hx])) ⟨[], { a with cur := t, ts := T' }, rfl, (by simp; omega), by simp, q4, q5, hrest, q7, q8, q9⟩
    refine ⟨s2, b1, fun x hx' => ?_, fun e => (by cases e), fun nest n k s' hn => ?_⟩
    · cases Q with
      | nil =>
        simp at hx'
        subst hx'
        rw [b3 rfl]
        show (t.k == 10) = _
        rw [hk]
      | cons q' Q' => exact b2 x (by simpa using hx')
    · have := b4 nest n k s' hn
      rw [List.length_cons, show n + (Q.length + 1) = n + Q.length + 1 by omega]
      exact .skip (dead := dead) (a := a) (rest := rest) (t := t) (ts := T') q1 q3 hT (by simp; omega) (by rw [hk]; exact g1) (by rw [hk]; exact g2) (by rw [hk]; exact g3) (by rw [hx]; exact g4) (fun e => by rw [q7, hx]; exact g5 (by rw [← hk]; exact e)) (by rw [q8]; exact hi) (by rw [q8]; exact ho) this

/-- A line opens a condition. -/
theorem nx_ifdef {name : Bs} {t : Bool} (h : At s nm rest ((35, [35]) :: (-2, if t then kwIfdef else kwIfndef) :: (-2, name) :: (10, [10]) :: R) mac ifs mn) (hbol : s.bol = true) (hy : y.bl = true) (hrl : rest.length ≤ 90) (hi : ifs.length < 900) (ho : onB ifs = true) (hnl : name.length ≤ 60) :
    ∃ s1, HashTo y s s1 nm rest ∧ At s1 nm rest R mac (ifs ++ [(mac name).isSome == t]) mn ∧ s1.bol = true := by
  obtain ⟨dead, a, q1, q2, q3, q4, q5, q6, q7, q8, q9⟩ := h
  obtain ⟨tk, T1, hT, hk, hx, h2⟩ := kx_cons q6
  obtain ⟨kt, T2, rfl, hkk, hkx, h2⟩ := kx_cons h2
  obtain ⟨nt, T3, rfl, hnk, hnx, h2⟩ := kx_cons h2
  obtain ⟨nl, T6, rfl, hnlk, hnlx, h3⟩ := kx_cons h2
  have hnx' : nt.x = name := hnx
  have hs1 : Hs y { s with ab := { a with cur := tk, ts := kt :: nt :: nl :: T6 } :: rest } true _ :=
    .ifdef (dead := []) (a := { a with cur := tk, ts := kt :: nt :: nl :: T6 }) (rest := rest) (kt := kt) (nt := nt) (nl := nl) (ts := T6) (t := t) hy ⟨rfl, by show onB s.ifs = true; rw [q8]; exact ho, by show s.ifs.length < 1000; rw [q8]; omega, by simp, rfl, hkk, hkx, by simp; omega⟩ hnk (by rw [hnx']; omega) hnlk (by show s.ifs.length < 900; rw [q8]; exact hi)
  refine ⟨_, ⟨.hash (dead := dead) (a := a) (rest := rest) (t := tk) (ts := kt :: nt :: nl :: T6) q1 q3 hT (by simp; omega) hk hbol hs1, rfl, _, rfl, q5⟩, ⟨[], { a with cur := nl, ts := T6 }, rfl, (by simp; omega), by simp, q4, q5, h3, q7, ?_, q9⟩, rfl⟩
  show s.ifs ++ [(s.mac nt.x).isSome == t] = _
  rw [q8, q7, hnx']

/-- The other part begins. -/
theorem nx_else {b : Bool} (h : At s nm rest ((35, [35]) :: (-2, kwElse) :: (10, [10]) :: R) mac [b] mn) (hbol : s.bol = true) (hy : y.bl = true) (hrl : rest.length ≤ 90) :
    ∃ s1, HashTo y s s1 nm rest ∧ At s1 nm rest R mac [!b] mn ∧ s1.bol = true := by
  obtain ⟨dead, a, q1, q2, q3, q4, q5, q6, q7, q8, q9⟩ := h
  obtain ⟨tk, T1, hT, hk, hx, h2⟩ := kx_cons q6
  obtain ⟨kt, T2, rfl, hkk, hkx, h2⟩ := kx_cons h2
  obtain ⟨nl, T6, rfl, hnlk, hnlx, h3⟩ := kx_cons h2
  have hs1 : Hs y { s with ab := { a with cur := tk, ts := kt :: nl :: T6 } :: rest } true _ :=
    .else_ (dead := []) (a := { a with cur := tk, ts := kt :: nl :: T6 }) (rest := rest) (kt := kt) (nl := nl) (ts := T6) (b := b) hy ⟨rfl, by show onB s.ifs = b; rw [q8]; rfl, by show s.ifs.length < 1000; rw [q8]; simp, by simp, rfl, hkk, hkx, by simp; omega⟩ q8 hnlk
  exact ⟨_, ⟨.hash (dead := dead) (a := a) (rest := rest) (t := tk) (ts := kt :: nl :: T6) q1 q3 hT (by simp; omega) hk hbol hs1, rfl, _, rfl, q5⟩, ⟨[], { a with cur := nl, ts := T6 }, rfl, (by simp; omega), by simp, q4, q5, h3, q7, rfl, q9⟩, rfl⟩

/-- The condition ends. -/
theorem nx_endif {b : Bool} (h : At s nm rest ((35, [35]) :: (-2, kwEndif) :: (10, [10]) :: R) mac [b] mn) (hbol : s.bol = true) (hy : y.bl = true) (hrl : rest.length ≤ 90) :
    ∃ s1, HashTo y s s1 nm rest ∧ At s1 nm rest R mac [] mn ∧ s1.bol = true := by
  obtain ⟨dead, a, q1, q2, q3, q4, q5, q6, q7, q8, q9⟩ := h
  obtain ⟨tk, T1, hT, hk, hx, h2⟩ := kx_cons q6
  obtain ⟨kt, T2, rfl, hkk, hkx, h2⟩ := kx_cons h2
  obtain ⟨nl, T6, rfl, hnlk, hnlx, h3⟩ := kx_cons h2
  have hs1 : Hs y { s with ab := { a with cur := tk, ts := kt :: nl :: T6 } :: rest } true _ :=
    .endif (dead := []) (a := { a with cur := tk, ts := kt :: nl :: T6 }) (rest := rest) (kt := kt) (nl := nl) (ts := T6) (b := b) hy ⟨rfl, by show onB s.ifs = b; rw [q8]; rfl, by show s.ifs.length < 1000; rw [q8]; simp, by simp, rfl, hkk, hkx, by simp; omega⟩ q8 hnlk
  exact ⟨_, ⟨.hash (dead := dead) (a := a) (rest := rest) (t := tk) (ts := kt :: nl :: T6) q1 q3 hT (by simp; omega) hk hbol hs1, rfl, _, rfl, q5⟩, ⟨[], { a with cur := nl, ts := T6 }, rfl, (by simp; omega), by simp, q4, q5, h3, q7, rfl, q9⟩, rfl⟩

/-- A definition that is not read. -/
theorem nx_defoff (h : At s nm rest ((35, [35]) :: (-2, kwDefine) :: R) mac ifs mn) (hbol : s.bol = true) (hrl : rest.length ≤ 90) (hi : ifs.length < 1000) (ho : onB ifs = false) :
    ∃ s1, HashTo y s s1 nm rest ∧ At s1 nm rest R mac ifs mn := by
  obtain ⟨dead, a, q1, q2, q3, q4, q5, q6, q7, q8, q9⟩ := h
  obtain ⟨tk, T1, hT, hk, hx, h2⟩ := kx_cons q6
  obtain ⟨kt, T2, rfl, hkk, hkx, h3⟩ := kx_cons h2
  have hs1 : Hs y { s with ab := { a with cur := tk, ts := kt :: T2 } :: rest } false _ :=
    .defoff (dead := []) (a := { a with cur := tk, ts := kt :: T2 }) (rest := rest) (kt := kt) (R := T2) ⟨rfl, by show onB s.ifs = false; rw [q8]; exact ho, by show s.ifs.length < 1000; rw [q8]; exact hi, by simp, rfl, hkk, hkx, by simp; omega⟩
  exact ⟨_, ⟨.hash (dead := dead) (a := a) (rest := rest) (t := tk) (ts := kt :: T2) q1 q3 hT (by simp; omega) hk hbol hs1, rfl, _, rfl, q5⟩, ⟨[], { a with cur := kt, ts := T2 }, rfl, (by simp; omega), by simp, q4, q5, h3, q7, q8, q9⟩⟩

/-- Words, as what is not read. -/
theorem skip_words {ws : List Bs} (hw : ∀ w ∈ ws, WordL w ∧ (kindW w = -2 → mac w = none)) : ∀ q ∈ ws.map tokW ++ [(10, [10])], q.1 ≠ 35 ∧ q.1 ≠ -1 ∧ q.1 ≠ 0 ∧ q.2.length ≤ 1000 ∧ (q.1 = -2 → mac q.2 = none) := by
  intro q hq
  rcases List.mem_append.1 hq with hq | hq
  · obtain ⟨w, hw', rfl⟩ := List.mem_map.1 hq
    have h := (hw w hw').1
    have hk := h.kind
    exact ⟨hk.2.2.2.1, hk.1, hk.2.1, by show w.length ≤ 1000; have := h.len; omega, (hw w hw').2⟩
  · simp at hq
    subst hq
    exact ⟨by decide, by decide, by decide, by decide, fun e => absurd e (by decide)⟩
end
section
variable {y : Wy} {s : Sg} {nm : ByteArray} {rest : List Ab} {R : List (Int × Bs)} {mac : Bs → Option Mc} {ifs : List Bool} {mn : Nat}

/-- A line that includes a file. -/
theorem st_incl {q nmB txt : Bs} {T : List Tok} (h : At s nm rest ((35, [35]) :: (-2, kwInclude) :: (-6, q) :: (10, [10]) :: R) mac ifs mn) (hbol : s.bol = true) (hrl : rest.length ≤ 80) (hi : ifs.length < 1000) (ho : onB ifs = true)
    (hun : ∀ w, Calls Tryz.prog 92 #[.string (mkS q)] w (UnqQ nmB w)) (hF : y.F nmB = some (mkS txt)) (hxl : nmB.length ≤ 1000) (htl : TL txt 1 1 T) (ha : ascii txt) (hlen : txt.length < 900000) :
    ∃ l s1 o, StT y l s s1 ∧ l.map Fd.kx = [(35, [35])] ∧ At s1 (mkS nmB) (o :: rest) (T.map Tok.kx) mac ifs mn ∧ s1.bol = true ∧ o.istz = true ∧ o.nm = nm ∧ o.ts.map Tok.kx = R := by
  obtain ⟨dead, a, q1, q2, q3, q4, q5, q6, q7, q8, q9⟩ := h
  obtain ⟨t, T1, hT, hk, hx, h2⟩ := kx_cons q6
  obtain ⟨kt, T2, rfl, hkk, hkx, h2⟩ := kx_cons h2
  obtain ⟨st, T3, rfl, hsk, hsx, h2⟩ := kx_cons h2
  obtain ⟨nl, T6, rfl, hnlk, hnlx, h3⟩ := kx_cons h2
  have hsx' : st.x = q := hsx
  have hs1 : Hs y { s with ab := { a with cur := t, ts := kt :: st :: nl :: T6 } :: rest } true _ :=
    .incl (dead := []) (a := { a with cur := t, ts := kt :: st :: nl :: T6 }) (rest := rest) (kt := kt) (st := st) (nl := nl) (ts := T6) (T := T) (nmB := nmB) (txt := txt) ⟨rfl, by show onB s.ifs = true; rw [q8]; exact ho, by show s.ifs.length < 1000; rw [q8]; exact hi, by simp, rfl, hkk, hkx, by simp; omega⟩ hsk (by rw [hsx']; exact hun) hnlk hF hxl htl ha hlen (by omega)
  refine ⟨_, _, { a with cur := nl, ts := T6 }, .cons (m := 0) (k := 35) (.hash (dead := dead) (a := a) (rest := rest) (t := t) (ts := kt :: st :: nl :: T6) q1 q3 hT (by simp; omega) hk hbol hs1) (by decide) (by decide) (by decide) rfl (by simp [IncAb]; omega) .nil, rfl, ⟨[], ⟨true, mkS nmB, ⟨0, [], 1, 1⟩, T⟩, rfl, by simp; omega, by simp, rfl, rfl, rfl, q7, q8, q9⟩, rfl, q4, q5, h3⟩

/-- A line that includes a file of a folder. -/
theorem st_incd {q nmB txt : Bs} {T : List Tok} (h : At s nm rest ((35, [35]) :: (-2, kwInclude) :: (-6, q) :: (10, [10]) :: R) mac ifs mn) (hbol : s.bol = true) (hrl : rest.length ≤ 80) (hi : ifs.length < 1000) (ho : onB ifs = true)
    (hun : ∀ w, Calls Tryz.prog 92 #[.string (mkS q)] w (UnqQ nmB w)) (hF : y.F nmB = none) (hfa : FoundAt y.F y.inc nmB txt) (hxl : nmB.length ≤ 1000) (htl : TL txt 1 1 T) (ha : ascii txt) (hlen : txt.length < 900000) :
    ∃ l s1 o, StT y l s s1 ∧ l.map Fd.kx = [(35, [35])] ∧ At s1 (mkS nmB) (o :: rest) (T.map Tok.kx) mac ifs mn ∧ s1.bol = true ∧ o.istz = true ∧ o.nm = nm ∧ o.ts.map Tok.kx = R := by
  obtain ⟨dead, a, q1, q2, q3, q4, q5, q6, q7, q8, q9⟩ := h
  obtain ⟨t, T1, hT, hk, hx, h2⟩ := kx_cons q6
  obtain ⟨kt, T2, rfl, hkk, hkx, h2⟩ := kx_cons h2
  obtain ⟨st, T3, rfl, hsk, hsx, h2⟩ := kx_cons h2
  obtain ⟨nl, T6, rfl, hnlk, hnlx, h3⟩ := kx_cons h2
  have hsx' : st.x = q := hsx
  have hs1 : Hs y { s with ab := { a with cur := t, ts := kt :: st :: nl :: T6 } :: rest } true _ :=
    .incd (dead := []) (a := { a with cur := t, ts := kt :: st :: nl :: T6 }) (rest := rest) (kt := kt) (st := st) (nl := nl) (ts := T6) (T := T) (nmB := nmB) (txt := txt) ⟨rfl, by show onB s.ifs = true; rw [q8]; exact ho, by show s.ifs.length < 1000; rw [q8]; exact hi, by simp, rfl, hkk, hkx, by simp; omega⟩ hsk (by rw [hsx']; exact hun) hnlk hF hfa hxl htl ha hlen (by omega)
  refine ⟨_, _, { a with cur := nl, ts := T6 }, .cons (m := 0) (k := 35) (.hash (dead := dead) (a := a) (rest := rest) (t := t) (ts := kt :: st :: nl :: T6) q1 q3 hT (by simp; omega) hk hbol hs1) (by decide) (by decide) (by decide) rfl (by simp [IncAb]; omega) .nil, rfl, ⟨[], ⟨true, mkS nmB, ⟨0, [], 1, 1⟩, T⟩, rfl, by simp; omega, by simp, rfl, rfl, rfl, q7, q8, q9⟩, rfl, q4, q5, h3⟩

/-- The included file is at its end. -/
theorem at_pop {nm2 : ByteArray} {o : Ab} (h : At s nm2 (o :: rest) [] mac ifs mn) (h1 : o.istz = true) (h2 : o.nm = nm) (h3 : o.ts.map Tok.kx = R) : At s nm rest R mac ifs mn := by
  obtain ⟨dead, a, q1, q2, q3, q4, q5, q6, q7, q8, q9⟩ := h
  refine ⟨dead ++ [a], o, by rw [q1]; simp, by simp at q2 ⊢; omega, fun d hd => ?_, h1, h2, h3, q7, q8, q9⟩
  rcases List.mem_append.1 hd with hd | hd
  · exact q3 d hd
  · simp at hd; rw [hd]; exact kx_nil q6
end
/-- A call that answers and draws alone. -/
def Gd (w : World) (fn : FuncId) (args : Array Value) (r : Value) : Prop := ∀ m, Calls Tryz.prog fn args (w.drewN m) fun e w' => e = .returned r ∧ ∃ j, w' = w.drewN j
theorem gd_of {w : World} {fn : FuncId} {args : Array Value} {r : Value} (h : ∀ m, Calls Tryz.prog fn args (w.drewN m) fun e w' => e = .returned r ∧ Drawn0 (w.drewN m) w') : Gd w fn args r := fun m => by
  refine (h m).mono ?_
  rintro e w' ⟨rfl, ⟨j, rfl⟩⟩
  exact ⟨rfl, m + j, by simp [World.drewN, Nat.add_assoc]⟩

def LawQ (w : World) (e : Ending) (w' : World) : Prop := e = .returned (.bool true) ∧ Below w.heap.size w w'
theorem lawq_drewN (w : World) (m : Nat) : LawQ w (.returned (.bool true)) (w.drewN m) := ⟨rfl, below_drewN (Below.refl _ _) m⟩

theorem fileOf_any {w : World} {x : ByteArray} :
    Calls Tryz.prog 16 #[.string x] w (fun e w' => e = .returned (.slice (some ⟨w.heap.size, 0, none⟩) 1 1) ∧ w' = w.alloc (.cells #[.string mainName, .string x] 33)) := by
  go_enter Tryz.func16, Tryz.ntmps16
  go_wp2
  go_ret
  exact ⟨rfl, rfl⟩

theorem files_one (w : World) (text : Bs) : Files (w.alloc (.cells #[.string mainName, .string (mkS text)] 33)) w.heap.size 1 [(mainBs, mkS text)] :=
  ⟨rfl, .inr ⟨w.heap.size, 1, _, rfl, Nat.zero_le _, heap_alloc_new w _, Nat.le_refl _, by unfold maxLen; omega, rfl, rfl⟩⟩

theorem ascii_text {ws : List Bs} (h : ∀ w ∈ ws, WordL w) : ascii (textB ws) := by
  intro y hy
  obtain ⟨w, hw, hy⟩ := List.mem_flatMap.1 hy
  rcases List.mem_append.1 hy with hy | hy
  · exact (h w hw).ascii y hy
  · simp at hy; subst hy; decide
theorem ascii_cons {c : UInt8} {x : Bs} (hc : c < 128) (h : ascii x) : ascii (c :: x) := fun y hy => by
  rcases List.mem_cons.1 hy with rfl | hy
  · exact hc
  · exact h y hy
theorem ascii_app {x y : Bs} (h : ascii x) (k : ascii y) : ascii (x ++ y) := fun c hc => by
  rcases List.mem_append.1 hc with hc | hc
  · exact h c hc
  · exact k c hc
theorem ascii_def {name : Bs} {body : List Bs} {tail : Bs} (hn : PName name) (hb : ∀ w ∈ body, WordL w) (ht : ascii tail) : ascii (defB name body tail) := by
  unfold defB
  refine ascii_cons (by decide) (ascii_app (by unfold ascii; decide) (ascii_cons (by decide) (ascii_app hn.ascii (ascii_cons (by decide) (ascii_app (ascii_text hb) (ascii_cons (by decide) ht))))))

section
variable {w : World}
theorem gd_fits {A : Option Addr} {c : Nat} {l : List Bs} {r : Bool} (hr : Kd.C Kd.string w A (l.map mkS).length (l.map mkS)) (hc : (l.map mkS).length ≤ c) (h : Ev (fun k => laws_zzFits5.f k (l.map mkS)) r) : Gd w 10 #[.slice A (l.map mkS).length c] (.bool r) := by
  obtain ⟨k, hk⟩ := h.rounds
  exact gd_of fun m => laws_zzFits5.calls k A c _ r (w.drewN m) (Kd.C_drewN hr m) hc hk
theorem gd_line {A : Option Addr} {c : Nat} {l : List Bs} {r : Bool} (hr : Kd.C Kd.string w A (l.map mkS).length (l.map mkS)) (hc : (l.map mkS).length ≤ c) (h : Ev (fun k => laws_lineOk.f k (l.map mkS)) r) : Gd w 11 #[.slice A (l.map mkS).length c] (.bool r) := by
  obtain ⟨k, hk⟩ := h.rounds
  exact gd_of fun m => laws_lineOk.calls k A c _ r (w.drewN m) (Kd.C_drewN hr m) hc hk
theorem gd_has {A : Option Addr} {c : Nat} {l : List Bs} {n : Bs} {r : Bool} (hr : Kd.C Kd.string w A (l.map mkS).length (l.map mkS)) (hc : (l.map mkS).length ≤ c) (h : Ev (fun k => laws_has.f k (l.map mkS) (mkS n)) r) : Gd w 13 #[.slice A (l.map mkS).length c, .string (mkS n)] (.bool r) := by
  obtain ⟨k, hk⟩ := h.rounds
  exact gd_of fun m => laws_has.calls k A c _ _ r (w.drewN m) (Kd.C_drewN hr m) hc hk
theorem gd_text {A : Option Addr} {c : Nat} {l : List Bs} {r : ByteArray} (hr : Kd.C Kd.string w A (l.map mkS).length (l.map mkS)) (hc : (l.map mkS).length ≤ c) (h : Ev (fun k => laws_textOf.f k (l.map mkS)) r) : Gd w 14 #[.slice A (l.map mkS).length c] (.string r) := by
  obtain ⟨k, hk⟩ := h.rounds
  exact gd_of fun m => laws_textOf.calls k A c _ r (w.drewN m) (Kd.C_drewN hr m) hc hk
theorem gd_plain {n : Bs} {r : Bool} (h : Ev (fun k => spec_IsPlainName.f k (mkS n)) r) : Gd w 12 #[.string (mkS n)] (.bool r) := by
  obtain ⟨k, hk⟩ := h.rounds
  exact gd_of fun m => spec_IsPlainName.calls k _ r (w.drewN m) hk

end
end Go.Proofs.YtpoimmpdncickaaGreatDoor
