/- The stack of readers and the maps with strings for keys. -/
import Derived.Test.YtpoimmpdncickaaGreatDoorJ6
import Derived.StillTailTactics
import Derived.Deep.RegionHeld3
import Derived.Deep.DeepCutAuto
import Derived.OwnWalk
import Derived.Maps.Own
import Derived.Maps.OwnSet
import Derived.StringKeys
/- A stack of token readers: Push, Next, Text, Base, Line, Col, File. -/
namespace Go.Proofs.YtpoimmpdncickaaGreatDoor
open Go Go.RowKit Lex
set_option linter.unusedVariables false
set_option linter.unusedSimpArgs false

/-- A reader on the stack. -/
structure RS where
  v : Value
  D : Nat → Prop
  bb : Nat
  nm : ByteArray
  cur : Tok
  ts : List Tok

def RS.ok (w : World) (B : Nat) (r : RS) : Prop := Rd w B r.v r.D r.bb r.cur r.ts
def Apart (a b : RS) : Prop := ∀ k, a.D k → b.D k → False

/-- THE STACK in the input's block ib, the top reader first. -/
structure Stk (w : World) (B ib : Nat) (S : Nat → Value) (rs : List RS) : Prop where
  blk : Blk w ib 73 10 S
  low : B ≤ ib
  row : w.ownsRow B 79 1 (S 0) rs.length (rs.map RS.v).reverse
  rds : ∀ r ∈ rs, r.ok w B
  apart : rs.Pairwise Apart

section
variable {w w' : World} {B ib : Nat} {S : Nat → Value} {rs : List RS} {r : RS}

/-- The top's place. -/
theorem Stk.top (h : Stk w B ib S (r :: rs)) : ∃ g cap, S 0 = .slice (some ⟨g, 0, none⟩) (rs.length + 1) cap ∧ rs.length + 1 ≤ cap ∧ cap ≤ maxLen ∧ w.cell? ⟨g, rs.length, none⟩ = some r.v := by
  have hrow := h.row
  obtain ⟨h1, ⟨_, h0⟩ | ⟨g, cap, cur, hv, a, b, c, d, e, f⟩⟩ := h.row
  · simp at h0
  · rw [hv] at hrow
    refine ⟨g, cap, hv, by simpa using c, d, ?_⟩
    have := hrow.cells (g := g) rfl rs.length r.v (by simp)
    rwa [Addr.add_lit, Nat.zero_add] at this

theorem ownBlock_row {w : World} {base : Nat} {e : TypeId} {size : Nat} {v : Value} {n : Nat} {xs : List Value} (h : w.ownsRow base e size v n xs) : ∀ k, v.ownBlock = some k → base ≤ k ∧ Typed w k (· = e) := by
  intro k hk
  obtain ⟨c, m, hc, _⟩ := ownsRow_type h hk
  exact ⟨(h.lt k hk).1, c, e, hc, rfl⟩

theorem typed_ne {w : World} {k k' : Nat} {P Q : TypeId → Prop} (h : Typed w k P) (h' : Typed w k' Q) (hpq : ∀ T, P T → Q T → False) : k ≠ k' := by
  rintro rfl
  obtain ⟨c, T, h1, h2⟩ := h
  obtain ⟨c', T', h1', h2'⟩ := h'
  rw [h1] at h1'
  have : T = T' := by simpa using (Option.some.inj h1' : Obj.cells c T (0, 0) = Obj.cells c' T' (0, 0)) |> fun x => (Obj.cells.inj x).2.1
  subst this
  exact hpq T h2 h2'
theorem rt_ne {T : TypeId} (h : T = 73 ∨ T = 79 ∨ T = 116) : ¬ RT T := by
  rintro (e | e | e | e | e | e) <;> subst e <;> revert h <;> decide

/-- A reader on the stack has moved; its turn. -/
theorem Stk.step {r' : RS} {pre : List RS} (h : Stk w B ib S (pre ++ r :: rs)) (ho : Only r.D w w') (hr : r'.ok w' B) (hv : r'.v = r.v) (hg : ∀ k, r'.D k → r.D k ∨ w.heap.size ≤ k) : Stk w' B ib S (pre ++ r' :: rs) := by
  have hf := (h.rds r (by simp)).foot
  have hne : ¬ r.D ib := fun e => typed_ne (hf ib e).2 (h.blk.typed (P := (· = 73)) rfl) (fun T a b => rt_ne (.inl b) a) rfl
  have hlt : ∀ q ∈ pre ++ r :: rs, ∀ k, q.D k → k < w.heap.size := fun q hq k hk => ((h.rds q hq).foot k hk).2.lt
  have hap : ∀ q, q ∈ pre ∨ q ∈ rs → ∀ k, q.D k → ¬ r.D k := by
    have := h.apart
    rw [List.pairwise_append] at this
    obtain ⟨_, h2, h3⟩ := this
    rw [List.pairwise_cons] at h2
    rintro q (hq | hq) k a b
    · exact h3 q hq r (by simp) k a b
    · exact h2.1 q hq k b a
  refine { blk := h.blk.only ho hne, low := h.low, row := ?_, rds := ?_, apart := ?_ }
  · have : (pre ++ r' :: rs).map RS.v = (pre ++ r :: rs).map RS.v := by simp [hv]
    rw [this]
    have hl : (pre ++ r' :: rs).length = (pre ++ r :: rs).length := by simp
    rw [hl]
    exact ownsRow_only h.row (fun k hk => by
      obtain ⟨_, ht⟩ := ownBlock_row h.row k hk
      exact ho.block k ht.lt (fun e => typed_ne (hf k e).2 ht (fun T a b => rt_ne (.inr (.inl b)) a) rfl))
  · intro q hq
    rw [List.mem_append, List.mem_cons] at hq
    have key : ∀ q, q ∈ pre ∨ q ∈ rs → q.ok w' B := fun q hq =>
      Rd.only (h.rds q (by rw [List.mem_append, List.mem_cons]; exact hq.imp id .inr)) ho (fun k a => hap q hq k a) (fun k e _ => rt_not_token (hf k e).2)
    rcases hq with hq | rfl | hq
    · exact key q (.inl hq)
    · exact hr
    · exact key q (.inr hq)
  · have := h.apart
    rw [List.pairwise_append, List.pairwise_cons] at this ⊢
    obtain ⟨h1, ⟨h2, h3⟩, h4⟩ := this
    refine ⟨h1, ⟨fun q hq k a b => ?_, h3⟩, fun p hp q hq => ?_⟩
    · rcases hg k a with e | e
      · exact h2 q hq k e b
      · have := hlt q (by simp [hq]) k b; omega
    · rcases List.mem_cons.1 hq with rfl | hq
      · intro k a b
        rcases hg k b with e | e
        · exact h4 p hp r (by simp) k a e
        · have := hlt p (by simp [hp]) k a; omega
      · exact h4 p hp q (by simp [hq])
end
/-- What Text leaves. -/
def RdTextQ (B : Nat) (v : Value) (D : Nat → Prop) (bb : Nat) (cur : Tok) (ts : List Tok) (w : World) (e : Ending) (w' : World) : Prop :=
  e = .returned (.string (mkS cur.x)) ∧ ∃ D', Rd w' B v D' bb cur ts ∧ Only D w w' ∧ (∀ k, D' k → D k ∨ w.heap.size ≤ k)

section
variable {w : World} {B : Nat} {v : Value} {D : Nat → Prop} {bb : Nat} {cur : Tok} {ts : List Tok} {ev : Value}
theorem Rd.drewN (h : Rd w B v D bb cur ts) (m : Nat) : Rd (w.drewN m) B v D bb cur ts := h.only ((Only.refl (fun _ => False) w).drewN m) (fun _ _ h => h) (fun _ h _ => h.elim)

theorem rdText_tz {tz : Nat} (h : Rd w B (.iface 61 (.pointer (some ⟨tz, 0, none⟩))) D bb cur ts) (hk : cur.k ≠ 0) :
    Calls Tryz.prog 83 #[.pointer (some ⟨tz, 0, none⟩)] w (RdTextQ B (.iface 61 (.pointer (some ⟨tz, 0, none⟩))) D bb cur ts w) := by
  cases h with
  | tz h1 h2 h3 h4 =>
    refine (tzText h1 hk h4).mono ?_
    rintro e w' ⟨rfl, tk', hz, htk, ho⟩
    exact ⟨rfl, _, .tz hz h2 h3 h4, ho, tzd_grow htk⟩

theorem rdText_sl {sl : Nat} (h : Rd w B (.iface 132 (.pointer (some ⟨sl, 0, none⟩))) D bb cur ts) (hk : cur.k ≠ 0) :
    Calls Tryz.prog 246 #[.pointer (some ⟨sl, 0, none⟩)] w (RdTextQ B (.iface 132 (.pointer (some ⟨sl, 0, none⟩))) D bb cur ts w) := by
  have h0 := h
  cases h with
  | @sl _ tv line all n _ _ h1 h2 h3 h4 h5 h6 =>
    obtain ⟨m, t, rfl, ht, rfl⟩ := h6.resolve_left hk
    refine (slText h1 ht h3).mono ?_
    rintro e w' ⟨rfl, m', rfl⟩
    exact ⟨rfl, _, h0.drewN m', (Only.refl _ w).drewN m', fun k hk => .inl hk⟩

theorem rdBase_tz {tz : Nat} (h : Rd w B (.iface 61 (.pointer (some ⟨tz, 0, none⟩))) D bb cur ts) :
    Calls Tryz.prog 221 #[.pointer (some ⟨tz, 0, none⟩)] w (fun e w' => e = .returned (.pointer (some ⟨bb, 0, none⟩)) ∧ w' = w) := by
  cases h with
  | tz h1 h2 h3 h4 => exact tzBase h1
theorem rdBase_sl {sl : Nat} (h : Rd w B (.iface 132 (.pointer (some ⟨sl, 0, none⟩))) D bb cur ts) :
    Calls Tryz.prog 239 #[.pointer (some ⟨sl, 0, none⟩)] w (fun e w' => e = .returned (.pointer (some ⟨bb, 0, none⟩)) ∧ w' = w) := by
  cases h with
  | sl h1 => exact slBase h1
theorem rdLine_tz {tz : Nat} (h : Rd w B (.iface 61 (.pointer (some ⟨tz, 0, none⟩))) D bb cur ts) :
    Calls Tryz.prog 224 #[.pointer (some ⟨tz, 0, none⟩)] w (fun e w' => e = .returned (.int .i64 cur.line) ∧ w' = w) := by
  cases h with
  | tz h1 h2 h3 h4 => exact tzLine h1
theorem rdLine_sl {sl : Nat} (h : Rd w B (.iface 132 (.pointer (some ⟨sl, 0, none⟩))) D bb cur ts) :
    Calls Tryz.prog 243 #[.pointer (some ⟨sl, 0, none⟩)] w (fun e w' => e = .returned (.int .i64 cur.line) ∧ w' = w) := by
  cases h with
  | sl h1 h2 h3 h4 h5 => subst h5; exact slLine h1
end

/-- The kinds of readers. -/
theorem Rd.kinds {w : World} {B : Nat} {v : Value} {D : Nat → Prop} {bb : Nat} {cur : Tok} {ts : List Tok} (h : Rd w B v D bb cur ts) : (∃ tz, v = .iface 61 (.pointer (some ⟨tz, 0, none⟩))) ∨ ∃ sl, v = .iface 132 (.pointer (some ⟨sl, 0, none⟩)) := by
  cases h with
  | tz => exact .inl ⟨_, rfl⟩
  | sl => exact .inr ⟨_, rfl⟩

/-- What a stack's method leaves, when the top reader alone has moved. -/
def StkQ (B ib : Nat) (S : Nat → Value) (r : RS) (rs : List RS) (val : Value) (w : World) (e : Ending) (w' : World) : Prop :=
  e = .returned val ∧ ∃ D', Stk w' B ib S ({ r with D := D' } :: rs) ∧ Only r.D w w' ∧ (∀ k, D' k → r.D k ∨ w.heap.size ≤ k)

theorem Stk.drewN {w : World} {B ib : Nat} {S : Nat → Value} {rs : List RS} (h : Stk w B ib S rs) (m : Nat) : Stk (w.drewN m) B ib S rs :=
  { blk := h.blk.drewN m, low := h.low, row := ownsRow_only h.row (fun k _ => rfl), rds := fun r hr => (h.rds r hr).drewN m, apart := h.apart }

set_option maxRecDepth 100000 in
set_option maxHeartbeats 1000000 in
theorem stkText {w : World} {B ib : Nat} {S : Nat → Value} {r : RS} {rs : List RS} (h : Stk w B ib S (r :: rs)) (hk : r.cur.k ≠ 0) (hlen : rs.length < 1000) :
    Calls Tryz.prog 52 #[.pointer (some ⟨ib, 0, none⟩)] w (StkQ B ib S r rs (.string (mkS r.cur.x)) w) := by
  obtain ⟨g, cap, hS, hc1, hc2, htop⟩ := h.top
  have c0 := h.blk.cell_eq (i := 0) (by decide) hS
  have e1 : IntKind.i64.wrap (rs.length : Int) = (rs.length : Int) := IntWalk.i64_in _ (by omega)
  have e2 : (rs.length : Int) < (rs.length : Int) + 1 := by omega
  unfold maxLen at hc2
  have H := Lib.hid h
  have hrd : Rd w B r.v r.D r.bb r.cur r.ts := h.rds r (by simp)
  clear hS h
  obtain ⟨L, hL⟩ : ∃ L, L = rs.length := ⟨_, rfl⟩
  rw [← hL] at c0 htop e1 e2 hc1 hlen
  clear hL
  rcases hrd.kinds with ⟨tz, hv⟩ | ⟨tz, hv⟩
  · rw [hv] at htop hrd
    have Hv := Lib.hid hv
    have Hrd := Lib.hid hrd
    clear hv hrd
    go_enter Tryz.func52, Tryz.ntmps52
    go_wp2
    go_still_tail 12, (by kernel_rfl)
    change wpList _ _ _ _ _ (World.drew _)
    go_wp2_with fail
    refine (rdText_tz (Hrd.out.drewN 1) hk).mono ?_
    rintro e w1 ⟨rfl, D', h1, ho, hg⟩
    have hfin : StkQ B ib S r rs (.string (mkS r.cur.x)) w (.returned (.string (mkS r.cur.x))) w1 :=
      ⟨rfl, D', (H.out.drewN 1).step (pre := []) (r' := { r with D := D' }) ho (by show Rd w1 B r.v D' r.bb r.cur r.ts; rw [Hv.out]; exact h1) rfl hg, ((Only.refl r.D w).drewN 1).trans ho (fun _ _ h => h), hg⟩
    have Hfin := Lib.hid hfin
    clear h1 ho hg hfin
    go_wp2
    go_ret
    exact Hfin.out
  · rw [hv] at htop hrd
    have Hv := Lib.hid hv
    have Hrd := Lib.hid hrd
    clear hv hrd
    go_enter Tryz.func52, Tryz.ntmps52
    go_wp2
    go_still_tail 12, (by kernel_rfl)
    change wpList _ _ _ _ _ (World.drew _)
    go_wp2_with fail
    refine (rdText_sl (Hrd.out.drewN 1) hk).mono ?_
    rintro e w1 ⟨rfl, D', h1, ho, hg⟩
    have hfin : StkQ B ib S r rs (.string (mkS r.cur.x)) w (.returned (.string (mkS r.cur.x))) w1 :=
      ⟨rfl, D', (H.out.drewN 1).step (pre := []) (r' := { r with D := D' }) ho (by show Rd w1 B r.v D' r.bb r.cur r.ts; rw [Hv.out]; exact h1) rfl hg, ((Only.refl r.D w).drewN 1).trans ho (fun _ _ h => h), hg⟩
    have Hfin := Lib.hid hfin
    clear h1 ho hg hfin
    go_wp2
    go_ret
    exact Hfin.out

set_option maxRecDepth 100000 in
set_option maxHeartbeats 1000000 in
theorem stkBase {w : World} {B ib : Nat} {S : Nat → Value} {r : RS} {rs : List RS} (h : Stk w B ib S (r :: rs)) (hlen : rs.length < 1000) :
    Calls Tryz.prog 55 #[.pointer (some ⟨ib, 0, none⟩)] w (fun e w' => e = .returned (.pointer (some ⟨r.bb, 0, none⟩)) ∧ ∃ m, w' = w.drewN m) := by
  obtain ⟨g, cap, hS, hc1, hc2, htop⟩ := h.top
  have c0 := h.blk.cell_eq (i := 0) (by decide) hS
  have e1 : IntKind.i64.wrap (rs.length : Int) = (rs.length : Int) := IntWalk.i64_in _ (by omega)
  have e2 : (rs.length : Int) < (rs.length : Int) + 1 := by omega
  unfold maxLen at hc2
  have H := Lib.hid h
  have hrd : Rd w B r.v r.D r.bb r.cur r.ts := h.rds r (by simp)
  clear hS h
  obtain ⟨L, hL⟩ : ∃ L, L = rs.length := ⟨_, rfl⟩
  rw [← hL] at c0 htop e1 e2 hc1 hlen
  clear hL
  rcases hrd.kinds with ⟨tz, hv⟩ | ⟨tz, hv⟩
  · rw [hv] at htop hrd
    have Hv := Lib.hid hv
    have Hrd := Lib.hid hrd
    clear hv hrd
    go_enter Tryz.func55, Tryz.ntmps55
    go_wp2
    go_still_tail 12, (by kernel_rfl)
    change wpList _ _ _ _ _ (World.drew _)
    go_wp2_with fail
    refine (rdBase_tz (Hrd.out.drewN 1)).mono ?_
    rintro e w1 ⟨rfl, rfl⟩
    go_wp2
    go_ret
    exact ⟨rfl, 1, rfl⟩
  · rw [hv] at htop hrd
    have Hv := Lib.hid hv
    have Hrd := Lib.hid hrd
    clear hv hrd
    go_enter Tryz.func55, Tryz.ntmps55
    go_wp2
    go_still_tail 12, (by kernel_rfl)
    change wpList _ _ _ _ _ (World.drew _)
    go_wp2_with fail
    refine (rdBase_sl (Hrd.out.drewN 1)).mono ?_
    rintro e w1 ⟨rfl, rfl⟩
    go_wp2
    go_ret
    exact ⟨rfl, 1, rfl⟩

set_option maxRecDepth 100000 in
set_option maxHeartbeats 1000000 in
theorem stkLine {w : World} {B ib : Nat} {S : Nat → Value} {r : RS} {rs : List RS} (h : Stk w B ib S (r :: rs)) (hlen : rs.length < 1000) :
    Calls Tryz.prog 37 #[.pointer (some ⟨ib, 0, none⟩)] w (fun e w' => e = .returned (.int .i64 r.cur.line) ∧ ∃ m, w' = w.drewN m) := by
  obtain ⟨g, cap, hS, hc1, hc2, htop⟩ := h.top
  have c0 := h.blk.cell_eq (i := 0) (by decide) hS
  have e1 : IntKind.i64.wrap (rs.length : Int) = (rs.length : Int) := IntWalk.i64_in _ (by omega)
  have e2 : (rs.length : Int) < (rs.length : Int) + 1 := by omega
  unfold maxLen at hc2
  have H := Lib.hid h
  have hrd : Rd w B r.v r.D r.bb r.cur r.ts := h.rds r (by simp)
  clear hS h
  obtain ⟨L, hL⟩ : ∃ L, L = rs.length := ⟨_, rfl⟩
  rw [← hL] at c0 htop e1 e2 hc1 hlen
  clear hL
  rcases hrd.kinds with ⟨tz, hv⟩ | ⟨tz, hv⟩
  · rw [hv] at htop hrd
    have Hv := Lib.hid hv
    have Hrd := Lib.hid hrd
    clear hv hrd
    go_enter Tryz.func37, Tryz.ntmps37
    go_wp2
    go_still_tail 12, (by kernel_rfl)
    change wpList _ _ _ _ _ (World.drew _)
    go_wp2_with fail
    refine (rdLine_tz (Hrd.out.drewN 1)).mono ?_
    rintro e w1 ⟨rfl, rfl⟩
    go_wp2
    go_ret
    exact ⟨rfl, 1, rfl⟩
  · rw [hv] at htop hrd
    have Hv := Lib.hid hv
    have Hrd := Lib.hid hrd
    clear hv hrd
    go_enter Tryz.func37, Tryz.ntmps37
    go_wp2
    go_still_tail 12, (by kernel_rfl)
    change wpList _ _ _ _ _ (World.drew _)
    go_wp2_with fail
    refine (rdLine_sl (Hrd.out.drewN 1)).mono ?_
    rintro e w1 ⟨rfl, rfl⟩
    go_wp2
    go_ret
    exact ⟨rfl, 1, rfl⟩

set_option maxRecDepth 100000 in
theorem filename_any {w : World} {b : Nat} {nm : ByteArray} (h : PB w b nm) : Calls Tryz.prog 56 #[.pointer (some ⟨b, 0, none⟩)] w (fun e w' => e = .returned (.string nm) ∧ w' = w) := by
  obtain ⟨S, hb, hn⟩ := h
  have c2 := hb.cell_eq (i := 2) (by decide) hn
  clear hb hn
  go_enter Tryz.func56, Tryz.ntmps56
  go_wp2
  go_ret
  exact ⟨rfl, rfl⟩

theorem PB.only {w w' : World} {b : Nat} {nm : ByteArray} {E : Nat → Prop} (h : PB w b nm) (ho : Only E w w') (hd : ¬ E b) : PB w' b nm := by
  obtain ⟨S, hb, hn⟩ := h
  exact ⟨S, hb.only ho hd, hn⟩

set_option maxRecDepth 100000 in
theorem stkFile {w : World} {B ib : Nat} {S : Nat → Value} {r : RS} {rs : List RS} {nm : ByteArray} (h : Stk w B ib S (r :: rs)) (hlen : rs.length < 1000) (hp : PB w r.bb nm) :
    Calls Tryz.prog 36 #[.pointer (some ⟨ib, 0, none⟩)] w (fun e w' => e = .returned (.string nm) ∧ ∃ m, w' = w.drewN m) := by
  have Hb := Lib.hid (stkBase h hlen)
  have Hp := Lib.hid hp
  clear h hp hlen
  go_enter Tryz.func36, Tryz.ntmps36
  go_wp2_with fail
  refine Hb.out.mono ?_
  rintro e w1 ⟨rfl, m, rfl⟩
  go_wp2_with fail
  refine (filename_any (Hp.out.only ((Only.refl (fun _ => False) w).drewN m) (fun h => h))).mono ?_
  rintro e w2 ⟨rfl, rfl⟩
  go_wp2
  go_ret
  exact ⟨rfl, m, rfl⟩

theorem TNext.ne {r : Bs} {k : Int} {x z r' : Bs} (h : TNext r k x z r') (hk : k ≠ -1) : r ≠ [] := by
  cases h with
  | gap => simp
  | @one ws k x r' _ hs =>
    cases hs with
    | eof => exact absurd rfl hk
    | _ => simp
  | pair => simp

def StkColQ (B ib : Nat) (S : Nat → Value) (r : RS) (rs : List RS) (w : World) (e : Ending) (w' : World) : Prop :=
  e = .returned (.int .i64 r.cur.col) ∧ Stk w' B ib S (r :: rs) ∧ Below w.heap.size w w'

theorem Stk.below {w w' : World} {B ib : Nat} {S : Nat → Value} {rs : List RS} (h : Stk w B ib S rs) (hb : Below w.heap.size w w') : Stk w' B ib S rs := by
  have ho := Only.ofBelow hb
  refine { blk := h.blk.only ho (by have := h.blk.lt; omega), low := h.low, row := ownsRow_only h.row (fun k hk => hb.block k (h.row.lt k hk).2), rds := fun r hr => ?_, apart := h.apart }
  exact Rd.only (h.rds r hr) ho (fun k hk => by have := ((h.rds r hr).foot k hk).2.lt; omega) (fun k h1 h2 => absurd h2 (by omega))

set_option maxRecDepth 100000 in
set_option maxHeartbeats 1000000 in
/-- Col, where the top reader is a tokenizer that has something left. -/
theorem stkCol {w : World} {B ib : Nat} {S : Nat → Value} {r : RS} {rs : List RS} {tz : Nat} (h : Stk w B ib S (r :: rs)) (hv : r.v = .iface 61 (.pointer (some ⟨tz, 0, none⟩))) (hk : r.cur.k ≠ 0) (hts : r.ts ≠ []) (hlen : rs.length < 1000) :
    Calls Tryz.prog 111 #[.pointer (some ⟨ib, 0, none⟩)] w (StkColQ B ib S r rs w) := by
  obtain ⟨g, cap, hS, hc1, hc2, htop⟩ := h.top
  have c0 := h.blk.cell_eq (i := 0) (by decide) hS
  have e1 : IntKind.i64.wrap (rs.length : Int) = (rs.length : Int) := IntWalk.i64_in _ (by omega)
  have e2 : (rs.length : Int) < (rs.length : Int) + 1 := by omega
  unfold maxLen at hc2
  have H := Lib.hid h
  have hrd : Rd w B r.v r.D r.bb r.cur r.ts := h.rds r (by simp)
  have hcol : Calls Tryz.prog 223 #[.pointer (some ⟨tz, 0, none⟩)] w.drew (ColQ r.cur.col w.drew) := by
    rw [hv] at hrd
    have hrd := hrd.drewN 1
    generalize r.ts = ts at hrd hts
    generalize r.D = D at hrd
    generalize r.bb = bb at hrd
    cases hrd with
    | @tz _ _ _ _ _ r' _ _ _ h1 h2 h3 h4 =>
      cases r' with
      | nil =>
        cases h2 with
        | nil => exact absurd rfl hts
        | cons ht hk' => exact absurd rfl (TNext.ne ht hk')
      | cons c t => exact tzCol h1 hk
  have Hcol := Lib.hid hcol
  rw [hv] at htop
  clear hS h hrd hcol hv
  obtain ⟨L, hL⟩ : ∃ L, L = rs.length := ⟨_, rfl⟩
  rw [← hL] at c0 htop e1 e2 hc1 hlen
  clear hL
  go_enter Tryz.func111, Tryz.ntmps111
  go_wp2
  go_still_tail 12, (by kernel_rfl)
  change wpList _ _ _ _ _ (World.drew _)
  go_wp2_with fail
  refine Hcol.out.mono ?_
  rintro e w1 ⟨rfl, hb⟩
  have hb' : Below w.heap.size w w1 := (Below.refl _ _).drew.trans hb
  have Hfin : Hid (StkColQ B ib S r rs w (.returned (.int .i64 r.cur.col)) w1) := Lib.hid ⟨rfl, H.out.below hb', hb'⟩
  clear hb hb'
  go_wp2
  go_ret
  exact Hfin.out
theorem infoTR : (Tryz.prog.info? 79).map (fun i => (i.zero, i.size, i.bytes)) = some (some .nilIface, 1, 16) := by kernel_rfl

def PushQ (B ib : Nat) (S : Nat → Value) (r : RS) (rs : List RS) (w : World) (e : Ending) (w' : World) : Prop :=
  e = .returned (.tuple #[]) ∧ ∃ S', Stk w' B ib S' (r :: rs) ∧ (∀ i, i ≠ 0 → S' i = S i) ∧ Only (fun k => k = ib ∨ (S 0).ownBlock = some k) w w'

/-- Behind the append. -/
theorem push_end {w w1 : World} {B ib : Nat} {S : Nat → Value} {r : RS} {rs : List RS} {v' : Value} (h : Stk w B ib S rs) (hr : r.ok w B) (hap : ∀ q ∈ rs, Apart r q)
    (hown : w1.ownsRow B 79 1 v' (rs.length + 1) ((rs.map RS.v).reverse ++ [r.v])) (hg : w.grownBy w1 (S 0).ownBlock) :
    PushQ B ib S r rs w (.returned (.tuple #[])) (w1.setCell ⟨ib, 0, none⟩ v') := by
  have ho1 : Only (fun k => (S 0).ownBlock = some k) w w1 := (Only.refl _ w).grown hg (fun k hk _ => hk)
  have hrow : ∀ k, (S 0).ownBlock = some k → Typed w k (· = 79) := fun k hk => (ownBlock_row h.row k hk).2
  have hib : Typed w ib (· = 73) := h.blk.typed rfl
  have hneib : ∀ k, (S 0).ownBlock = some k → k ≠ ib := fun k hk => typed_ne (hrow k hk) hib (fun T a b => by subst a; revert b; decide)
  have hb1 : Blk w1 ib 73 10 S := h.blk.only ho1 (fun e => hneib ib e rfl)
  have ho : Only (fun k => k = ib ∨ (S 0).ownBlock = some k) w (w1.setCell ⟨ib, 0, none⟩ v') := (ho1.mono (fun k _ h => .inr h)).setCell (p := ⟨ib, 0, none⟩) (fun _ => .inl rfl) v'
  have hnt : ∀ k, (k = ib ∨ (S 0).ownBlock = some k) → k < w.heap.size → ¬ Typed w k (· = 116) := fun k hk _ ht => by
    rcases hk with e | e
    · exact typed_ne ht (e ▸ hib) (fun T a b => by subst a; revert b; decide) rfl
    · exact typed_ne ht (hrow k e) (fun T a b => by subst a; revert b; decide) rfl
  have hkeep : ∀ q : RS, q.ok w B → q.ok (w1.setCell ⟨ib, 0, none⟩ v') B := fun q hq => Rd.only hq ho (fun k a => by
    have ht := (Rd.foot hq k a).2
    rintro (e | e)
    · exact typed_ne ht (e ▸ hib) (fun T a b => rt_ne (.inl b) a) rfl
    · exact typed_ne ht (hrow k e) (fun T a b => rt_ne (.inr (.inl b)) a) rfl) hnt
  refine ⟨rfl, upd S 0 v', { blk := hb1.set 0 v', low := h.low, row := ?_, rds := ?_, apart := List.pairwise_cons.2 ⟨hap, h.apart⟩ }, fun i hi => upd_other _ _ hi, ho⟩
  · rw [upd_same]
    have e1 : ((r :: rs).map RS.v).reverse = (rs.map RS.v).reverse ++ [r.v] := by simp
    rw [e1]
    refine ownsRow_only hown (fun k hk => Below.heap_setCell w1 _ _ k (fun e => ?_))
    have ht := (ownBlock_row hown k hk).2
    exact typed_ne ht (hb1.typed (P := (· = 73)) rfl) (fun T a b => by subst a; revert b; decide) e
  · intro q hq
    rcases List.mem_cons.1 hq with rfl | hq
    · exact hkeep _ hr
    · exact hkeep q (h.rds q hq)

set_option maxRecDepth 100000 in
set_option maxHeartbeats 1000000 in
theorem stkPush {w : World} {B ib : Nat} {S : Nat → Value} {r : RS} {rs : List RS} (h : Stk w B ib S rs) (hr : r.ok w B) (hap : ∀ q ∈ rs, Apart r q) (hlen : rs.length < 1000) :
    Calls Tryz.prog 46 #[.pointer (some ⟨ib, 0, none⟩), r.v] w (PushQ B ib S r rs w) := by
  obtain ⟨i0, hi, hz0, hz1, hz2⟩ := info_parts infoTR
  have c0 := h.blk.cell_eq (i := 0) (by decide) rfl
  have f0 := h.blk.frozen 0
  have hBw : B ≤ w.heap.size := Nat.le_trans h.low (Nat.le_of_lt h.blk.lt)
  have hlt := h.blk.lt
  obtain ⟨T, A, hv⟩ : ∃ T A, r.v = .iface T (.pointer (some A)) := by
    rcases Rd.kinds hr with ⟨tz, e⟩ | ⟨tz, e⟩ <;> exact ⟨_, _, e⟩
  have hend := fun w1 v' => push_end (w1 := w1) (v' := v') h hr hap
  have Hend := Lib.hid hend
  have hown := h.row
  have Hlt := Lib.hid hlt
  have HBlk := Lib.hid h.blk
  rw [hv]
  rw [hv] at Hend
  clear h hr hap hend hv
  obtain ⟨L, hL⟩ : ∃ L, L = rs.length := ⟨_, rfl⟩
  rw [← hL] at hlen hown Hend
  clear hL
  obtain ⟨tv, htv⟩ : ∃ tv, tv = S 0 := ⟨_, rfl⟩
  rw [← htv] at c0 hown Hend
  clear htv
  have Hown := Lib.hid hown
  clear hown
  go_enter Tryz.func46, Tryz.ntmps46
  go_wp2_with (at_builtin; refine wpList_append_own _ rfl _ _ 67 rfl B 79 i0 .nilIface 1 16 Tryz.underlying67 hi hz0 hz1 hz2 rfl (by decide) _ _ _ rfl (Hown.out.alloc _) ⟨w.heap.size, 0, none⟩ 1 1 [.iface T (.pointer (some A))] rfl rfl ?c1 ?c2 ?c3 ?c4 ?c5 ?_)
  case c1 => exact (cell_one_new _ _ _)
  case c2 => intro u hu; simp at hu; subst hu; rfl
  case c3 => unfold maxLen; omega
  case c4 => omega
  case c5 => simp; omega
  intro v' w1 hown' hgrow _
  obtain ⟨gg, cap', rfl⟩ : ∃ g cap, v' = .slice (some ⟨g, 0, none⟩) (L + 1) cap := by
    obtain ⟨_, ⟨_, h0⟩ | ⟨g, cap, cur, e, _⟩⟩ := hown'
    · omega
    · exact ⟨g, cap, e⟩
  have hg2 : w.grownBy w1 tv.ownBlock := ⟨hgrow.os, hgrow.tape, hgrow.output, by have := hgrow.size; simp at this; omega, fun k hk hne => (hgrow.block k (by simp; omega) hne).trans (Below.heap_alloc w _ k hk)⟩
  have hfin := Hend.out w1 _ hown' hg2
  have hne : ∀ k, tv.ownBlock = some k → k ≠ ib := fun k hk => typed_ne (ownBlock_row Hown.out k hk).2 (HBlk.out.typed (P := (· = 73)) rfl) (fun T a b => by subst a; revert b; decide)
  have hb1 : Blk w1 ib 73 10 S := HBlk.out.of_heap (hg2.block ib Hlt.out (fun e => hne ib e.symm rfl))
  have c1 := hb1.cell (i := 0) (by decide)
  have f1 := hb1.frozen 0
  have Hfin := Lib.hid hfin
  clear hown' hgrow hg2 hfin hne hb1 c0 f0
  go_wp2
  go_end0
  exact Hfin.out
theorem Rd.not_eof {w : World} {B : Nat} {v : Value} {D : Nat → Prop} {bb : Nat} {cur t : Tok} {ts : List Tok} (h : Rd w B v D bb cur (t :: ts)) : t.k ≠ -1 := by
  generalize hts : t :: ts = tt at h
  cases h with
  | tz h1 h2 h3 h4 =>
    subst hts
    cases h2 with
    | cons ht hk htl => exact hk
  | @sl _ tv line all n _ _ h1 h2 h3 h4 h5 h6 =>
    have hlt : n < all.length := by
      rcases Nat.lt_or_ge n all.length with h | h
      · exact h
      · rw [List.drop_eq_nil_of_le h] at hts; cases hts
    rw [List.drop_eq_getElem_cons hlt, List.map_cons] at hts
    obtain ⟨rfl, rfl⟩ := List.cons.inj hts
    exact h4 _ (List.getElem_mem hlt)

/-- The top reader is taken off. -/
theorem Stk.drop {w w1 : World} {B ib : Nat} {S : Nat → Value} {d : RS} {rs : List RS} {g cap : Nat} (h : Stk w B ib S (d :: rs)) (ho : Only d.D w w1) (hS : S 0 = .slice (some ⟨g, 0, none⟩) (rs.length + 1) cap) (m : Nat) :
    Stk ((w1.setCell ⟨ib, 0, none⟩ (.slice (some ⟨g, 0, none⟩) rs.length cap)).drewN m) B ib (upd S 0 (.slice (some ⟨g, 0, none⟩) rs.length cap)) rs := by
  have hf := (h.rds d (by simp)).foot
  have hib : Typed w ib (· = 73) := h.blk.typed rfl
  have hne : ¬ d.D ib := fun e => typed_ne (hf ib e).2 hib (fun T a b => rt_ne (.inl b) a) rfl
  have hrow := h.row
  rw [hS] at hrow
  have hg : Typed w g (· = 79) := (ownBlock_row hrow g rfl).2
  have hgb : w1.heap[g]? = w.heap[g]? := ho.block g hg.lt (fun e => typed_ne (hf g e).2 hg (fun T a b => rt_ne (.inr (.inl b)) a) rfl)
  have hgi : g ≠ ib := typed_ne hg hib (fun T a b => by subst a; revert b; decide)
  have hb1 : Blk w1 ib 73 10 S := h.blk.only ho hne
  have o2 : Only (fun k => k = ib ∨ d.D k) w ((w1.setCell ⟨ib, 0, none⟩ (.slice (some ⟨g, 0, none⟩) rs.length cap)).drewN m) := ((ho.mono (fun k _ h => .inr h)).setCell (p := ⟨ib, 0, none⟩) (fun _ => .inl rfl) _).drewN m
  have hap := List.pairwise_cons.1 h.apart
  refine { blk := (hb1.set 0 _).drewN m, low := h.low, row := ?_, rds := fun q hq => ?_, apart := hap.2 }
  · rw [upd_same]
    have e1 : (List.map RS.v (d :: rs)).reverse = (rs.map RS.v).reverse ++ [d.v] := by simp
    rw [e1] at hrow
    refine ownsRow_only (ownsRow_pop (by simp) hrow) (fun k hk => ?_)
    cases hk
    show (w1.setCell ⟨ib, 0, none⟩ _).heap[g]? = _
    rw [Below.heap_setCell w1 _ _ g (fun e => hgi e)]
    exact hgb
  · refine Rd.only (h.rds q (by simp [hq])) o2 (fun k a => ?_) (fun k e _ => ?_)
    · rintro (e | e)
      · exact typed_ne ((h.rds q (by simp [hq])).foot k a).2 (e ▸ hib) (fun T a b => rt_ne (.inl b) a) rfl
      · exact hap.1 q hq k e a
    · rcases e with e | e
      · exact fun ht => typed_ne ht (e ▸ hib) (fun T a b => by subst a; revert b; decide) rfl
      · exact rt_not_token (hf k e).2

def StNextQ (B ib : Nat) (S : Nat → Value) (dead : List RS) (r : RS) (t : Tok) (ts : List Tok) (rest : List RS) (w : World) (e : Ending) (w' : World) : Prop :=
  e = .returned (.int .i32 t.k) ∧ ∃ S' D', Stk w' B ib S' ({ r with D := D', cur := t, ts := ts } :: rest) ∧ (∀ i, i ≠ 0 → S' i = S i) ∧ Only (fun k => k = ib ∨ ∃ q ∈ dead ++ [r], q.D k) w w' ∧ (∀ k, D' k → r.D k ∨ w.heap.size ≤ k)

set_option maxRecDepth 100000 in
set_option maxHeartbeats 2000000 in
theorem stNext_head {w : World} {B ib : Nat} {S : Nat → Value} {r : RS} {t : Tok} {ts : List Tok} {rest : List RS} {ev : Value} (h : Stk w B ib S (r :: rest)) (hts : r.ts = t :: ts) (hg : Glob w ev) (hB : 21 ≤ B) (hlen : rest.length < 1000) :
    Calls Tryz.prog 50 #[.pointer (some ⟨ib, 0, none⟩)] w (StNextQ B ib S [] r t ts rest w) := by
  obtain ⟨g, cap, hS, hc1, hc2, htop⟩ := h.top
  have c0 := h.blk.cell_eq (i := 0) (by decide) hS
  have e1 : IntKind.i64.wrap (rest.length : Int) = (rest.length : Int) := IntWalk.i64_in _ (by omega)
  have e2 : (rest.length : Int) < (rest.length : Int) + 1 := by omega
  unfold maxLen at hc2
  have H := Lib.hid h
  have hrd : Rd w B r.v r.D r.bb r.cur r.ts := h.rds r (by simp)
  rw [hts] at hrd
  have hne := hrd.not_eof
  have hneb : (t.k == -1) = false := by simp [hne]
  have Hg := Lib.hid hg
  clear hS h hts hg hne
  obtain ⟨L, hL⟩ : ∃ L, L = rest.length := ⟨_, rfl⟩
  rw [← hL] at c0 htop e1 e2 hc1 hlen
  clear hL
  rcases hrd.kinds with ⟨tz, hv⟩ | ⟨tz, hv⟩
  · rw [hv] at htop hrd
    have Hv := Lib.hid hv
    have Hrd := Lib.hid hrd
    clear hv hrd
    go_enter Tryz.func50, Tryz.ntmps50
    go_wp2
    go_quiet (fail)
    go_wp2_with fail
    refine (rdNext_tz (Hrd.out.drewN _) (Hg.out.only ((Only.refl (fun _ => False) w).drewN _) (fun _ _ h => h)) hB).mono ?_
    rintro e w1 ⟨rfl, D', h1, ho, hgr⟩
    have hfin : StNextQ B ib S [] r t ts rest w (.returned (.int .i32 t.k)) w1 :=
      ⟨rfl, S, D', (H.out.drewN nq).step (pre := []) (r' := { r with D := D', cur := t, ts := ts }) ho (by show Rd w1 B r.v D' r.bb t ts; rw [Hv.out]; exact h1) rfl hgr, fun _ _ => rfl, (((Only.refl (fun k => k = ib ∨ ∃ q ∈ [] ++ [r], q.D k) w).drewN nq).trans ho (fun k _ h => .inr ⟨r, by simp, h⟩)), hgr⟩
    have Hfin := Lib.hid hfin
    clear h1 ho hgr hfin
    go_wp2
    refine wp_loop_rounds 1 ?_
    rw [rounds_succ]
    go_wp2
    go_ret
    exact Hfin.out
  · rw [hv] at htop hrd
    have Hv := Lib.hid hv
    have Hrd := Lib.hid hrd
    clear hv hrd
    go_enter Tryz.func50, Tryz.ntmps50
    go_wp2
    go_quiet (fail)
    go_wp2_with fail
    refine (rdNext_sl (Hrd.out.drewN _)).mono ?_
    rintro e w1 ⟨rfl, D', h1, ho, hgr⟩
    have hfin : StNextQ B ib S [] r t ts rest w (.returned (.int .i32 t.k)) w1 :=
      ⟨rfl, S, D', (H.out.drewN nq).step (pre := []) (r' := { r with D := D', cur := t, ts := ts }) ho (by show Rd w1 B r.v D' r.bb t ts; rw [Hv.out]; exact h1) rfl hgr, fun _ _ => rfl, (((Only.refl (fun k => k = ib ∨ ∃ q ∈ [] ++ [r], q.D k) w).drewN nq).trans ho (fun k _ h => .inr ⟨r, by simp, h⟩)), hgr⟩
    have Hfin := Lib.hid hfin
    clear h1 ho hgr hfin
    go_wp2
    refine wp_loop_rounds 1 ?_
    rw [rounds_succ]
    go_wp2
    go_ret
    exact Hfin.out

/-- The top reader is at its end. -/
def DeadQ (d : RS) (w : World) (e : Ending) (w' : World) : Prop := e = .returned (.int .i32 (-1)) ∧ Only d.D w w'

theorem StNextQ.pop {w w1 : World} {B ib : Nat} {S S1 : Nat → Value} {d : RS} {dead : List RS} {r : RS} {t : Tok} {ts : List Tok} {rest : List RS} {e : Ending} {w' : World} (h : StNextQ B ib S1 dead r t ts rest w1 e w')
    (hS : ∀ i, i ≠ 0 → S1 i = S i) (ho : Only (fun k => k = ib ∨ d.D k) w w1) : StNextQ B ib S (d :: dead) r t ts rest w e w' := by
  obtain ⟨he, S', D', h1, h2, h3, h4⟩ := h
  refine ⟨he, S', D', h1, fun i hi => (h2 i hi).trans (hS i hi), ?_, fun k hk => (h4 k hk).imp id (fun h => Nat.le_trans ho.size h)⟩
  refine (ho.mono (fun k _ h => ?_)).trans h3 (fun k _ h => ?_)
  · exact h.imp id (fun h => ⟨d, by simp, h⟩)
  · exact h.imp id (fun ⟨q, hq, h⟩ => ⟨q, by simp at hq ⊢; exact .inr hq, h⟩)

def StEofQ (B ib : Nat) (S : Nat → Value) (dead : List RS) (r : RS) (w : World) (e : Ending) (w' : World) : Prop :=
  e = .returned (.int .i32 (-1)) ∧ ∃ S' D' c, Stk w' B ib S' [{ r with D := D', cur := ⟨-1, [], r.cur.line, c⟩, ts := [] }] ∧ (∀ i, i ≠ 0 → S' i = S i) ∧ Only (fun k => k = ib ∨ ∃ q ∈ dead ++ [r], q.D k) w w' ∧ (∀ k, D' k → r.D k ∨ w.heap.size ≤ k)
theorem StEofQ.pop {w w1 : World} {B ib : Nat} {S S1 : Nat → Value} {d : RS} {dead : List RS} {r : RS} {e : Ending} {w' : World} (h : StEofQ B ib S1 dead r w1 e w')
    (hS : ∀ i, i ≠ 0 → S1 i = S i) (ho : Only (fun k => k = ib ∨ d.D k) w w1) : StEofQ B ib S (d :: dead) r w e w' := by
  obtain ⟨he, S', D', c, h1, h2, h3, h4⟩ := h
  refine ⟨he, S', D', c, h1, fun i hi => (h2 i hi).trans (hS i hi), ?_, fun k hk => (h4 k hk).imp id (fun h => Nat.le_trans ho.size h)⟩
  refine (ho.mono (fun k _ h => ?_)).trans h3 (fun k _ h => ?_)
  · exact h.imp id (fun h => ⟨d, by simp, h⟩)
  · exact h.imp id (fun ⟨q, hq, h⟩ => ⟨q, by simp at hq ⊢; exact .inr hq, h⟩)

set_option maxRecDepth 100000 in
set_option maxHeartbeats 2000000 in
theorem stEof_head {w : World} {B ib : Nat} {S : Nat → Value} {r : RS} {ev : Value} {tz : Nat} (h : Stk w B ib S [r]) (hts : r.ts = []) (hv : r.v = .iface 61 (.pointer (some ⟨tz, 0, none⟩))) (hg : Glob w ev) (hB : 21 ≤ B) :
    Calls Tryz.prog 50 #[.pointer (some ⟨ib, 0, none⟩)] w (StEofQ B ib S [] r w) := by
  obtain ⟨g, cap, hS, hc1, hc2, htop⟩ := h.top
  have c0 := h.blk.cell_eq (i := 0) (by decide) hS
  unfold maxLen at hc2
  have H := Lib.hid h
  have hrd : Rd w B r.v r.D r.bb r.cur r.ts := h.rds r (by simp)
  rw [hts, hv] at hrd
  rw [hv] at htop
  have Hg := Lib.hid hg
  have HS := Lib.hid hS
  have Hv := Lib.hid hv
  have Hrd := Lib.hid hrd
  simp only [List.length_nil, Nat.zero_add] at c0 htop hc1
  clear hS h hts hg hv hrd
  go_enter Tryz.func50, Tryz.ntmps50
  go_wp2
  go_quiet (fail)
  go_wp2_with fail
  refine (rdEof_tz (Hrd.out.drewN _) (Hg.out.only ((Only.refl (fun _ => False) w).drewN _) (fun _ _ h => h)) hB).mono ?_
  rintro e w1 ⟨c, rfl, D', h1, ho, hgr⟩
  have hstk := (H.out.drewN nq).step (pre := []) (r' := { r with D := D', cur := ⟨-1, [], r.cur.line, c⟩, ts := [] }) ho (by show Rd w1 B r.v D' r.bb _ []; rw [Hv.out]; exact h1) rfl hgr
  have hfin : StEofQ B ib S [] r w (.returned (.int .i32 (-1))) w1 :=
    ⟨rfl, S, D', c, hstk, fun _ _ => rfl, (((Only.refl (fun k => k = ib ∨ ∃ q ∈ [] ++ [r], q.D k) w).drewN nq).trans ho (fun k _ h => .inr ⟨r, by simp, h⟩)), hgr⟩
  have k0 : w1.cell? ⟨ib, 0, none⟩ = some (.slice (some ⟨g, 0, none⟩) 1 cap) := hstk.blk.cell_eq (i := 0) (by decide) HS.out
  have Hfin := Lib.hid hfin
  clear h1 ho hgr hfin hstk c0 htop
  go_wp2
  refine wp_loop_rounds 1 ?_
  rw [rounds_succ]
  go_wp2
  go_ret
  exact Hfin.out

set_option maxRecDepth 100000 in
set_option maxHeartbeats 4000000 in
theorem stNext {B ib : Nat} {r : RS} {t : Tok} {ts : List Tok} {rest : List RS} {ev : Value} (hB : 21 ≤ B) (hts : r.ts = t :: ts) (htk : t.k ≠ -1) :
    ∀ (dead : List RS) {w : World} {S : Nat → Value}, Stk w B ib S (dead ++ r :: rest) → (∀ d ∈ dead, d.ts = []) → Glob w ev → (dead ++ r :: rest).length < 1000 →
    Calls Tryz.prog 50 #[.pointer (some ⟨ib, 0, none⟩)] w (StNextQ B ib S dead r t ts rest w)
  | [], w, S, h, _, hg, hl => stNext_head h hts hg hB (by simp at hl; omega)
  | d :: dead, w, S, h, hd, hg, hl => by
    have ih := fun (w : World) (S : Nat → Value) (hs : Stk w B ib S (dead ++ r :: rest)) (hgl : Glob w ev) => stNext hB hts htk dead (w := w) (S := S) hs (fun q hq => hd q (by simp [hq])) hgl (by simp at hl ⊢; omega)
    have Ih := Lib.hid ih
    have hlen : (dead ++ r :: rest).length < 1000 := by simp at hl ⊢; omega
    have h1L : 1 ≤ (dead ++ r :: rest).length := by simp <;> omega
    have h' : Stk w B ib S (d :: (dead ++ r :: rest)) := h
    obtain ⟨g, cap, hS, hc1, hc2, htop⟩ := h'.top
    have c0 := h'.blk.cell_eq (i := 0) (by decide) hS
    have e1 : IntKind.i64.wrap ((dead ++ r :: rest).length : Int) = ((dead ++ r :: rest).length : Int) := IntWalk.i64_in _ (by omega)
    have e2 : ((dead ++ r :: rest).length : Int) < ((dead ++ r :: rest).length : Int) + 1 := by omega
    unfold maxLen at hc2
    have hrd : Rd w B d.v d.D d.bb d.cur d.ts := h'.rds d (by simp)
    rw [hd d (by simp)] at hrd
    have hneb : (t.k == -1) = false := by simp [htk]
    have hbnd : ∀ k, (k = ib ∨ d.D k) → B ≤ k := fun k hk => hk.elim (fun e => e ▸ h'.low) (fun e => (hrd.foot k e).1)
    have hgl : ∀ w1, Only (fun k => k = ib ∨ d.D k) w w1 → Glob w1 ev := fun w1 ho => hg.only ho (fun k hk e => by have := hbnd k e; omega)
    have hdead : ∀ m, (∃ tz, d.v = .iface 61 (.pointer (some ⟨tz, 0, none⟩)) ∧ Calls Tryz.prog 82 #[.pointer (some ⟨tz, 0, none⟩)] (w.drewN m) (DeadQ d (w.drewN m))) ∨
        (∃ tz, d.v = .iface 132 (.pointer (some ⟨tz, 0, none⟩)) ∧ Calls Tryz.prog 244 #[.pointer (some ⟨tz, 0, none⟩)] (w.drewN m) (DeadQ d (w.drewN m))) := by
      intro m
      have hrd := hrd.drewN m
      rcases hrd.kinds with ⟨tz, hv⟩ | ⟨tz, hv⟩
      · rw [hv] at hrd
        exact .inl ⟨tz, hv, (rdEof_tz hrd (hg.only ((Only.refl (fun _ => False) w).drewN m) (fun _ _ h => h)) hB).mono (fun e w' ⟨c, he, D', _, ho, _⟩ => ⟨he, ho⟩)⟩
      · rw [hv] at hrd
        exact .inr ⟨tz, hv, (rdEof_sl hrd).mono (fun e w' ⟨he, ho⟩ => ⟨he, ho⟩)⟩
    have H := Lib.hid h'
    have HS := Lib.hid hS
    have Hgl := Lib.hid hgl
    have Hdead := Lib.hid hdead
    have hkinds := hrd.kinds
    clear ih h h' hd hg hl hS hrd hbnd hgl hdead
    have Hc1 := Lib.hid hc1
    obtain ⟨L, hL⟩ : ∃ L, L = (dead ++ r :: rest).length := ⟨_, rfl⟩
    rw [← hL] at c0 htop e1 e2 hc1 hlen h1L
    have HL := Lib.hid hL
    clear hL
    have l1 : (1 : Int) < (L : Int) + 1 := by omega
    rcases hkinds with ⟨tq, hv⟩ | ⟨tq, hv⟩
    · rw [hv] at htop
      have Hv := Lib.hid hv
      clear hv
      go_enter Tryz.func50, Tryz.ntmps50
      go_wp2
      go_quiet (fail)
      go_wp2_with fail
      have hdc : Calls Tryz.prog 82 #[.pointer (some ⟨tq, 0, none⟩)] (w.drewN nq) (DeadQ d (w.drewN nq)) := by
        rcases Hdead.out nq with ⟨tz', e, h⟩ | ⟨tz', e, _⟩
        · rw [Hv.out] at e; cases e; exact h
        · rw [Hv.out] at e; cases e
      refine hdc.mono ?_
      clear hdc
      rintro e w1 ⟨rfl, ho⟩
      have ho1 : Only d.D w w1 := ((Only.refl d.D w).drewN nq).trans ho (fun _ _ h => h)
      have hfd := H.out.rds d (by simp)
      have hne : ¬ d.D ib := fun e => typed_ne (Rd.foot hfd ib e).2 (H.out.blk.typed (P := (· = 73)) rfl) (fun T a b => rt_ne (.inl b) a) rfl
      have hb1 := H.out.blk.only ho1 hne
      have k0 : w1.cell? ⟨ib, 0, none⟩ = some (.slice (some ⟨g, 0, none⟩) (L + 1) cap) := hb1.cell_eq (i := 0) (by decide) (by rw [HS.out, ← HL.out])
      have kf := hb1.frozen 0
      have Ho1 := Lib.hid ho1
      clear ho ho1 hfd hne hb1 c0 htop
      go_wp2
      refine wp_loop_rounds 2 ?_
      rw [rounds_succ]
      go_wp2
      have hdrop := H.out.drop Ho1.out HS.out 1
      have hodrop : Only (fun k => k = ib ∨ d.D k) w ((w1.setCell ⟨ib, 0, none⟩ (.slice (some ⟨g, 0, none⟩) (dead ++ r :: rest).length cap)).drewN 1) := ((Ho1.out.mono (fun k _ h => .inr h)).setCell (p := ⟨ib, 0, none⟩) (fun _ => .inl rfl) _).drewN 1
      have hcall := Ih.out _ _ hdrop (Hgl.out _ hodrop)
      rw [← HL.out] at hcall hodrop
      have Hcall := Lib.hid hcall
      have Hod := Lib.hid hodrop
      have l2 : (L : Int) ≤ (cap : Int) := by omega
      have l3 : L ≤ cap := by omega
      clear hdrop hcall hodrop
      go_still_tail 14, (by kernel_rfl)
      change wpList _ _ _ _ _ (World.drew _)
      go_wp2_with fail
      refine Hcall.out.mono ?_
      rintro e w2 hq
      have Hq := Lib.hid (StNextQ.pop (S := S) (d := d) hq (fun i hi => upd_other _ _ hi) Hod.out)
      obtain ⟨rfl, _⟩ := hq
      go_wp2
      rw [rounds_succ]
      go_wp2
      go_ret
      exact Hq.out
    · rw [hv] at htop
      have Hv := Lib.hid hv
      clear hv
      go_enter Tryz.func50, Tryz.ntmps50
      go_wp2
      go_quiet (fail)
      go_wp2_with fail
      have hdc : Calls Tryz.prog 244 #[.pointer (some ⟨tq, 0, none⟩)] (w.drewN nq) (DeadQ d (w.drewN nq)) := by
        rcases Hdead.out nq with ⟨tz', e, _⟩ | ⟨tz', e, h⟩
        · rw [Hv.out] at e; cases e
        · rw [Hv.out] at e; cases e; exact h
      refine hdc.mono ?_
      clear hdc
      rintro e w1 ⟨rfl, ho⟩
      have ho1 : Only d.D w w1 := ((Only.refl d.D w).drewN nq).trans ho (fun _ _ h => h)
      have hfd := H.out.rds d (by simp)
      have hne : ¬ d.D ib := fun e => typed_ne (Rd.foot hfd ib e).2 (H.out.blk.typed (P := (· = 73)) rfl) (fun T a b => rt_ne (.inl b) a) rfl
      have hb1 := H.out.blk.only ho1 hne
      have k0 : w1.cell? ⟨ib, 0, none⟩ = some (.slice (some ⟨g, 0, none⟩) (L + 1) cap) := hb1.cell_eq (i := 0) (by decide) (by rw [HS.out, ← HL.out])
      have kf := hb1.frozen 0
      have Ho1 := Lib.hid ho1
      clear ho ho1 hfd hne hb1 c0 htop
      go_wp2
      refine wp_loop_rounds 2 ?_
      rw [rounds_succ]
      go_wp2
      have hdrop := H.out.drop Ho1.out HS.out 1
      have hodrop : Only (fun k => k = ib ∨ d.D k) w ((w1.setCell ⟨ib, 0, none⟩ (.slice (some ⟨g, 0, none⟩) (dead ++ r :: rest).length cap)).drewN 1) := ((Ho1.out.mono (fun k _ h => .inr h)).setCell (p := ⟨ib, 0, none⟩) (fun _ => .inl rfl) _).drewN 1
      have hcall := Ih.out _ _ hdrop (Hgl.out _ hodrop)
      rw [← HL.out] at hcall hodrop
      have Hcall := Lib.hid hcall
      have Hod := Lib.hid hodrop
      have l2 : (L : Int) ≤ (cap : Int) := by omega
      have l3 : L ≤ cap := by omega
      clear hdrop hcall hodrop
      go_still_tail 14, (by kernel_rfl)
      change wpList _ _ _ _ _ (World.drew _)
      go_wp2_with fail
      refine Hcall.out.mono ?_
      rintro e w2 hq
      have Hq := Lib.hid (StNextQ.pop (S := S) (d := d) hq (fun i hi => upd_other _ _ hi) Hod.out)
      obtain ⟨rfl, _⟩ := hq
      go_wp2
      rw [rounds_succ]
      go_wp2
      go_ret
      exact Hq.out

set_option maxRecDepth 100000 in
set_option maxHeartbeats 4000000 in
theorem stEof {B ib : Nat} {r : RS} {tz : Nat} {ev : Value} (hB : 21 ≤ B) (hts : r.ts = []) (hvz : r.v = .iface 61 (.pointer (some ⟨tz, 0, none⟩))) :
    ∀ (dead : List RS) {w : World} {S : Nat → Value}, Stk w B ib S (dead ++ r :: []) → (∀ d ∈ dead, d.ts = []) → Glob w ev → (dead ++ r :: []).length < 1000 →
    Calls Tryz.prog 50 #[.pointer (some ⟨ib, 0, none⟩)] w (StEofQ B ib S dead r w)
  | [], w, S, h, _, hg, hl => stEof_head h hts hvz hg hB
  | d :: dead, w, S, h, hd, hg, hl => by
    have ih := fun (w : World) (S : Nat → Value) (hs : Stk w B ib S (dead ++ r :: [])) (hgl : Glob w ev) => stEof hB hts hvz dead (w := w) (S := S) hs (fun q hq => hd q (by simp [hq])) hgl (by simp at hl ⊢; omega)
    have Ih := Lib.hid ih
    have hlen : (dead ++ r :: []).length < 1000 := by simp at hl ⊢; omega
    have h1L : 1 ≤ (dead ++ r :: []).length := by simp <;> omega
    have h' : Stk w B ib S (d :: (dead ++ r :: [])) := h
    obtain ⟨g, cap, hS, hc1, hc2, htop⟩ := h'.top
    have c0 := h'.blk.cell_eq (i := 0) (by decide) hS
    have e1 : IntKind.i64.wrap ((dead ++ r :: []).length : Int) = ((dead ++ r :: []).length : Int) := IntWalk.i64_in _ (by omega)
    have e2 : ((dead ++ r :: []).length : Int) < ((dead ++ r :: []).length : Int) + 1 := by omega
    unfold maxLen at hc2
    have hrd : Rd w B d.v d.D d.bb d.cur d.ts := h'.rds d (by simp)
    rw [hd d (by simp)] at hrd
    clear hvz hts
    have hbnd : ∀ k, (k = ib ∨ d.D k) → B ≤ k := fun k hk => hk.elim (fun e => e ▸ h'.low) (fun e => (hrd.foot k e).1)
    have hgl : ∀ w1, Only (fun k => k = ib ∨ d.D k) w w1 → Glob w1 ev := fun w1 ho => hg.only ho (fun k hk e => by have := hbnd k e; omega)
    have hdead : ∀ m, (∃ tz, d.v = .iface 61 (.pointer (some ⟨tz, 0, none⟩)) ∧ Calls Tryz.prog 82 #[.pointer (some ⟨tz, 0, none⟩)] (w.drewN m) (DeadQ d (w.drewN m))) ∨
        (∃ tz, d.v = .iface 132 (.pointer (some ⟨tz, 0, none⟩)) ∧ Calls Tryz.prog 244 #[.pointer (some ⟨tz, 0, none⟩)] (w.drewN m) (DeadQ d (w.drewN m))) := by
      intro m
      have hrd := hrd.drewN m
      rcases hrd.kinds with ⟨tz, hv⟩ | ⟨tz, hv⟩
      · rw [hv] at hrd
        exact .inl ⟨tz, hv, (rdEof_tz hrd (hg.only ((Only.refl (fun _ => False) w).drewN m) (fun _ _ h => h)) hB).mono (fun e w' ⟨c, he, D', _, ho, _⟩ => ⟨he, ho⟩)⟩
      · rw [hv] at hrd
        exact .inr ⟨tz, hv, (rdEof_sl hrd).mono (fun e w' ⟨he, ho⟩ => ⟨he, ho⟩)⟩
    have H := Lib.hid h'
    have HS := Lib.hid hS
    have Hgl := Lib.hid hgl
    have Hdead := Lib.hid hdead
    have hkinds := hrd.kinds
    clear ih h h' hd hg hl hS hrd hbnd hgl hdead
    have Hc1 := Lib.hid hc1
    obtain ⟨L, hL⟩ : ∃ L, L = (dead ++ r :: []).length := ⟨_, rfl⟩
    rw [← hL] at c0 htop e1 e2 hc1 hlen h1L
    have HL := Lib.hid hL
    clear hL
    have l1 : (1 : Int) < (L : Int) + 1 := by omega
    rcases hkinds with ⟨tq, hv⟩ | ⟨tq, hv⟩
    · rw [hv] at htop
      have Hv := Lib.hid hv
      clear hv
      go_enter Tryz.func50, Tryz.ntmps50
      go_wp2
      go_quiet (fail)
      go_wp2_with fail
      have hdc : Calls Tryz.prog 82 #[.pointer (some ⟨tq, 0, none⟩)] (w.drewN nq) (DeadQ d (w.drewN nq)) := by
        rcases Hdead.out nq with ⟨tz', e, h⟩ | ⟨tz', e, _⟩
        · rw [Hv.out] at e; cases e; exact h
        · rw [Hv.out] at e; cases e
      refine hdc.mono ?_
      clear hdc
      rintro e w1 ⟨rfl, ho⟩
      have ho1 : Only d.D w w1 := ((Only.refl d.D w).drewN nq).trans ho (fun _ _ h => h)
      have hfd := H.out.rds d (by simp)
      have hne : ¬ d.D ib := fun e => typed_ne (Rd.foot hfd ib e).2 (H.out.blk.typed (P := (· = 73)) rfl) (fun T a b => rt_ne (.inl b) a) rfl
      have hb1 := H.out.blk.only ho1 hne
      have k0 : w1.cell? ⟨ib, 0, none⟩ = some (.slice (some ⟨g, 0, none⟩) (L + 1) cap) := hb1.cell_eq (i := 0) (by decide) (by rw [HS.out, ← HL.out])
      have kf := hb1.frozen 0
      have Ho1 := Lib.hid ho1
      clear ho ho1 hfd hne hb1 c0 htop
      go_wp2
      refine wp_loop_rounds 2 ?_
      rw [rounds_succ]
      go_wp2
      have hdrop := H.out.drop Ho1.out HS.out 1
      have hodrop : Only (fun k => k = ib ∨ d.D k) w ((w1.setCell ⟨ib, 0, none⟩ (.slice (some ⟨g, 0, none⟩) (dead ++ r :: []).length cap)).drewN 1) := ((Ho1.out.mono (fun k _ h => .inr h)).setCell (p := ⟨ib, 0, none⟩) (fun _ => .inl rfl) _).drewN 1
      have hcall := Ih.out _ _ hdrop (Hgl.out _ hodrop)
      rw [← HL.out] at hcall hodrop
      have Hcall := Lib.hid hcall
      have Hod := Lib.hid hodrop
      have l2 : (L : Int) ≤ (cap : Int) := by omega
      have l3 : L ≤ cap := by omega
      clear hdrop hcall hodrop
      go_still_tail 14, (by kernel_rfl)
      change wpList _ _ _ _ _ (World.drew _)
      go_wp2_with fail
      refine Hcall.out.mono ?_
      rintro e w2 hq
      have Hq := Lib.hid (StEofQ.pop (S := S) (d := d) hq (fun i hi => upd_other _ _ hi) Hod.out)
      obtain ⟨rfl, S', D', c, hst, _⟩ := hq
      obtain ⟨g', cap', hS', _, _, _⟩ := hst.top
      have k0' : w2.cell? ⟨ib, 0, none⟩ = some (.slice (some ⟨g', 0, none⟩) 1 cap') := hst.blk.cell_eq (i := 0) (by decide) hS'
      clear hst hS' k0 kf
      go_wp2
      rw [rounds_succ]
      go_wp2
      go_ret
      exact Hq.out
    · rw [hv] at htop
      have Hv := Lib.hid hv
      clear hv
      go_enter Tryz.func50, Tryz.ntmps50
      go_wp2
      go_quiet (fail)
      go_wp2_with fail
      have hdc : Calls Tryz.prog 244 #[.pointer (some ⟨tq, 0, none⟩)] (w.drewN nq) (DeadQ d (w.drewN nq)) := by
        rcases Hdead.out nq with ⟨tz', e, _⟩ | ⟨tz', e, h⟩
        · rw [Hv.out] at e; cases e
        · rw [Hv.out] at e; cases e; exact h
      refine hdc.mono ?_
      clear hdc
      rintro e w1 ⟨rfl, ho⟩
      have ho1 : Only d.D w w1 := ((Only.refl d.D w).drewN nq).trans ho (fun _ _ h => h)
      have hfd := H.out.rds d (by simp)
      have hne : ¬ d.D ib := fun e => typed_ne (Rd.foot hfd ib e).2 (H.out.blk.typed (P := (· = 73)) rfl) (fun T a b => rt_ne (.inl b) a) rfl
      have hb1 := H.out.blk.only ho1 hne
      have k0 : w1.cell? ⟨ib, 0, none⟩ = some (.slice (some ⟨g, 0, none⟩) (L + 1) cap) := hb1.cell_eq (i := 0) (by decide) (by rw [HS.out, ← HL.out])
      have kf := hb1.frozen 0
      have Ho1 := Lib.hid ho1
      clear ho ho1 hfd hne hb1 c0 htop
      go_wp2
      refine wp_loop_rounds 2 ?_
      rw [rounds_succ]
      go_wp2
      have hdrop := H.out.drop Ho1.out HS.out 1
      have hodrop : Only (fun k => k = ib ∨ d.D k) w ((w1.setCell ⟨ib, 0, none⟩ (.slice (some ⟨g, 0, none⟩) (dead ++ r :: []).length cap)).drewN 1) := ((Ho1.out.mono (fun k _ h => .inr h)).setCell (p := ⟨ib, 0, none⟩) (fun _ => .inl rfl) _).drewN 1
      have hcall := Ih.out _ _ hdrop (Hgl.out _ hodrop)
      rw [← HL.out] at hcall hodrop
      have Hcall := Lib.hid hcall
      have Hod := Lib.hid hodrop
      have l2 : (L : Int) ≤ (cap : Int) := by omega
      have l3 : L ≤ cap := by omega
      clear hdrop hcall hodrop
      go_still_tail 14, (by kernel_rfl)
      change wpList _ _ _ _ _ (World.drew _)
      go_wp2_with fail
      refine Hcall.out.mono ?_
      rintro e w2 hq
      have Hq := Lib.hid (StEofQ.pop (S := S) (d := d) hq (fun i hi => upd_other _ _ hi) Hod.out)
      obtain ⟨rfl, S', D', c, hst, _⟩ := hq
      obtain ⟨g', cap', hS', _, _, _⟩ := hst.top
      have k0' : w2.cell? ⟨ib, 0, none⟩ = some (.slice (some ⟨g', 0, none⟩) 1 cap') := hst.blk.cell_eq (i := 0) (by decide) hS'
      clear hst hS' k0 kf
      go_wp2
      rw [rounds_succ]
      go_wp2
      go_ret
      exact Hq.out
/-- An element, read as itself. -/
def RH (v : Value) : Option (DataW Value × List MemPlace) := some (.held v, [])

/-- Block b is a map of at most n entries that holds f. -/
def SMap (w : World) (b n : Nat) (f : Bs → Option Value) : Prop :=
  ∃ D : DataW Value, w.ownsMap Tryz.prog 9 RH b n D ∧ (∀ x z, D.atKey (.string x) (.held z) = .held ((f x).getD z)) ∧ ∀ x, Maps.has D (.string x) = (f x).isSome

theorem key_string (x : Bs) (hx : x.length ≤ 1000000) : keyOf Tryz.prog 9 (.string (mkS x)) = some (.string x) :=
  Go.WideMaps.keyOf_string_mk Tryz.underlying9 (by unfold maxLen; rw [mkS_size]; omega)

theorem SMap.new (w : World) : SMap (w.alloc (.map #[] 0)) w.heap.size 0 (fun _ => none) :=
  ⟨.map [], World.ownsMap_made w _ _ _, fun _ _ => rfl, fun _ => rfl⟩

section
variable {w : World} {b n : Nat} {f : Bs → Option Value}

theorem SMap.lt (h : SMap w b n f) : b < w.heap.size := by obtain ⟨D, h, _⟩ := h; exact h.lt
theorem SMap.of_heap {w' : World} (h : SMap w b n f) (e : w'.heap[b]? = w.heap[b]?) : SMap w' b n f := by
  obtain ⟨D, ⟨es, clock, hb, h1⟩, h2⟩ := h
  exact ⟨D, ⟨es, clock, e.trans hb, h1⟩, h2⟩

/-- A map's block is none of cells. -/
theorem SMap.not_typed (h : SMap w b n f) {P : TypeId → Prop} : ¬ Typed w b P := by
  obtain ⟨D, ⟨es, clock, hb, _⟩, _⟩ := h
  rintro ⟨c, T, hc, _⟩
  rw [hb] at hc
  cases hc
theorem SMap.only {w' : World} {E : Nat → Prop} {P : TypeId → Prop} (h : SMap w b n f) (ho : Only E w w') (he : ∀ k, E k → k < w.heap.size → Typed w k P) : SMap w' b n f :=
  h.of_heap (ho.block b h.lt (fun hk => h.not_typed (he b hk h.lt)))

theorem SMap.look (h : SMap w b n f) {t e : TypeId} (ht : Tryz.prog.underlying t = some (.map 9 e)) {z : Value} (hz : ∀ w : World, (zeroValue e).run Tryz.prog w = .ok z w) (x : Bs) (hx : x.length ≤ 1000000) :
    (Instr.lookup t (.map (some b)) (.string (mkS x)) false).run Tryz.prog w = .ok ((f x).getD z) w := by
  obtain ⟨D, h, hat, hhas⟩ := h
  obtain ⟨v, ps, hr, hv⟩ := h.lookup (Maps.string_keyed Tryz.underlying9) ht (hz w) (zd := .held z) (zp := []) rfl (key_string x hx)
  rw [hat] at hv
  simp only [RH, Option.some.injEq, Prod.mk.injEq, DataW.held.injEq] at hv
  rw [hr, hv.1]

theorem SMap.look_ok (h : SMap w b n f) {t e : TypeId} (ht : Tryz.prog.underlying t = some (.map 9 e)) {z : Value} (hz : ∀ w : World, (zeroValue e).run Tryz.prog w = .ok z w) (x : Bs) (hx : x.length ≤ 1000000) :
    (Instr.lookup t (.map (some b)) (.string (mkS x)) true).run Tryz.prog w = .ok (.tuple #[(f x).getD z, .bool (f x).isSome]) w := by
  obtain ⟨D, h, hat, hhas⟩ := h
  obtain ⟨v, ps, hr, hv⟩ := h.look_ok (Maps.string_keyed Tryz.underlying9) ht (hz w) (zd := .held z) (zp := []) rfl (key_string x hx)
  rw [hat] at hv
  simp only [RH, Option.some.injEq, Prod.mk.injEq, DataW.held.injEq] at hv
  rw [hr, hv.1, hhas]

theorem SMap.update (h : SMap w b n f) {t e : TypeId} (ht : Tryz.prog.underlying t = some (.map 9 e)) (hn : n < 1000000) (x : Bs) (hx : x.length ≤ 1000000) (v : Value) :
    ∃ w', (Instr.mapUpdate t (.map (some b)) (.string (mkS x)) v).run Tryz.prog w = .ok () w' ∧ SMap w' b (n + 1) (fun y => if y = x then some v else f y) ∧ Only (fun k => k = b) w w' := by
  obtain ⟨D, h, hat, hhas⟩ := h
  have hD := h.isMap
  obtain ⟨w', hr, h', hg⟩ := h.update (Maps.string_keyed Tryz.underlying9) ht (by unfold maxLen; omega) (key_string x hx) (val := v) (d := .held v) (ps := []) rfl
  refine ⟨w', hr, ⟨_, h', fun y z => ?_, fun y => ?_⟩, (Only.refl _ w).grown hg (fun k hk _ => by cases hk; rfl)⟩
  · by_cases e : y = x
    · subst e
      rw [Maps.atKey_put_same hD (by trivial)]
      simp
    · rw [Maps.atKey_put_other (by intro e'; injection e' with e''; exact e e''), hat]
      simp [e]
  · by_cases e : y = x
    · subst e
      rw [Maps.has_put_same hD (by trivial)]
      simp
    · rw [Maps.has_put_other (by intro e'; injection e' with e''; exact e e''), hhas]
      simp [e]

theorem SMap.drop (h : SMap w b n f) {t e : TypeId} (ht : Tryz.prog.underlying t = some (.map 9 e)) (x : Bs) (hx : x.length ≤ 1000000) (ty : TypeId) :
    ∃ w', (Builtin.delete_ #[t, 9] ty #[.map (some b), .string (mkS x)]).run Tryz.prog w = .ok (.tuple #[]) w' ∧ SMap w' b n (fun y => if y = x then none else f y) ∧ Only (fun k => k = b) w w' := by
  obtain ⟨D, h, hat, hhas⟩ := h
  obtain ⟨w', hr, h', hg⟩ := h.drop (Maps.string_keyed Tryz.underlying9) ht (key_string x hx) ty
  refine ⟨w', hr, ⟨_, h', fun y z => ?_, fun y => ?_⟩, (Only.refl _ w).grown hg.grown (fun k hk _ => by cases hk; rfl)⟩
  · by_cases e : y = x
    · subst e
      rw [Maps.atKey_del_same]
      simp
    · rw [Maps.atKey_del_other (by intro e'; injection e' with e''; exact e e''), hat]
      simp [e]
  · by_cases e : y = x
    · subst e
      rw [Maps.has_del_same]
      simp
    · rw [Maps.has_del_other (by intro e'; injection e' with e''; exact e e''), hhas]
      simp [e]
end
end Go.Proofs.YtpoimmpdncickaaGreatDoor
