/- The scanner takes one character more: next, where the buffer is filled again. -/
import Derived.Test.YtpoimmpdncickaaGreatDoorJ2
import Derived.StillTailTactics
import Derived.Deep.LoopGhost
import Derived.Deep.DeepCutAuto
import Derived.Deep.RegionHeld3
import Derived.LaidEql
/- next where the buffer is used up: it is filled anew, or the text is at its end. -/
namespace Go.Proofs.YtpoimmpdncickaaGreatDoor
open Go Go.RowKit Lex
set_option linter.unusedVariables false
set_option linter.unusedSimpArgs false

/-- In the loop: k = 2: nothing is there; k = 1: the buffer has been filled. -/
def LoopR (B sb rb : Nat) (rv : Value) (tk : Option Nat) (ch : Int) (r : Bs) (col : Nat) (x : Option Bs) (w : World) (k : Nat) (wr : World) : Prop :=
  ∃ tk1 N1, SM wr B sb rb rv tk1 N1 ∧ RelP N1 r col x ∧ N1.ch = ch ∧ TkTo w tk tk1 ∧ Only (fun k => k = sb ∨ k = rb ∨ tk = some k) w wr ∧
    ((k = 2 ∧ N1.p = N1.fin) ∨ (k = 1 ∧ N1.p = 0 ∧ 0 < N1.fin ∧ (N1.fin < 4 → N1.rest = [])))

/-- Behind it: the next character is there. -/
def MeetR (B sb rb : Nat) (rv : Value) (tk : Option Nat) (ch : Int) (r : Bs) (col : Nat) (x : Option Bs) (w : World) (v3 v4 : Value) (wr : World) : Prop :=
  ∃ tk1 N1 c t, SM wr B sb rb rv tk1 N1 ∧ RelP N1 r col x ∧ N1.ch = ch ∧ TkTo w tk tk1 ∧ Only (fun k => k = sb ∨ k = rb ∨ tk = some k) w wr ∧ N1.p < N1.fin ∧ r = c :: t ∧ v3 = .int .i32 c.toNat ∧ v4 = .int .i64 1

set_option maxRecDepth 100000 in
theorem full_zero (ao : Option Addr) (c : Nat) (w : World) : Calls Tryz.prog 145 #[.slice ao 0 c] w fun e w' => e = .returned (.bool false) ∧ w' = w := by
  go_enter Tryz.func145, Tryz.ntmps145
  go_wp2
  go_ret
  exact ⟨rfl, rfl⟩

theorem TkTo.step {w w1 : World} {tk tk1 tk2 : Option Nat} (h : TkTo w tk tk1) (hs : w.heap.size ≤ w1.heap.size) (h2 : tk2 = tk1 ∨ tk1 = none ∧ ∃ k, tk2 = some k ∧ w1.heap.size ≤ k) : TkTo w tk tk2 := by
  rcases h2 with rfl | ⟨h1, k, hk, hle⟩
  · exact h
  · rcases h with rfl | ⟨h0, k', hk', hle'⟩
    · exact .inr ⟨h1, k, hk, by omega⟩
    · rw [h1] at hk'; cases hk'

/-- The frames of two steps, one behind the other. -/
theorem TkTo.only {w w1 w2 : World} {sb rb : Nat} {tk tk1 : Option Nat} {D : Nat → Prop} (h : TkTo w tk tk1) (ho : Only (fun k => k = sb ∨ k = rb ∨ tk = some k) w w1) (ho2 : Only D w1 w2) (hD : ∀ k, D k → k = sb ∨ k = rb ∨ tk1 = some k) :
    Only (fun k => k = sb ∨ k = rb ∨ tk = some k) w w2 :=
  ho.trans ho2 fun k hk hd => by
    rcases hD k hd with e | e | e
    · exact .inl e
    · exact .inr (.inl e)
    · rcases h with rfl | ⟨_, k', e', hle⟩
      · exact .inr (.inr e)
      · rw [e] at e'; cases e'; omega

/-- What lies in the source buffer from t on, written to the token buffer. -/
def SmWrite (B sb rb : Nat) (rv : Value) (tk : Option Nat) (N : Nums) (y : Bs) (w : World) (e : Ending) (w' : World) : Prop :=
  e = .returned (.tuple #[.int .i64 y.length, .nilIface]) ∧ ∃ tk', SM w' B sb rb rv tk' { N with y := N.y ++ y } ∧ (tk' = tk ∨ tk = none ∧ ∃ k, tk' = some k ∧ w.heap.size ≤ k) ∧ Only (fun k => k = sb ∨ tk = some k) w w'

theorem sm_write {B sb rb : Nat} {rv : Value} {tk : Option Nat} {N : Nums} {w : World} (h : SM w B sb rb rv tk N) (t n c : Nat) (ht : t + n ≤ 1025) (hle : N.y.length + n ≤ 64) :
    Calls Tryz.prog 128 #[.pointer (some ⟨sb, 1033, none⟩), .slice (some ⟨sb, 1 + t, none⟩) n c] w (SmWrite B sb rb rv tk N (seg N.buf t n) w) := by
  have hB : B ≤ w.heap.size := Nat.le_trans h.low (Nat.le_of_lt h.lt)
  obtain ⟨S, hS⟩ := h
  have hl : (seg N.buf t n).length = n := seg_len _ _ _
  have := write_any sb B tk S w hS.blk hB N.y (seg N.buf t n) hS.tb ⟨sb, 1 + t, none⟩ c (fun j v hj => by
    have hjl := (List.getElem?_eq_some_iff.1 hj).1
    rw [length_cells, hl] at hjl
    rw [cells_get _ (by rw [hl]; exact hjl), seg_get] at hj
    rw [Addr.add_lit, ← Option.some.inj hj]
    exact hS.blk.cell_eq (by omega) (by rw [Nat.add_assoc]; exact hS.sbuf _ (by omega))) (.inr (by rw [hl]; show 1 + t + n ≤ 1033; omega)) (by rw [hl]; exact hle)
  rw [hl] at this
  refine this.mono ?_
  rintro e w' ⟨rfl, hw⟩
  exact ⟨by rw [hl], hS.wrote hw⟩

def midY (N : Nums) : Option Bs → Bs | none => N.y | some x => x
def midT (N : Nums) : Option Bs → Int | none => N.tp | some _ => 0
theorem rel_refill2 {N : Nums} {r : Bs} {col : Nat} {x : Option Bs} (h : RelP N r col x) (hp : N.p = N.fin) (off : Int) : RelP (refilled N (midY N x) (midT N x) off) r col x := by
  cases x <;> exact rel_refill h hp off

/-- Behind the first piece of a round: what had been collected lies in the token buffer. -/
def MidR (B sb rb : Nat) (rv : Value) (tk : Option Nat) (N1 : Nums) (x : Option Bs) (w wr : World) : Prop :=
  ∃ tk2, SM wr B sb rb rv tk2 { N1 with y := midY N1 x, tp := midT N1 x } ∧ TkTo w tk tk2 ∧ Only (fun k => k = sb ∨ k = rb ∨ tk = some k) w wr

/-- A read into the source buffer, some bytes or the end. -/
def SmGot (B sb rb : Nat) (rv : Value) (tk : Option Nat) (N : Nums) (ev : Value) (w : World) (n : Nat) (er : Value) (w' : World) : Prop :=
  n = Nat.min N.rest.length 1024 ∧ (N.rest = [] ∧ er = ev ∨ N.rest ≠ [] ∧ er = .nilIface) ∧
  SM w' B sb rb rv tk { N with buf := over N.buf 0 (N.rest.take (Nat.min N.rest.length 1024)), rest := N.rest.drop (Nat.min N.rest.length 1024) } ∧ Only (fun k => k = sb ∨ k = rb) w w'
def SmRead (B sb rb : Nat) (rv : Value) (tk : Option Nat) (N : Nums) (ev : Value) (w : World) (e : Ending) (w' : World) : Prop :=
  ∃ n er, e = .returned (.tuple #[.int .i64 (n : Nat), er]) ∧ SmGot B sb rb rv tk N ev w n er w'

theorem SM.nothing {B sb rb : Nat} {rv : Value} {tk : Option Nat} {N : Nums} {w : World} (h : SM w B sb rb rv tk N) (h0 : N.rest = []) : SM w B sb rb rv tk { N with buf := over N.buf 0 (N.rest.take (Nat.min N.rest.length 1024)), rest := N.rest.drop (Nat.min N.rest.length 1024) } := by
  have e : over N.buf 0 [] = N.buf := by funext j; unfold over; rw [if_neg (by simp)]
  rw [h0]
  simp only [List.length_nil, List.take_nil, List.drop_nil, e]
  rw [← h0]
  exact h

theorem sm_read_reader {B sb rb : Nat} {rv : Value} {tk : Option Nat} {N : Nums} {w : World} {ev : Value} (h : SM w B sb rb rv tk N) (hg : Glob w ev) (hrv : rv = .iface 63 (.pointer (some ⟨rb, 0, none⟩))) :
    Calls Tryz.prog 228 #[.pointer (some ⟨rb, 0, none⟩), .slice (some ⟨sb, 1, none⟩) 1024 1025] w (SmRead B sb rb rv tk N ev w) := by
  subst hrv
  have h' := h
  obtain ⟨S, hS⟩ := h'
  by_cases h0 : N.rest = []
  · have hr := hS.rdr
    rw [h0] at hr
    refine (read_none_reader B rb _ w hr ev hg.eof).mono ?_
    rintro e w' ⟨rfl, m, rfl⟩
    exact ⟨0, ev, rfl, by rw [h0]; rfl, .inl ⟨h0, rfl⟩, (h.nothing h0).drewN m, (Only.refl _ w).drewN m⟩
  · refine (read_some_reader B rb sb 1 1024 1025 N.rest w hS.rdr h0 (by decide) h.ne_rb (fun j hj => ?_) (fun j hj => h.frozen _)).mono ?_
    · rw [hS.blk.cell (by omega)]; rfl
    · rintro e w' ⟨rfl, h1, h2, h3⟩
      exact ⟨_, _, rfl, rfl, .inr ⟨h0, rfl⟩, h.read h1 (by simpa using h2) h3 (by decide), h3⟩

theorem sm_none_reader {B sb rb : Nat} {rv : Value} {tk : Option Nat} {N : Nums} {w : World} {ev : Value} (h : SM w B sb rb rv tk N) (hg : Glob w ev) (hrv : rv = .iface 63 (.pointer (some ⟨rb, 0, none⟩))) (h0 : N.rest = []) (bv : Value) :
    Calls Tryz.prog 228 #[.pointer (some ⟨rb, 0, none⟩), bv] w (ReadNone ev w) := by
  subst hrv
  obtain ⟨S, hS⟩ := h
  have hr := hS.rdr
  rw [h0] at hr
  exact read_none_reader B rb _ w hr ev hg.eof

theorem SM.rdrs {B sb rb : Nat} {rv : Value} {tk : Option Nat} {N : Nums} {w : World} (h : SM w B sb rb rv tk N) : rv = .iface 15 (.pointer (some ⟨rb, 0, none⟩)) ∨ rv = .iface 63 (.pointer (some ⟨rb, 0, none⟩)) := by
  obtain ⟨S, hS⟩ := h
  obtain ⟨_, ⟨e, _⟩ | ⟨e, _⟩⟩ := hS.rdr
  · exact .inl e
  · exact .inr e

theorem SM.no_src {B sb rb : Nat} {rv : Value} {tk : Option Nat} {N : Nums} {w : World} (h : SM w B sb rb rv tk N) (hv : rv = .iface 15 (.pointer (some ⟨rb, 0, none⟩))) : False := by
  obtain ⟨S, hS⟩ := h
  obtain ⟨_, ⟨_, _, _, _, _, _, _, _, hf⟩ | ⟨e, _⟩⟩ := hS.rdr
  · exact hf
  · rw [hv] at e; injection e with e; exact absurd e (by decide)

theorem eof_same (ea : Addr) (u : World) : (binOp BinOp.neq 142 (.iface 236 (.pointer (some ea))) (.iface 236 (.pointer (some ea)))).run Tryz.prog u = .ok (.bool false) u := by
  have h1 : (Tryz.prog.info? 236).map (·.comparable) = some true := by kernel_rfl
  have h2 : (Tryz.prog.info? 238).isSome = true := by kernel_rfl
  cases hi : Tryz.prog.info? 236 with
  | none => rw [hi] at h1; cases h1
  | some i =>
    cases hj : Tryz.prog.info? 238 with
    | none => rw [hj] at h2; cases h2
    | some j =>
      rw [hi] at h1
      have hc : i.comparable = true := by simpa using h1
      simp only [binOp]
      simp [Op.equal, Op.maxDepth, run_equalIn_iface_ptr_same u 9998 ea Tryz.underlying142 Tryz.underlying236 hi hc hj]

theorem next_end_eof {B sb rb : Nat} {rv : Value} {tk tk2 : Option Nat} {N : Nums} {ch : Int} {col : Nat} {x : Option Bs} {w wj : World} (h : SM wj B sb rb rv tk2 N) (hr : RelP N [] col x) (hf : N.fin = 0) (hch : N.ch = ch) (htk : TkTo w tk tk2)
    (ho : Only (fun k => k = sb ∨ k = rb ∨ tk = some k) w wj) :
    NextP B sb rb rv tk ch [] col x w (.returned (.int .i32 (-1))) ((wj.setCell ⟨sb, 1030, none⟩ (.int .i64 ((N.cc : Int) + 1))).setCell ⟨sb, 1032, none⟩ (.int .i64 0)) ∧
    NextP B sb rb rv tk ch [] col x w (.returned (.int .i32 (-1))) (wj.setCell ⟨sb, 1032, none⟩ (.int .i64 0)) := by
  have hp : N.p = 0 := by have := hr.ple; omega
  have e1 : ({ N with p := 0 } : Nums) = N := by cases N; simp only at hp; subst hp; rfl
  rw [← e1] at h
  exact ⟨⟨rfl, tk2, _, (h.set1030 (N.cc + 1)).set1032 0, adv_eof hr hf (N.cc + 1) (Nat.le_refl _), hch, htk, (ho.setCell (p := ⟨sb, 1030, none⟩) (fun _ => .inl rfl) _).setCell (p := ⟨sb, 1032, none⟩) (fun _ => .inl rfl) _⟩,
    ⟨rfl, tk2, _, h.set1032 0, adv_eof hr hf N.cc (Nat.le_succ _), hch, htk, ho.setCell (p := ⟨sb, 1032, none⟩) (fun _ => .inl rfl) _⟩⟩

/-- Behind the Read: what it has given, and its error. -/
def ReadR (B sb rb : Nat) (rv : Value) (tk2 : Option Nat) (N2 : Nums) (ev : Value) (wf : World) (v6 v7 : Value) (wg : World) : Prop :=
  ∃ (n : Nat) (er : Value), v6 = .int .i64 n ∧ v7 = er ∧ Hid (SmGot B sb rb rv tk2 N2 ev (wf.drewN 1) n er wg)

theorem rel_keep {N : Nums} {r : Bs} {col : Nat} {x : Option Bs} (h : RelP N r col x) (hp : N.p = 0) (off : Int) :
    RelP (Nums.mk 0 N.fin off N.line N.cc N.ll N.lc (midT N x) N.te N.ch N.errs N.p45 N.p46 N.p47 N.nm (setb N.buf N.fin 128) N.rest (midY N x)) r col x := by
  have hu := h.unread
  rw [hp, Nat.sub_zero] at hu
  refine { ple := Nat.zero_le _, fle := h.fle, sent := by simp [setb], lll := h.lll, asc := h.asc, clen := h.clen, unread := ?_, cc := h.cc, tok := ?_ }
  · show seg (setb N.buf N.fin 128) 0 (N.fin - 0) ++ N.rest = r
    rw [Nat.sub_zero, seg_congr (buf' := N.buf) (fun i _ hi => by unfold setb; rw [if_neg (by omega)])]
    exact hu
  · cases x with
    | none => exact h.tok
    | some x =>
      refine ⟨0, rfl, Nat.le_refl _, ?_⟩
      show x ++ seg _ 0 (0 - 0) = x
      simp [seg_zero]

theorem seg_zero' (y : Bs) (buf : Nat → UInt8) (a : Nat) : y ++ seg buf a (0 - 0) = y := by simp [seg_zero]
theorem rel_head {N : Nums} {r : Bs} {col : Nat} {x : Option Bs} (hr : RelP N r col x) (hp : N.p < N.fin) : ∃ c t, r = c :: t ∧ N.buf N.p = c ∧ c.toNat < 128 := by
  have hu := hr.unread
  obtain ⟨k, hk⟩ : ∃ k, N.fin - N.p = k + 1 := ⟨N.fin - N.p - 1, by omega⟩
  rw [hk, seg_cons] at hu
  refine ⟨N.buf N.p, _, hu.symm, rfl, ?_⟩
  have := hr.asc (N.buf N.p) (by rw [← hu]; simp)
  simpa [UInt8.lt_iff_toNat_lt] using this

theorem seg_ascii {buf : Nat → UInt8} {n : Nat} {rest r : Bs} (h : seg buf 0 n ++ rest = r) (ha : ascii r) : ∀ c ∈ seg buf 0 n, c < 128 := fun c hc => ha c (by rw [← h]; exact List.mem_append_left _ hc)
theorem seg_cells {B sb rb : Nat} {rv : Value} {tk : Option Nat} {N : Nums} {w : World} (h : SM w B sb rb rv tk N) {n : Nat} (hn : n ≤ 1025) : ∀ j (hj : j < (seg N.buf 0 n).length), w.cell? ⟨sb, 1 + j, none⟩ = some (.int .u8 ((seg N.buf 0 n)[j].toNat)) := fun j hj => by
  rw [seg_get, Nat.zero_add]
  exact h.cbuf (by rw [seg_len] at hj; omega)

set_option maxRecDepth 100000 in
set_option maxHeartbeats 4000000 in
theorem next_refill {B sb rb : Nat} {rv : Value} {tk : Option Nat} {N : Nums} {r : Bs} {col : Nat} {x : Option Bs} {w : World} {ev : Value}
    (hg : Glob w ev) (hB : 21 ≤ B) (hBw : B ≤ w.heap.size) (h : SM w B sb rb rv tk N) (hr : RelP N r col x) (hp : N.p = N.fin) (hx : ∀ y, x = some y → y.length ≤ 64) :
    Calls Tryz.prog 117 #[.pointer (some ⟨sb, 0, none⟩)] w (NextP B sb rb rv tk N.ch r col x w) := by
  have hle := hr.fle
  have h26 := h.c1026
  have hb := h.cbuf (i := N.p) (by omega)
  rw [hp, hr.sent] at hb
  rw [hp] at h26
  have hlow : ∀ k, (k = sb ∨ k = rb ∨ tk = some k) → B ≤ k := fun k hk => hk.elim (fun e => e ▸ h.low) (fun e => e.elim (fun e => e ▸ h.rlow) (fun e => h.tlow k e))
  have hgl : ∀ w' : World, Only (fun k => k = sb ∨ k = rb ∨ tk = some k) w w' → Glob w' ev := fun w' ho => hg.only ho (fun k hk hd => by have := hlow k hd; omega)
  have Hg := Lib.hid hgl
  have H := Lib.hid h
  have Hr := Lib.hid hr
  clear hlow hgl
  have Hp := Lib.hid hp
  have Hx := Lib.hid hx
  clear hg h hr hp hx
  simp at hb
  go_enter Tryz.func117, Tryz.ntmps117
  go_wp2
  go_quiet (fail)
  go_upto_if 19 with (fail)
  go_cut [3, 4] (fun v3 v4 wc => MeetR B sb rb rv tk N.ch r col x w v3 v4 wc)
  case first => as_aux_lemma =>
    go_wp2
    --{
    go_loopg [5] 2 (fun k v5 wr => LoopR B sb rb rv tk N.ch r col x w k wr)
    case atStart => exact ⟨tk, N, H.out.drewN nq, Hr.out, rfl, .inl rfl, (Only.refl _ w).drewN nq, .inl ⟨rfl, Hp.out⟩⟩
    case round =>
      clear H Hr Hp h26 hb
      obtain ⟨tk1, N1, h1, hr1, hch, htk, ho, ⟨rfl, hp1⟩ | ⟨rfl, hp1, hf1, hf4⟩⟩ := hrel
      · as_aux_lemma =>
        have k26 := h1.c1026
        have k27 := h1.c1027
        have k36 := h1.c1036
        have hle1 := hr1.fle
        rw [hp1] at k26
        have H1 := Lib.hid h1
        have Hr1 := Lib.hid hr1
        have Hp1 := Lib.hid hp1
        have Htk := Lib.hid htk
        have Ho := Lib.hid ho
        have Hch := Lib.hid hch
        clear h1 hr1 hp1 htk ho hch
        have e4 : IntKind.i64.wrap ((N1.fin : Int) + 4) = (N1.fin : Int) + 4 := IntWalk.i64_in _ (by omega)
        have d4 : decide ((N1.fin : Int) < (N1.fin : Int) + 4) = true := by simp; omega
        have l1 : (N1.fin : Int) ≤ 1025 := by omega
        have l2 : N1.fin ≤ 1025 := by omega
        have l3 : ¬ 1025 = N1.fin := by omega
        have l4 : ¬ (1025 : Int) = (N1.fin : Int) := by omega
        go_wp2_with fail
        go_quiet ((go_at_call 145; exact Calls.quiet_of_same (full_zero _ _ _)))
        go_upto_if 50 with (fail)
        go_cut [] (fun wc => MidR B sb rb rv tk N1 x w wc)
        case first => as_aux_lemma =>
          have Hr1' := Hr1.out
          cases x with
          | none =>
            have ht := Hr1'.tok
            simp only at ht
            have ht' : N1.tp < 0 := by omega
            clear ht
            go_wp2_with fail
            go_meet
            exact ⟨tk1, H1.out.drewN _, Htk.out, Ho.out.drewN _⟩
          | some x =>
            obtain ⟨t, ht1, ht2, ht3⟩ := Hr1'.tok
            rw [ht1] at k36
            rw [Hp1.out] at ht2 ht3
            have m1 : t ≤ 1025 := by omega
            have m2 : (t : Int) ≤ (N1.fin : Int) := by omega
            have m3 : ¬ 1025 = t := by omega
            have m4 : 0 ≤ N1.tp := by omega
            have T1 := Lib.hid ht1
            have T3 := Lib.hid ht3
            clear ht1 ht3 Hr1'
            go_wp2_with fail
            have H2 := H1.out.drewN nq
            have Ho2 := Ho.out.drewN nq
            generalize wr.drewN nq = wn at H2 Ho2 ⊢
            have k26 := H2.c1026
            rw [Hp1.out] at k26
            have k36 := H2.c1036
            rw [T1.out] at k36
            have H := Lib.hid H2
            have Ho := Lib.hid Ho2
            clear H2 Ho2 H1
            go_still_tail 15, (by kernel_rfl)
            change wpList _ _ _ _ _ (World.drew _)
            have hD := H.out.drewN 1
            have hoD := Ho.out.drewN 1
            have hwD : wn.drew = wn.drewN 1 := rfl
            rw [hwD]
            generalize wn.drewN 1 = wd at hD hoD ⊢
            clear H Ho hwD
            have hl63 : N1.y.length + (N1.fin - t) ≤ 64 := by
              have := Hx.out x rfl
              rw [← T3.out, List.length_append, seg_len] at this
              omega
            have HD := Lib.hid hD
            have HoD := Lib.hid hoD
            clear hD hoD k26 k36
            go_wp2_with fail
            refine (sm_write HD.out t (N1.fin - t) (1025 - t) (by omega) hl63).mono ?_
            rintro e w1 ⟨rfl, tk2, hw2, htk2, ho2⟩
            have HW := Lib.hid hw2
            have HO := Lib.hid (Htk.out.only HoD.out ho2 (fun k hk => hk.elim .inl (fun e => .inr (.inr e))))
            have HT := Lib.hid (Htk.out.step HoD.out.size htk2)
            clear hw2 ho2 htk2
            have k36 := HW.out.c1036
            have f36 := HW.out.frozen 1036
            go_wp2
            go_meet
            refine ⟨tk2, ?_, HT.out, HO.out.setCell (p := ⟨sb, 1036, none⟩) (fun _ => .inl rfl) _⟩
            have := HW.out.set1036 0
            rw [T3.out] at this
            exact this
        case rest => as_aux_lemma =>
          obtain ⟨tk2, h2, htk2, ho2⟩ := hcut
          obtain ⟨N2, hN2⟩ : ∃ N2, N2 = ({ N1 with y := midY N1 x, tp := midT N1 x } : Nums) := ⟨_, rfl⟩
          rw [← hN2] at h2
          have k26 := h2.c1026
          have k27 := h2.c1027
          have k28 := h2.c1028
          have e26 : N2.p = N1.fin := by rw [hN2]; exact Hp1.out
          have e27 : N2.fin = N1.fin := by rw [hN2]
          rw [e26] at k26
          rw [e27] at k27
          have H2 := Lib.hid h2
          have HN2 := Lib.hid hN2
          have Htk2 := Lib.hid htk2
          have Ho2 := Lib.hid ho2
          clear h2 hN2 e26 e27 htk2 ho2 H1 Htk Ho
          go_wp2
          go_still_tail 16, (by kernel_rfl)
          have hd := H2.out.drewN 1
          have hod := Ho2.out.drewN 1
          have hwD : wc.drew = wc.drewN 1 := rfl
          change wpList _ _ _ _ _ (World.drew _)
          rw [hwD]
          generalize wc.drewN 1 = wd at hd hod ⊢
          clear H2 Ho2 hwD k26 k27 k28 k36
          have k26 := hd.c1026
          have k27 := hd.c1027
          have k28 := hd.c1028
          have f28 := hd.frozen 1028
          rw [show N2.p = N1.fin by rw [HN2.out]; exact Hp1.out] at k26
          rw [show N2.fin = N1.fin by rw [HN2.out]] at k27
          have HD := Lib.hid hd
          have HoD := Lib.hid hod
          clear hd hod
          have hcopy := run_copy_none (P := Tryz.prog) wd 84 84 3 5 (some ⟨sb, 1, none⟩) (some ⟨sb, 1 + N1.fin, none⟩) 1025 1025 0 (1025 - N1.fin) Tryz.underlying84 info_u8 (by simp)
          go_wp2
          go_still_tail 11, (by kernel_rfl)
          go_wp2
          go_quiet (fail)
          have h0 := (HD.out.set1028 (wrap64 (N2.off + N1.fin))).drewN (1 + nq)
          have ho0 := (HoD.out.setCell (p := ⟨sb, 1028, none⟩) (fun _ => .inl rfl) (.int .i64 (wrap64 (N2.off + N1.fin)))).drewN (1 + nq)
          have hw0 : ((wd.setCell ⟨sb, 1028, none⟩ (.int .i64 (wrap64 (N2.off + N1.fin)))).drew.drewN nq) = (wd.setCell ⟨sb, 1028, none⟩ (.int .i64 (wrap64 (N2.off + N1.fin)))).drewN (1 + nq) := by
            rw [World.drewN_drew]
          rw [hw0]
          generalize (wd.setCell ⟨sb, 1028, none⟩ (.int .i64 (wrap64 (N2.off + N1.fin)))).drewN (1 + nq) = wf at h0 ho0 ⊢
          have H0 := Lib.hid h0
          have Ho0 := Lib.hid ho0
          clear h0 ho0 hw0 HD HoD k26 k27 k28 f28 hcopy
          go_wp2
          go_cut [6, 7] (fun v6 v7 wg => ReadR B sb rb rv tk2 { N2 with off := wrap64 (N2.off + N1.fin) } ev wf v6 v7 wg)
          case first => as_aux_lemma =>
            have k0 := H0.out.c0
            rcases H0.out.rdrs with hv | hv
            · exact (H0.out.no_src hv).elim
            · rw [hv] at k0
              have HV := Lib.hid hv
              clear hv
              go_region_held3 (fun w' => w'.cell? ⟨sb, 0, none⟩ = some (.iface 63 (.pointer (some ⟨rb, 0, none⟩)))) (first | exact k0 | assumption)
                (first | (go_at_call 228; refine (sm_read_reader (H0.out.drewN 1) (Hg.out _ (Ho0.out.drewN 1)) HV.out).mono ?_; rintro e wg ⟨n, er, rfl, hgot⟩; have hk0 := hgot.2.2.1.c0; rw [HV.out] at hk0; have HGOT := Lib.hid hgot; clear hgot))
              go_wp2_with fail
              go_meet
              exact ⟨_, _, rfl, rfl, by assumption⟩
          case rest => as_aux_lemma =>
            clear k26 k27
            obtain ⟨n, er, rfl, rfl, hgot⟩ := hcut
            obtain ⟨hn, her, hs, ho⟩ := hgot.out
            have hn1 : n ≤ 1024 := by rw [hn]; exact Nat.min_le_right _ _
            have hn2 : (n : Int) ≤ 1024 := by omega
            have hn3 : n < 1025 := by omega
            have hn4 : (n : Int) < 1025 := by omega
            have hn5 : ¬ 1025 = n := by omega
            have en : wrap64 (0 + (n : Int)) = n := by unfold wrap64; omega
            have en' : IntKind.i64.wrap (0 + (n : Int)) = n := by rw [Int.zero_add]; exact IntWalk.i64_in _ (by omega)
            have f26 := hs.frozen 1026
            have f27 := hs.frozen 1027
            have fb := hs.frozen (1 + n)
            have k26 := hs.c1026
            have k27 := hs.c1027
            have kb := hs.cbuf (i := n) (by omega)
            have hlc := hs.c1032
            have h30 := hs.c1030
            have HN := Lib.hid hn
            have HS := Lib.hid hs
            have HO := Lib.hid ho
            clear hn hs ho hgot
            go_wp2
            have hs1 : SM ((wc.setCell ⟨sb, 1026, none⟩ (.int .i64 0)).setCell ⟨sb, 1027, none⟩ (.int .i64 n)) B sb rb rv tk2 _ := (HS.out.set1026 0).set1027 n
            have ho1 := (Htk2.out.only (Ho0.out.drewN 1) HO.out (fun k hk => hk.elim .inl (fun e => .inr (.inl e))))
            have ho2 := (ho1.setCell (p := ⟨sb, 1026, none⟩) (fun _ => .inl rfl) (.int .i64 0)).setCell (p := ⟨sb, 1027, none⟩) (fun _ => .inl rfl) (.int .i64 n)
            generalize (wc.setCell ⟨sb, 1026, none⟩ (.int .i64 0)).setCell ⟨sb, 1027, none⟩ (.int .i64 n) = wi at hs1 ho2 ⊢
            clear ho1 k26 k27 kb hlc h30 f26 f27 fb HS HO
            have k27 := hs1.c1027
            have kb := hs1.cbuf (i := n) (by omega)
            have fb := hs1.frozen (1 + n)
            have HS := Lib.hid hs1
            have HO := Lib.hid ho2
            clear hs1 ho2
            go_still_tail 8, (by kernel_rfl)
            change wpList _ _ _ _ _ (World.drew _)
            have hs2 : SM ((wi.setCell ⟨sb, 1 + n, none⟩ (.int .u8 128)).drew) B sb rb rv tk2 _ := (HS.out.setbuf (e := n) hn1 128).drewN 1
            have ho3 : Only (fun k => k = sb ∨ k = rb ∨ tk = some k) w ((wi.setCell ⟨sb, 1 + n, none⟩ (.int .u8 128)).drew) := (HO.out.setCell (p := ⟨sb, 1 + n, none⟩) (fun _ => .inl rfl) (.int .u8 128)).drewN 1
            have hNums : (Nums.mk 0 n (wrap64 (N2.off + N1.fin)) N2.line N2.cc N2.ll N2.lc N2.tp N2.te N2.ch N2.errs N2.p45 N2.p46 N2.p47 N2.nm (setb (over N2.buf 0 (N2.rest.take (Nat.min N2.rest.length 1024))) n 128) (N2.rest.drop (Nat.min N2.rest.length 1024)) N2.y) = refilled N1 (midY N1 x) (midT N1 x) (wrap64 (N2.off + N1.fin)) := by
              rw [HN.out, HN2.out]; rfl
            have hs3 : SM ((wi.setCell ⟨sb, 1 + n, none⟩ (.int .u8 128)).drew) B sb rb rv tk2 (Nums.mk 0 n (wrap64 (N2.off + N1.fin)) N2.line N2.cc N2.ll N2.lc N2.tp N2.te N2.ch N2.errs N2.p45 N2.p46 N2.p47 N2.nm (setb (over N2.buf 0 (N2.rest.take (Nat.min N2.rest.length 1024))) n 128) (N2.rest.drop (Nat.min N2.rest.length 1024)) N2.y) := hs2
            have hR := rel_refill2 Hr1.out Hp1.out (wrap64 (N2.off + N1.fin))
            rw [← hNums] at hR
            have HR := Lib.hid hR
            have HS2 := Lib.hid hs3
            have HO2 := Lib.hid ho3
            clear hs2 hs3 ho3 hR hNums
            have hrest : N2.rest = N1.rest := by rw [HN2.out]
            have hch2 : N2.ch = N1.ch := by rw [HN2.out]
            have HCH2 := Lib.hid hch2
            clear hch2
            rcases her with ⟨hr0, rfl⟩ | ⟨hr0, rfl⟩
            · as_aux_lemma =>
              have hn0 : n = 0 := by rw [HN.out, hr0]; rfl
              have HN0 := Lib.hid hn0
              have hr00 : r = [] := by
                have := Hr1.out.unread
                rw [Hp1.out, Nat.sub_self, seg_zero, List.nil_append, ← hrest] at this
                rw [← this]; exact hr0
              have HR0 := Lib.hid hr00
              clear hr00 hrest hr0
              clear hn0
              go_upto_if 140 with (fail)
              have hs := HS2.out
              have ho := HO2.out
              have hR := HR.out
              generalize ((wi.setCell ⟨sb, 1 + n, none⟩ (.int .u8 128)).drew) = wj at hs ho ⊢
              rw [HN0.out] at hs
              rw [HN0.out] at hR
              clear HS2 HO2 HS HO kb fb k27 HR hn1 hn2 hn3 hn4 hn5 en en' HN
              have g := Hg.out _ ho
              have keof := g.eof
              obtain ⟨ea, hea⟩ := g.isEof
              have k27 := hs.c1027
              have k30 : wj.cell? ⟨sb, 1030, none⟩ = some (.int .i64 (N2.cc : Nat)) := hs.c1030
              have k32 : wj.cell? ⟨sb, 1032, none⟩ = some (.int .i64 (N2.lc : Nat)) := hs.c1032
              have f30 := hs.frozen 1030
              have f32 := hs.frozen 1032
              have hcc1 := hR.cc
              have hcc2 := hR.clen
              have hcc : N2.cc < 20000000 := by have h1 : N2.cc + 1 = col := hcc1; omega
              have hr0 := HR0.out
              subst hr0
              have hfin := next_end_eof hs hR rfl (HCH2.out.trans Hch.out) Htk2.out ho
              have Hfin := Lib.hid hfin
              clear g hs ho hR hcc1 hcc2 hfin HR0
              have h00 := HN0.out
              subst h00
              obtain ⟨cc, hcc'⟩ : ∃ cc, cc = N2.cc := ⟨_, rfl⟩
              obtain ⟨lc, hlc'⟩ : ∃ lc, lc = N2.lc := ⟨_, rfl⟩
              rw [← hcc'] at Hfin k30 hcc
              rw [← hlc'] at k32
              rw [hea] at keof ⊢
              clear hea Hg hcc' hlc' HN2 H0 Ho0 Hp1 Hr1 HN0 HCH2
              have hsame := eof_same ea
              go_wp2
              · go_ret
                exact Hfin.out.1
              · go_ret
                exact Hfin.out.2
            · as_aux_lemma =>
              have hlen : 0 < N2.rest.length := List.length_pos_iff.2 hr0
              clear hr0 hrest
              have Hlen := Lib.hid hlen
              clear hlen
              go_wp2
              go_roundg 1
              case measure => omega
              case rel =>
                have hle : Nat.min N2.rest.length 1024 ≤ N2.rest.length := Nat.min_le_left _ _
                have hle2 : Nat.min N2.rest.length 1024 = N2.rest.length ∨ Nat.min N2.rest.length 1024 = 1024 := by
                  rcases Nat.le_total N2.rest.length 1024 with h | h
                  · exact .inl (Nat.min_eq_left h)
                  · exact .inr (Nat.min_eq_right h)
                have := Hlen.out
                have := HN.out
                refine ⟨tk2, _, HS2.out, HR.out, HCH2.out.trans Hch.out, Htk2.out, HO2.out, .inr ⟨rfl, rfl, by show 0 < n; omega, fun h => ?_⟩⟩
                have h' : n < 4 := h
                show N2.rest.drop (Nat.min N2.rest.length 1024) = []
                exact List.drop_eq_nil_iff.2 (by omega)
      · as_aux_lemma =>
        have k26 : wr.cell? ⟨sb, 1026, none⟩ = some (.int .i64 0) := by have := h1.c1026; rw [hp1] at this; exact this
        have k27 := h1.c1027
        have hle1 := hr1.fle
        have hseg : seg N1.buf 0 N1.fin ++ N1.rest = r := by have := hr1.unread; rw [hp1, Nat.sub_zero] at this; exact this
        have l1 : (N1.fin : Int) ≤ 1025 := by omega
        have l2 : N1.fin ≤ 1025 := by omega
        have l3 : ¬ 1025 = N1.fin := by omega
        have l4 : ¬ (1025 : Int) = (N1.fin : Int) := by omega
        have w4 : IntKind.i64.wrap (4 : Int) = 4 := by decide
        have Hseg := Lib.hid hseg
        have H1 := Lib.hid h1
        have Hr1 := Lib.hid hr1
        have Hp1 := Lib.hid hp1
        have Htk := Lib.hid htk
        have Ho := Lib.hid ho
        have Hch := Lib.hid hch
        have Hf4 := Lib.hid hf4
        clear h1 hr1 hp1 htk ho hch hf4 hseg
        go_wp2_with fail
        go_cut [45] (fun v45 wc => ∃ b, v45 = .bool b ∧ (b = true → N1.fin < 4) ∧ Only (fun _ => False) wr wc)
        case first => as_aux_lemma =>
          by_cases h4 : N1.fin < 4
          · have d4 : decide ((N1.fin : Int) < 4) = true := by simp; omega
            have hn3 : N1.fin ≤ 3 := by omega
            go_region_held3 (fun w' => w'.cell? ⟨sb, 1026, none⟩ = some (.int .i64 0) ∧ w'.cell? ⟨sb, 1027, none⟩ = some (.int .i64 N1.fin)) (first | exact ⟨k26, k27⟩ | (exact ⟨by assumption, by assumption⟩))
              (first | (go_at_call 145; refine (full_any sb 1 N1.fin 1025 _ (Hg.out _ (Ho.out.drewN 1)) (seg N1.buf 0 N1.fin) hf1 hn3 (seg_len _ _ _) ?_ l2 ?_).mono ?_; (exact seg_ascii Hseg.out Hr1.out.asc); (exact seg_cells (H1.out.drewN 1) (by omega)); rintro e wg ⟨b, rfl, hon⟩; have hg1 := hon.cell (p := ⟨sb, 1026, none⟩) k26 id; have hg2 := hon.cell (p := ⟨sb, 1027, none⟩) k27 id))
            go_wp2_with fail
            go_meet
            exact ⟨_, rfl, fun _ => h4, ((Only.refl _ wr).drewN 1).trans (by assumption) (fun _ _ h => h)⟩
          · have d4 : decide ((N1.fin : Int) < 4) = false := by simp; omega
            go_quiet (fail)
            go_wp2_with fail
            go_meet
            exact ⟨false, rfl, fun h => absurd h (by simp), (Only.refl _ wr).drewN _⟩
        case rest => as_aux_lemma =>
          obtain ⟨b, rfl, hb4, hon⟩ := hcut
          have hs := H1.out.only hon (fun h => h) (fun h => h) (fun _ _ h => h)
          have ho : Only (fun k => k = sb ∨ k = rb ∨ tk = some k) w wc := Ho.out.trans hon (fun _ _ h => h.elim)
          clear hon H1 Ho k26 k27
          have k26 : wc.cell? ⟨sb, 1026, none⟩ = some (.int .i64 0) := by have := hs.c1026; rw [Hp1.out] at this; exact this
          have k27 := hs.c1027
          have k36 := hs.c1036
          cases b with
          | false => as_aux_lemma =>
            obtain ⟨c, t, hrc, hb0, hc⟩ := rel_head Hr1.out (by rw [Hp1.out]; exact hf1)
            rw [Hp1.out] at hb0
            have kb : wc.cell? ⟨sb, 1, none⟩ = some (.int .u8 (c.toNat : Nat)) := by have := hs.cbuf (i := 0) (by omega); rw [hb0] at this; exact this
            have hmeet : ∀ m, MeetR B sb rb rv tk N.ch r col x w (.int .i32 c.toNat) (.int .i64 1) (wc.drewN m) := fun m => ⟨tk1, N1, c, t, hs.drewN m, Hr1.out, Hch.out, Htk.out, ho.drewN m, by rw [Hp1.out]; exact hf1, hrc, rfl, rfl⟩
            have Hm := Lib.hid hmeet
            clear hmeet hs ho hrc hb0 hb4 k36
            obtain ⟨n, hn⟩ : ∃ n, n = c.toNat := ⟨_, rfl⟩
            rw [← hn] at kb Hm hc
            clear hn
            have hn2 : ¬ (128 : Int) ≤ (n : Int) := by omega
            go_wp2
            go_quiet (fail)
            go_wp2
            go_meet
            exact Hm.out _
          | true => as_aux_lemma =>
            have hf3 := hb4 rfl
            have hr0 := Hf4.out hf3
            have H1 := Lib.hid hs
            have Ho := Lib.hid ho
            have Hr0 := Lib.hid hr0
            clear hs ho hr0 hb4
            go_upto_if 50 with (fail)
            go_cut [] (fun wc => MidR B sb rb rv tk N1 x w wc)
            case first => as_aux_lemma =>
              have Hr1' := Hr1.out
              cases x with
              | none =>
                have ht := Hr1'.tok
                simp only at ht
                have ht' : N1.tp < 0 := by omega
                clear ht
                go_wp2_with fail
                go_meet
                exact ⟨tk1, H1.out, Htk.out, Ho.out⟩
              | some x =>
                obtain ⟨t, ht1, ht2, ht3⟩ := Hr1'.tok
                have t0 : t = 0 := by have := Hp1.out; omega
                rw [ht1, t0] at k36
                rw [t0, Hp1.out, seg_zero'] at ht3
                rw [t0] at ht1
                have m4 : 0 ≤ N1.tp := by omega
                have T1 := Lib.hid ht1
                have T3 := Lib.hid ht3
                clear ht1 ht3 Hr1' ht2 t0
                have k36' : wc.cell? ⟨sb, 1036, none⟩ = some (.int .i64 0) := k36
                clear k36
                go_wp2_with fail
                go_still_tail 15, (by kernel_rfl)
                change wpList _ _ _ _ _ (World.drew _)
                have hD := H1.out.drewN 1
                have hoD := Ho.out.drewN 1
                have hwD : wc.drew = wc.drewN 1 := rfl
                rw [hwD]
                generalize wc.drewN 1 = wd at hD hoD ⊢
                clear H1 Ho hwD
                have hl63 : N1.y.length + 0 ≤ 64 := by
                  have := Hx.out x rfl
                  rw [← T3.out] at this
                  omega
                have HD := Lib.hid hD
                have HoD := Lib.hid hoD
                clear hD hoD k26 k36'
                go_wp2_with fail
                refine (sm_write HD.out 0 0 1025 (by omega) hl63).mono ?_
                rintro e w1 ⟨rfl, tk2, hw2, htk2, ho2⟩
                have HW := Lib.hid hw2
                have HO := Lib.hid (Htk.out.only HoD.out ho2 (fun k hk => hk.elim .inl (fun e => .inr (.inr e))))
                have HT := Lib.hid (Htk.out.step HoD.out.size htk2)
                clear hw2 ho2 htk2
                have k36 := HW.out.c1036
                have f36 := HW.out.frozen 1036
                go_wp2
                go_meet
                refine ⟨tk2, ?_, HT.out, HO.out.setCell (p := ⟨sb, 1036, none⟩) (fun _ => .inl rfl) _⟩
                have := HW.out.set1036 0
                rw [seg_zero, List.append_nil, T3.out] at this
                exact this
            case rest => as_aux_lemma =>
              clear k26 k27 k36
              obtain ⟨tk2, h2, htk2, ho2⟩ := hcut
              obtain ⟨N2, hN2⟩ : ∃ N2, N2 = ({ N1 with y := midY N1 x, tp := midT N1 x } : Nums) := ⟨_, rfl⟩
              rw [← hN2] at h2
              have Htk2 := Lib.hid htk2
              have e26 : N2.p = 0 := by rw [hN2]; exact Hp1.out
              have e27 : N2.fin = N1.fin := by rw [hN2]
              have ebuf : N2.buf = N1.buf := by rw [hN2]
              have HN2 := Lib.hid hN2
              have E26 := Lib.hid e26
              have E27 := Lib.hid e27
              have Ebuf := Lib.hid ebuf
              clear hN2 htk2 e26 e27 ebuf H1 Htk Ho
              have k26 : wc.cell? ⟨sb, 1026, none⟩ = some (.int .i64 0) := by have := h2.c1026; rw [E26.out] at this; exact this
              have k27 : wc.cell? ⟨sb, 1027, none⟩ = some (.int .i64 (N1.fin : Nat)) := by have := h2.c1027; rw [E27.out] at this; exact this
              have H2 := Lib.hid h2
              have Ho2 := Lib.hid ho2
              clear h2 ho2
              go_wp2
              go_still_tail 16, (by kernel_rfl)
              have hd := H2.out.drewN 1
              have hod := Ho2.out.drewN 1
              have hwD : wc.drew = wc.drewN 1 := rfl
              change wpList _ _ _ _ _ (World.drew _)
              rw [hwD]
              generalize wc.drewN 1 = wd at hd hod ⊢
              clear H2 Ho2 hwD k26 k27
              have hcopy := run_copy_cells (P := Tryz.prog) wd 84 84 3 5 sb 1 1025 1025 ⟨sb, 1, none⟩ N1.fin 1025 (cellsOf (seg N2.buf 0 N1.fin)) Tryz.underlying84 info_u8
                (by rw [length_cells, seg_len]; exact (Nat.min_eq_left l2).symm)
                (fun j v hj => by
                  have hjl := (List.getElem?_eq_some_iff.1 hj).1
                  rw [length_cells] at hjl
                  have := seg_cells hd l2 j hjl
                  rw [cells_get _ hjl] at hj
                  rw [← Option.some.inj hj, Addr.add_lit]
                  exact this)
                (fun j hj => by rw [length_cells, seg_len] at hj; rw [hd.cbuf (by omega)]; rfl)
                (fun j hj => hd.frozen _) (oneCell_cells _)
              have hs := hd.same (n := N1.fin) hle1
              have ho := Only.setCells (D := fun k => k = sb ∨ k = rb ∨ tk = some k) (b := sb) (fun _ => .inl rfl) (cellsOf (seg N2.buf 0 N1.fin)) 1 hod
              clear hd hod
              have HS := Lib.hid hs
              have HO := Lib.hid ho
              clear hs ho
              go_wp2
              clear hcopy
              have hs := HS.out
              have ho := HO.out
              generalize wd.setCells sb 1 (cellsOf (seg N2.buf 0 N1.fin)) = we at hs ho ⊢
              clear HS HO
              have k26 : we.cell? ⟨sb, 1026, none⟩ = some (.int .i64 0) := by have := hs.c1026; rw [E26.out] at this; exact this
              have k28 := hs.c1028
              have f28 := hs.frozen 1028
              have HS := Lib.hid hs
              have HO := Lib.hid ho
              clear hs ho
              go_still_tail 11, (by kernel_rfl)
              go_wp2
              have hs : SM ((we.setCell ⟨sb, 1028, none⟩ (.int .i64 (wrap64 N2.off))).drew) B sb rb rv tk2 { N2 with off := wrap64 N2.off } := (HS.out.set1028 (wrap64 N2.off)).drewN 1
              have ho : Only (fun k => k = sb ∨ k = rb ∨ tk = some k) w ((we.setCell ⟨sb, 1028, none⟩ (.int .i64 (wrap64 N2.off))).drew) := (HO.out.setCell (p := ⟨sb, 1028, none⟩) (fun _ => .inl rfl) _).drewN 1
              generalize ((we.setCell ⟨sb, 1028, none⟩ (.int .i64 (wrap64 N2.off))).drew) = wf at hs ho ⊢
              clear HS HO k26 k28 f28
              have k26 : wf.cell? ⟨sb, 1026, none⟩ = some (.int .i64 0) := by have := hs.c1026; rw [show (Nums.p _) = N2.p from rfl, E26.out] at this; exact this
              have k27 : wf.cell? ⟨sb, 1027, none⟩ = some (.int .i64 (N1.fin : Nat)) := by have := hs.c1027; rw [show (Nums.fin _) = N2.fin from rfl, E27.out] at this; exact this
              have HS := Lib.hid hs
              have HO := Lib.hid ho
              clear hs ho
              have e9 : IntKind.i64.wrap (N1.fin : Int) = N1.fin := IntWalk.i64_in _ (by omega)
              have e9' : wrap64 (N1.fin : Int) = N1.fin := by unfold wrap64; omega
              go_quiet (fail)
              go_wp2
              have l5 : (N1.fin : Int) ≤ 1024 := by omega
              go_cut [6, 7] (fun v6 v7 wg => v6 = .int .i64 0 ∧ v7 = ev ∧ ∃ m, wg = wf.drewN m)
              case first => as_aux_lemma =>
                have hr20 : N2.rest = [] := by rw [HN2.out]; exact Hr0.out
                have k0 := HS.out.c0
                rcases HS.out.rdrs with hv | hv
                · exact (HS.out.no_src hv).elim
                · rw [hv] at k0
                  have HV := Lib.hid hv
                  have HR2 := Lib.hid hr20
                  clear hv hr20
                  go_region_held3 (fun w' => w'.cell? ⟨sb, 0, none⟩ = some (.iface 63 (.pointer (some ⟨rb, 0, none⟩)))) (first | exact k0 | assumption)
                    (first | (go_at_call 228; refine (sm_none_reader (HS.out.drewN (nq + 1)) (Hg.out _ (HO.out.drewN (nq + 1))) HV.out HR2.out _).mono ?_; rintro e wg ⟨rfl, m, rfl⟩))
                  go_wp2_with fail
                  go_meet
                  exact ⟨rfl, rfl, _, rfl⟩
              case rest => as_aux_lemma =>
                obtain ⟨rfl, rfl, m, rfl⟩ := hcut
                have hs := HS.out.drewN m
                have ho := HO.out.drewN m
                generalize wf.drewN m = wk at hs ho ⊢
                clear HS HO k26 k27
                have f26 := hs.frozen 1026
                have f27 := hs.frozen 1027
                have k26 := hs.c1026
                have k27 := hs.c1027
                have HS := Lib.hid hs
                have HO := Lib.hid ho
                clear hs ho
                go_wp2
                have hs : SM ((wk.setCell ⟨sb, 1026, none⟩ (.int .i64 0)).setCell ⟨sb, 1027, none⟩ (.int .i64 (N1.fin : Nat))) B sb rb rv tk2 _ := (HS.out.set1026 0).set1027 N1.fin
                have ho := (HO.out.setCell (p := ⟨sb, 1026, none⟩) (fun _ => .inl rfl) (.int .i64 0)).setCell (p := ⟨sb, 1027, none⟩) (fun _ => .inl rfl) (.int .i64 (N1.fin : Nat))
                generalize (wk.setCell ⟨sb, 1026, none⟩ (.int .i64 0)).setCell ⟨sb, 1027, none⟩ (.int .i64 (N1.fin : Nat)) = wi at hs ho ⊢
                clear HS HO k26 k27 f26 f27
                have k27 := hs.c1027
                have kb' := hs.cbuf (i := N1.fin) (by omega)
                have fb := hs.frozen (1 + N1.fin)
                have HS := Lib.hid hs
                have HO := Lib.hid ho
                clear hs ho
                have l6 : (N1.fin : Int) < 1025 := by omega
                have l7 : N1.fin < 1025 := by omega
                go_still_tail 8, (by kernel_rfl)
                change wpList _ _ _ _ _ (World.drew _)
                go_upto_if 140 with (fail)
                have hs : SM ((wi.setCell ⟨sb, 1 + N1.fin, none⟩ (.int .u8 128)).drew) B sb rb rv tk2 _ := (HS.out.setbuf (e := N1.fin) hle1 128).drewN 1
                have ho : Only (fun k => k = sb ∨ k = rb ∨ tk = some k) w ((wi.setCell ⟨sb, 1 + N1.fin, none⟩ (.int .u8 128)).drew) := (HO.out.setCell (p := ⟨sb, 1 + N1.fin, none⟩) (fun _ => .inl rfl) (.int .u8 128)).drewN 1
                generalize ((wi.setCell ⟨sb, 1 + N1.fin, none⟩ (.int .u8 128)).drew) = wj at hs ho ⊢
                have hs2 : SM wj B sb rb rv tk2 (Nums.mk 0 N1.fin (wrap64 N2.off) N2.line N2.cc N2.ll N2.lc N2.tp N2.te N2.ch N2.errs N2.p45 N2.p46 N2.p47 N2.nm (setb N2.buf N1.fin 128) N2.rest N2.y) := hs
                have hN3 : (Nums.mk 0 N1.fin (wrap64 N2.off) N2.line N2.cc N2.ll N2.lc N2.tp N2.te N2.ch N2.errs N2.p45 N2.p46 N2.p47 N2.nm (setb N2.buf N1.fin 128) N2.rest N2.y) = (Nums.mk 0 N1.fin (wrap64 N2.off) N1.line N1.cc N1.ll N1.lc (midT N1 x) N1.te N1.ch N1.errs N1.p45 N1.p46 N1.p47 N1.nm (setb N1.buf N1.fin 128) N1.rest (midY N1 x)) := by
                  rw [HN2.out]
                have hR3 := rel_keep Hr1.out Hp1.out (wrap64 N2.off)
                rw [hN3] at hs2
                have g := Hg.out _ ho
                have keof := g.eof
                obtain ⟨ea, hea⟩ := g.isEof
                have k26 : wj.cell? ⟨sb, 1026, none⟩ = some (.int .i64 0) := hs2.c1026
                have k27 : wj.cell? ⟨sb, 1027, none⟩ = some (.int .i64 (N1.fin : Nat)) := hs2.c1027
                obtain ⟨c, t, hrc, hb0, hc⟩ := rel_head hR3 hf1
                have kb : wj.cell? ⟨sb, 1, none⟩ = some (.int .u8 (c.toNat : Nat)) := by have := hs2.cbuf (i := 0) (by omega); rw [← hb0]; exact this
                have hmeet : ∀ m, MeetR B sb rb rv tk N.ch r col x w (.int .i32 c.toNat) (.int .i64 1) (wj.drewN m) := fun m => ⟨tk2, _, c, t, hs2.drewN m, hR3, Hch.out, Htk2.out, ho.drewN m, hf1, hrc, rfl, rfl⟩
                have Hm := Lib.hid hmeet
                clear hmeet hs hs2 ho hrc hb0 hN3 hR3 g HS HO fb kb'
                obtain ⟨n, hn⟩ : ∃ n, n = c.toNat := ⟨_, rfl⟩
                rw [← hn] at kb Hm hc
                clear hn Hr1 Hseg HN2
                obtain ⟨fin, hfin⟩ : ∃ fin, fin = N1.fin := ⟨_, rfl⟩
                rw [hea] at keof ⊢
                clear hea Hg
                have hsame := eof_same ea
                have hn2 : ¬ (128 : Int) ≤ (n : Int) := by omega
                have hne : ¬ N1.fin = 0 := by omega
                have hneb : ((N1.fin : Int) == 0) = false := by simp; omega
                go_wp2
                go_goals
                go_quiet (fail)
                go_wp2
                go_meet
                exact Hm.out _
    --}
  case rest => as_aux_lemma =>
    obtain ⟨tk1, N1, c, t, h1, hr1, hch, htk, ho, hp1, rfl, rfl, rfl⟩ := hcut
    clear H Hr Hp h26 hb Hg Hx
    have h26 := h1.c1026
    have h29 := h1.c1029
    have h30 := h1.c1030
    have h31 := h1.c1031
    have h32 := h1.c1032
    have h37 := h1.c1037
    have h39 := h1.c1039
    have h40 := h1.c1040
    have f26 := h1.frozen 1026
    have f29 := h1.frozen 1029
    have f30 := h1.frozen 1030
    have f31 := h1.frozen 1031
    have f32 := h1.frozen 1032
    have f37 := h1.frozen 1037
    have f40 := h1.frozen 1040
    have hfle := hr1.fle
    have hccb : N1.cc < 20000000 := by have hcl := hr1.clen; have hcc := hr1.cc; simp at hcl; omega
    have hpb : N1.p < 1024 := by omega
    by_cases hc0 : c = 0
    · subst hc0
      have hfin := fun m te ec => next_end_nul (w := w) (tk := tk) h1 hr1 hp1 htk ho m te ec
      rw [hch] at hfin
      obtain ⟨p, hpp⟩ : ∃ p, p = N1.p := ⟨_, rfl⟩
      obtain ⟨cc, hcc'⟩ : ∃ cc, cc = N1.cc := ⟨_, rfl⟩
      rw [← hpp, ← hcc'] at hfin
      rw [← hpp] at h26 hpb
      rw [← hcc'] at h30 hccb
      have Hfin := Lib.hid hfin
      clear hfin h1 hr1 hch htk ho hp1 hpp hcc' hfle
      go_wp2_with fail
      refine (error_any sb _ _ (p + 1) 1 N1.te N1.errs ?_ ?_ ?_ ?_ ?_ ?_ ?_).mono ?_
      · go_cell
      · go_cell
      · go_cell
      · go_cell
      · go_cell
      · simpa using f37
      · simpa using f40
      rintro e w1 ⟨rfl, m, te, ec, rfl⟩
      go_wp2
      go_ret
      exact Hfin.out m te ec
    · by_cases hc10 : c = 10
      · subst hc10
        have hfin := fun ln w2 => next_end_nl (w := w) (tk := tk) h1 hr1 hp1 htk ho ln w2
        rw [hch] at hfin
        obtain ⟨p, hpp⟩ : ∃ p, p = N1.p := ⟨_, rfl⟩
        obtain ⟨cc, hcc'⟩ : ∃ cc, cc = N1.cc := ⟨_, rfl⟩
        rw [← hpp, ← hcc'] at hfin
        rw [← hpp] at h26 hpb
        rw [← hcc'] at h30 hccb
        have Hfin := Lib.hid hfin
        clear hfin h1 hr1 hch htk ho hp1 hpp hcc' hfle hc0
        go_wp2
        go_ret
        exact Hfin.out _ _ rfl
      · have hfin := next_end_plain (w := w) (tk := tk) h1 hr1 hp1 hc10 htk ho
        rw [hch] at hfin
        obtain ⟨p, hpp⟩ : ∃ p, p = N1.p := ⟨_, rfl⟩
        obtain ⟨cc, hcc'⟩ : ∃ cc, cc = N1.cc := ⟨_, rfl⟩
        obtain ⟨n, hnn⟩ : ∃ n, n = c.toNat := ⟨_, rfl⟩
        rw [← hpp, ← hcc', ← hnn] at hfin
        rw [← hpp] at h26 hpb
        rw [← hcc'] at h30 hccb
        have hn0 : n ≠ 0 := fun e => hc0 (by apply UInt8.toNat_inj.1; rw [← hnn, e]; rfl)
        have hn10 : n ≠ 10 := fun e => hc10 (by apply UInt8.toNat_inj.1; rw [← hnn, e]; rfl)
        have Hfin := Lib.hid hfin
        rw [← hnn]
        clear hfin h1 hr1 hch htk ho hp1 hpp hcc' hfle hc0 hc10 hnn
        go_wp2
        go_ret
        exact Hfin.out
end Go.Proofs.YtpoimmpdncickaaGreatDoor
