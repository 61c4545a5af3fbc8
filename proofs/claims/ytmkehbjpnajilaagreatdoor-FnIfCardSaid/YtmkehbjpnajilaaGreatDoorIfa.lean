/- The law FnIf's walk: it returns true. -/
import Derived.Test.YtmkehbjpnajilaaGreatDoorJ10
import Derived.Test.YtmkehbjpnajilaaGreatDoorJ11
import Derived.Test.YtmkehbjpnajilaaGreatDoorJ9
/- What is told of a condition with both its parts; plain lists. -/
namespace Go.Proofs.YtmkehbjpnajilaaGreatDoor
open Go Go.RowKit Lex Go.Proofs.YtmkehbjpnajilaaGreatDoorW.PrintWords Go.Proofs.YtmkehbjpnajilaaGreatDoor.PHelp
set_option linter.unusedVariables false
set_option linter.unusedSimpArgs false

/-- The file. -/
def ifF (t : Bool) (name : Bs) (one two after : List Bs) : Bs := dirN (if t then kwIfdef else kwIfndef) name (textB one ++ 10 :: dirB kwElse (textB two ++ 10 :: dirB kwEndif (textB after ++ 10 :: [])))

section
variable {y : Wy} {nm : ByteArray} {mac : Bs → Option Mc} {mn : Nat} {R : List (Int × Bs)}
/-- A part that is read, and its line's end. -/
theorem part_read {ws : List Bs} {ifs : List Bool} (hw : ∀ w ∈ ws, WordL w ∧ mac w = none) (hi : ifs.length < 1000) (ho : onB ifs = true) {s : Sg} (h : At s nm [] (ws.map tokW ++ (10, [10]) :: R) mac ifs mn) :
    ∃ l s1, StT y l s s1 ∧ l.map Fd.kx = ws.map tokW ++ [(10, [10])] ∧ At s1 nm [] R mac ifs mn ∧ s1.bol = true := by
  obtain ⟨l1, s1, a1, a2, a3, _⟩ := st_ws (y := y) (by simp) hi ho ws s hw h
  obtain ⟨l2, s2, b1, b2, b3, b4, _⟩ := st_nl (y := y) a3 (by simp) hi ho
  exact ⟨l1 ++ l2, s2, a1.app b1, by rw [List.map_append, a2, b2], b3, b4⟩
/-- A part that is not read, up to the next directive. -/
theorem part_off {ws : List Bs} {ifs : List Bool} (hw : ∀ w ∈ ws, WordL w ∧ mac w = none) (hi : ifs.length < 1000) (ho : onB ifs = false) {s : Sg} (h : At s nm [] (ws.map tokW ++ (10, [10]) :: R) mac ifs mn) :
    ∃ s1 n, At s1 nm [] R mac ifs mn ∧ s1.bol = true ∧ ∀ k s', Nx y 0 0 s1 k s' → Nx y 0 n s k s' := by
  obtain ⟨s3, e1, e2, _, e4⟩ := nx_skips (y := y) (nm := nm) (rest := []) (R := R) (mac := mac) (ifs := ifs) (mn := mn) (by simp) hi ho _ s (skip_words (ws := ws) (fun w hx => ⟨(hw w hx).1, fun _ => (hw w hx).2⟩)) (by simpa using h)
  refine ⟨s3, _, e1, ?_, fun k s' => e4 0 0 k s'⟩
  have := e2 (10, [10]) (by simp [List.getLast?_append])
  simpa using this
end

theorem if_told (y : Wy) (hy : y.bl = true) {mac0 : Bs → Option Mc} {mn0 : Nat} (t : Bool) {one two after : List Bs} {name : Bs} (hn : PName name) (hnl : name.length ≤ 60) (h1 : ∀ w ∈ one, WordL w ∧ mac0 w = none) (h2 : ∀ w ∈ two, WordL w ∧ mac0 w = none) (h3 : ∀ w ∈ after, WordL w ∧ mac0 w = none) (l1 : one.length ≤ 20) (l2 : two.length ≤ 20) (l3 : after.length ≤ 20) :
    ∃ T l s' mac mn, TL (ifF t name one two after) 1 1 T ∧ StT y l ⟨[tzAb mainName T], mn0, mac0, [], true, []⟩ s' ∧ At s' mainName [] [] mac [] mn ∧ shown (l.map Fd.kx) = (if (mac0 name).isSome == t then one else two) ++ after ∧ l.length ≤ 1000 ∧ ∀ f ∈ l, -1000000 ≤ f.k ∧ f.k < 1000000 := by
  have hk : PName (if t then kwIfdef else kwIfndef) := by cases t; exact pn_ifndef; exact pn_ifdef
  have hkl : (if t then kwIfdef else kwIfndef).length ≤ 60 := by cases t <;> decide
  have q3 : Pc (dirB kwEndif (textB after ++ 10 :: [])) _ := pc_dirB pn_endif (by decide) (tail := textB after ++ 10 :: []) (by simpa using pc_line (fun w hw => (h3 w hw).1) .nil [] (by intro b h; cases h))
  have q2 : Pc (dirB kwElse (textB two ++ 10 :: dirB kwEndif (textB after ++ 10 :: []))) _ := pc_dirB pn_else (by decide) (by simpa using pc_line (fun w hw => (h2 w hw).1) q3 [] (by intro b h; cases h))
  have hpc := pc_dirN hk hkl hn hnl (tail := textB one ++ 10 :: dirB kwElse (textB two ++ 10 :: dirB kwEndif (textB after ++ 10 :: []))) (by simpa using pc_line (fun w hw => (h1 w hw).1) q2 [] (by intro b h; cases h))
  obtain ⟨T, g1, g2⟩ := hpc.tl 1 1
  have hat : At ⟨[tzAb mainName T], mn0, mac0, [], true, []⟩ mainName [] _ mac0 [] mn0 := ⟨[], tzAb mainName T, rfl, by simp, by simp, rfl, rfl, g2, rfl, rfl, rfl⟩
  obtain ⟨s1, a1, a2, a3⟩ := nx_ifdef (y := y) (t := t) hat rfl hy (by simp) (by simp) rfl hnl
  obtain ⟨q1, b1, b2, _⟩ := HashTo.st (m := 0) a1.1 a1.2.1 a1.2.2 (by simp)
  rw [List.nil_append] at a2
  have hsa : shown (after.map tokW) = after := shown_words (fun w hw => (h3 w hw).1)
  cases hb : ((mac0 name).isSome == t) with
  | true =>
    rw [hb] at a2
    obtain ⟨q2, s2, c1, c2, c3, c4⟩ := part_read (y := y) h1 (by simp) rfl a2
    obtain ⟨s3, d1, d2, d3⟩ := nx_else (y := y) c3 c4 hy (by simp)
    obtain ⟨q3, e1, e2, _⟩ := HashTo.st (m := 0) d1.1 d1.2.1 d1.2.2 (by simp)
    obtain ⟨s4, n4, f1, f2, f3⟩ := part_off (y := y) h2 (by simp) rfl d2
    obtain ⟨s5, i1, i2, i3⟩ := nx_endif (y := y) f1 f2 hy (by simp)
    obtain ⟨q4, j1, j2, _⟩ := HashTo.st (f3 35 s5 i1.1) i1.2.1 i1.2.2 (by simp)
    obtain ⟨q5, s6, k1, k2, k3, _⟩ := part_read (y := y) (R := []) h3 (by simp) rfl i2
    have hs := b1.app (c1.app (e1.app (j1.app k1)))
    have hso : shown (one.map tokW) = one := shown_words (fun w hw => (h1 w hw).1)
    refine ⟨T, _, s6, _, _, g1, hs, k3, ?_, ?_, hs.kinds⟩
    · rw [List.map_append, List.map_append, List.map_append, List.map_append, b2, c2, e2, j2, k2]
      simp only [shown_app, hso, hsa]
      simp [shown, isShown]
    · have m1 := congrArg List.length b2
      have m2 := congrArg List.length c2
      have m3 := congrArg List.length e2
      have m4 := congrArg List.length j2
      have m5 := congrArg List.length k2
      simp at m1 m2 m3 m4 m5
      simp only [List.length_append]
      omega
  | false =>
    rw [hb] at a2
    obtain ⟨s4, n4, f1, f2, f3⟩ := part_off (y := y) h1 (by simp) rfl a2
    obtain ⟨s3, d1, d2, d3⟩ := nx_else (y := y) f1 f2 hy (by simp)
    obtain ⟨q3, e1, e2, _⟩ := HashTo.st (f3 35 s3 d1.1) d1.2.1 d1.2.2 (by simp)
    obtain ⟨q2, s2, c1, c2, c3, c4⟩ := part_read (y := y) h2 (by simp) rfl d2
    obtain ⟨s5, i1, i2, i3⟩ := nx_endif (y := y) c3 c4 hy (by simp)
    obtain ⟨q4, j1, j2, _⟩ := HashTo.st (m := 0) i1.1 i1.2.1 i1.2.2 (by simp)
    obtain ⟨q5, s6, k1, k2, k3, _⟩ := part_read (y := y) (R := []) h3 (by simp) rfl i2
    have hs := b1.app (e1.app (c1.app (j1.app k1)))
    have hso : shown (two.map tokW) = two := shown_words (fun w hw => (h2 w hw).1)
    refine ⟨T, _, s6, _, _, g1, hs, k3, ?_, ?_, hs.kinds⟩
    · rw [List.map_append, List.map_append, List.map_append, List.map_append, b2, e2, c2, j2, k2]
      simp only [shown_app, hso, hsa]
      simp [shown, isShown]
    · have m1 := congrArg List.length b2
      have m2 := congrArg List.length c2
      have m3 := congrArg List.length e2
      have m4 := congrArg List.length j2
      have m5 := congrArg List.length k2
      simp at m1 m2 m3 m4 m5
      simp only [List.length_append]
      omega
section
variable {w : World} {ev : Value} {b0 : Bs} {p1 : Bool} {p2 : Bool} {l3 : List Bs} {A3 : Option Addr} {c3 : Nat} {l4 : List Bs} {A4 : Option Addr} {c4 : Nat} {l5 : List Bs} {A5 : Option Addr} {c5 : Nat}
set_option maxRecDepth 100000 in
set_option maxHeartbeats 4000000 in
theorem if_law (hr3 : Kd.C Kd.string w A3 (l3.map mkS).length (l3.map mkS)) (hc3 : (l3.map mkS).length ≤ c3) (hr4 : Kd.C Kd.string w A4 (l4.map mkS).length (l4.map mkS)) (hc4 : (l4.map mkS).length ≤ c4) (hr5 : Kd.C Kd.string w A5 (l5.map mkS).length (l5.map mkS)) (hc5 : (l5.map mkS).length ≤ c5) (hg : Glob w ev) (hB : 21 ≤ w.heap.size) :
    Calls Tryz.prog 9 #[.string (mkS b0), .bool p1, .bool p2, .slice A3 (l3.map mkS).length c3, .slice A4 (l4.map mkS).length c4, .slice A5 (l5.map mkS).length c5] w (LawQ w) := by
  have Hfin := Lib.hid (lawq_drewN w)
  have Hg := Lib.hid hg
  have s0 := mkS_size b0
  obtain ⟨n0, e0⟩ : ∃ n, n = b0.length := ⟨_, rfl⟩
  rw [← e0] at s0
  have N0 := Lib.hid e0
  obtain ⟨m3, e3⟩ : ∃ m, m = (l3.map mkS).length := ⟨_, rfl⟩
  have M3 := Lib.hid e3
  have R3 := Lib.hid hr3
  have C3 := Lib.hid hc3
  have q3 : m3 ≤ c3 := by rw [e3]; exact hc3
  rw [← e3]
  obtain ⟨m4, e4⟩ : ∃ m, m = (l4.map mkS).length := ⟨_, rfl⟩
  have M4 := Lib.hid e4
  have R4 := Lib.hid hr4
  have C4 := Lib.hid hc4
  have q4 : m4 ≤ c4 := by rw [e4]; exact hc4
  rw [← e4]
  obtain ⟨m5, e5⟩ : ∃ m, m = (l5.map mkS).length := ⟨_, rfl⟩
  have M5 := Lib.hid e5
  have R5 := Lib.hid hr5
  have C5 := Lib.hid hc5
  have q5 : m5 ≤ c5 := by rw [e5]; exact hc5
  rw [← e5]
  clear hg e0 e3 e4 e5 hr3 hc3 hr4 hc4 hr5 hc5
  go_enter Tryz.func9, Tryz.ntmps9
  change Code.wp _ _ _ _ (w.drewN 0)
  rcases Nat.lt_or_ge 2147483647 n0 with hz0 | hz0
  · go_wp2
    go_ret
    exact Hfin.out _
  obtain ⟨t3, z3, y3⟩ := fits_f (ws := l3)
  have g3 := gd_fits R3.out C3.out z3
  rw [← M3.out] at g3
  have G := Lib.hid g3
  have F3 := Lib.hid y3
  clear g3 z3 y3
  go_wp2_with fail
  refine (G.out _).mono ?_
  rintro e u1 ⟨rfl, j1, rfl⟩
  clear G
  cases t3 with
  | false => go_wp2; go_ret; exact Hfin.out _
  | true =>
  obtain ⟨t4, z4, y4⟩ := fits_f (ws := l4)
  have g4 := gd_fits R4.out C4.out z4
  rw [← M4.out] at g4
  have G := Lib.hid g4
  have F4 := Lib.hid y4
  clear g4 z4 y4
  go_wp2_with fail
  refine (G.out _).mono ?_
  rintro e u2 ⟨rfl, j2, rfl⟩
  clear G
  cases t4 with
  | false => go_wp2; go_ret; exact Hfin.out _
  | true =>
  obtain ⟨t5, z5, y5⟩ := fits_f (ws := l5)
  have g5 := gd_fits R5.out C5.out z5
  rw [← M5.out] at g5
  have G := Lib.hid g5
  have F5 := Lib.hid y5
  clear g5 z5 y5
  go_wp2_with fail
  refine (G.out _).mono ?_
  rintro e u3 ⟨rfl, j3, rfl⟩
  clear G
  cases t5 with
  | false => go_wp2; go_ret; exact Hfin.out _
  | true =>
  obtain ⟨t3, z3, y3⟩ := line_f (F3.out (by first | rfl | trivial)).2 (F3.out (by first | rfl | trivial)).1
  have g3 := gd_line R3.out C3.out z3
  rw [← M3.out] at g3
  have G := Lib.hid g3
  have Y := Lib.hid y3
  clear g3 z3 y3
  go_wp2_with fail
  refine (G.out _).mono ?_
  rintro e u4 ⟨rfl, j4, rfl⟩
  clear G
  cases t3 with
  | false => go_wp2; go_ret; exact Hfin.out _
  | true =>
  have W3 : Hid (∀ x ∈ l3, WordL x) := Lib.hid (fun x hx => ((Y.out (by first | rfl | trivial)).1 x hx).word)
  have T3 : Hid (l3.length ≤ 20) := Lib.hid (Y.out (by first | rfl | trivial)).2
  clear Y
  obtain ⟨t4, z4, y4⟩ := line_f (F4.out (by first | rfl | trivial)).2 (F4.out (by first | rfl | trivial)).1
  have g4 := gd_line R4.out C4.out z4
  rw [← M4.out] at g4
  have G := Lib.hid g4
  have Y := Lib.hid y4
  clear g4 z4 y4
  go_wp2_with fail
  refine (G.out _).mono ?_
  rintro e u5 ⟨rfl, j5, rfl⟩
  clear G
  cases t4 with
  | false => go_wp2; go_ret; exact Hfin.out _
  | true =>
  have W4 : Hid (∀ x ∈ l4, WordL x) := Lib.hid (fun x hx => ((Y.out (by first | rfl | trivial)).1 x hx).word)
  have T4 : Hid (l4.length ≤ 20) := Lib.hid (Y.out (by first | rfl | trivial)).2
  clear Y
  obtain ⟨t5, z5, y5⟩ := line_f (F5.out (by first | rfl | trivial)).2 (F5.out (by first | rfl | trivial)).1
  have g5 := gd_line R5.out C5.out z5
  rw [← M5.out] at g5
  have G := Lib.hid g5
  have Y := Lib.hid y5
  clear g5 z5 y5
  go_wp2_with fail
  refine (G.out _).mono ?_
  rintro e u6 ⟨rfl, j6, rfl⟩
  clear G
  cases t5 with
  | false => go_wp2; go_ret; exact Hfin.out _
  | true =>
  have W5 : Hid (∀ x ∈ l5, WordL x) := Lib.hid (fun x hx => ((Y.out (by first | rfl | trivial)).1 x hx).word)
  have T5 : Hid (l5.length ≤ 20) := Lib.hid (Y.out (by first | rfl | trivial)).2
  clear Y
  obtain ⟨t0, z0, y0⟩ := plain_f b0 (by rw [← N0.out]; exact hz0)
  have G := Lib.hid (gd_plain (w := w) z0)
  have Y := Lib.hid y0
  clear z0 y0
  go_wp2_with fail
  refine (G.out _).mono ?_
  rintro e u7 ⟨rfl, j7, rfl⟩
  clear G
  cases t0 with
  | false => go_wp2; go_ret; exact Hfin.out _
  | true =>
  have X0 : Hid (PName b0) := Lib.hid (Y.out (by first | rfl | trivial)).2
  clear Y
  rcases Nat.lt_or_ge 60 n0 with h60 | h60_0
  · go_wp2
    go_ret
    exact Hfin.out _
  have g3 := gd_has R3.out C3.out (has_f b0 (F3.out (by first | rfl | trivial)).2)
  rw [← M3.out] at g3
  obtain ⟨t3, ht3⟩ : ∃ r, (l3.any fun w => w == b0) = r := ⟨_, rfl⟩
  rw [ht3] at g3
  have G := Lib.hid g3
  have O := Lib.hid ht3
  clear g3 ht3
  go_wp2_with fail
  refine (G.out _).mono ?_
  rintro e u8 ⟨rfl, j8, rfl⟩
  clear G
  cases t3 with
  | true => go_wp2; go_ret; exact Hfin.out _
  | false =>
  have O3_0 : Hid (b0 ∉ l3) := Lib.hid (fun h => by
    have h2 : (l3.any fun w => w == b0) = true := List.any_eq_true.2 ⟨b0, h, by simp⟩
    rw [O.out] at h2
    cases h2)
  clear O
  have g4 := gd_has R4.out C4.out (has_f b0 (F4.out (by first | rfl | trivial)).2)
  rw [← M4.out] at g4
  obtain ⟨t4, ht4⟩ : ∃ r, (l4.any fun w => w == b0) = r := ⟨_, rfl⟩
  rw [ht4] at g4
  have G := Lib.hid g4
  have O := Lib.hid ht4
  clear g4 ht4
  go_wp2_with fail
  refine (G.out _).mono ?_
  rintro e u9 ⟨rfl, j9, rfl⟩
  clear G
  cases t4 with
  | true => go_wp2; go_ret; exact Hfin.out _
  | false =>
  have O4_0 : Hid (b0 ∉ l4) := Lib.hid (fun h => by
    have h2 : (l4.any fun w => w == b0) = true := List.any_eq_true.2 ⟨b0, h, by simp⟩
    rw [O.out] at h2
    cases h2)
  clear O
  have g5 := gd_has R5.out C5.out (has_f b0 (F5.out (by first | rfl | trivial)).2)
  rw [← M5.out] at g5
  obtain ⟨t5, ht5⟩ : ∃ r, (l5.any fun w => w == b0) = r := ⟨_, rfl⟩
  rw [ht5] at g5
  have G := Lib.hid g5
  have O := Lib.hid ht5
  clear g5 ht5
  go_wp2_with fail
  refine (G.out _).mono ?_
  rintro e u10 ⟨rfl, j10, rfl⟩
  clear G
  cases t5 with
  | true => go_wp2; go_ret; exact Hfin.out _
  | false =>
  have O5_0 : Hid (b0 ∉ l5) := Lib.hid (fun h => by
    have h2 : (l5.any fun w => w == b0) = true := List.any_eq_true.2 ⟨b0, h, by simp⟩
    rw [O.out] at h2
    cases h2)
  clear O
  have hn0 : b0.length ≤ 60 := by rw [← N0.out]; exact h60_0
  have htl3 := textB_len l3 (fun x hx => (W3.out x hx).len)
  have htl4 := textB_len l4 (fun x hx => (W4.out x hx).len)
  have htl5 := textB_len l5 (fun x hx => (W5.out x hx).len)
  have hT3 := T3.out
  have hT4 := T4.out
  have hT5 := T5.out
  have g3 := gd_text R3.out C3.out (text_f (by omega) (fun x hx => (W3.out x hx).len))
  have g4 := gd_text R4.out C4.out (text_f (by omega) (fun x hx => (W4.out x hx).len))
  have g5 := gd_text R5.out C5.out (text_f (by omega) (fun x hx => (W5.out x hx).len))
  rw [← M3.out] at g3
  rw [← M4.out] at g4
  rw [← M5.out] at g5
  have hx : ∀ t : Bool, (mkS (35 :: ((if t then kwIfdef else kwIfndef) ++ [32])) ++ (mkS b0 ++ ⟨#[10]⟩ ++ mkS (textB l3) ++ ⟨#[10, 35, 101, 108, 115, 101, 10]⟩ ++ mkS (textB l4) ++ ⟨#[10, 35, 101, 110, 100, 105, 102, 10]⟩ ++ mkS (textB l5) ++ ⟨#[10]⟩) : ByteArray) = mkS (ifF t b0 l3 l4 l5) := fun t => by
    have e3 : (⟨#[10]⟩ : ByteArray) = mkS [10] := rfl
    have e4 : (⟨#[10, 35, 101, 108, 115, 101, 10]⟩ : ByteArray) = mkS [10, 35, 101, 108, 115, 101, 10] := rfl
    have e5 : (⟨#[10, 35, 101, 110, 100, 105, 102, 10]⟩ : ByteArray) = mkS [10, 35, 101, 110, 100, 105, 102, 10] := rfl
    rw [e3, e4, e5]
    simp only [mkS_app]
    congr 1
    simp [ifF, dirN, dirB, kwElse, kwEndif]
  have hlen : ∀ t, (ifF t b0 l3 l4 l5).length ≤ 5000 := fun t => by
    unfold ifF dirN dirB
    simp only [List.length_cons, List.length_append, List.length_nil]
    have : kwElse.length = 4 := rfl
    have : kwEndif.length = 5 := rfl
    have : (if t then kwIfdef else kwIfndef).length ≤ 6 := by cases t <;> decide
    omega
  have hasc : ∀ t, ascii (ifF t b0 l3 l4 l5) := fun t => by
    unfold ifF dirN dirB
    refine ascii_cons (by decide) (ascii_app (by cases t <;> (unfold ascii; decide)) (ascii_cons (by decide) (ascii_app X0.out.ascii (ascii_cons (by decide) (ascii_app (ascii_text W3.out) (ascii_cons (by decide) (ascii_cons (by decide) (ascii_app (by unfold ascii; decide) (ascii_cons (by decide) (ascii_app (ascii_text W4.out) (ascii_cons (by decide) (ascii_cons (by decide) (ascii_app (by unfold ascii; decide) (ascii_cons (by decide) (ascii_app (ascii_text W5.out) (ascii_cons (by decide) (by intro b h; cases h)))))))))))))))))
  have hwb : ∀ w ∈ [([49] : Bs)], WordL w := fun w hw => by simp at hw; subst hw; exact one_word
  obtain ⟨x3, hx3⟩ : ∃ x, x = mkS (textB l3) := ⟨_, rfl⟩
  obtain ⟨x4, hx4⟩ : ∃ x, x = mkS (textB l4) := ⟨_, rfl⟩
  obtain ⟨x5, hx5⟩ : ∃ x, x = mkS (textB l5) := ⟨_, rfl⟩
  have z3 : x3.size = (textB l3).length := by rw [hx3, mkS_size]
  have z4 : x4.size = (textB l4).length := by rw [hx4, mkS_size]
  have z5 : x5.size = (textB l5).length := by rw [hx5, mkS_size]
  rw [← hx3] at g3 hx
  rw [← hx4] at g4 hx
  rw [← hx5] at g5 hx
  obtain ⟨p3, hp3⟩ : ∃ p, p = (textB l3).length := ⟨_, rfl⟩
  obtain ⟨p4, hp4⟩ : ∃ p, p = (textB l4).length := ⟨_, rfl⟩
  obtain ⟨p5, hp5⟩ : ∃ p, p = (textB l5).length := ⟨_, rfl⟩
  rw [← hp3] at z3 htl3
  rw [← hp4] at z4 htl4
  rw [← hp5] at z5 htl5
  have hp3' : p3 ≤ 1300 := by omega
  have hp4' : p4 ≤ 1300 := by omega
  have hp5' : p5 ≤ 1300 := by omega
  have hm3 : m3 ≤ 20 := by have := M3.out; simp at this; omega
  have hm4 : m4 ≤ 20 := by have := M4.out; simp at this; omega
  have hm5 : m5 ≤ 20 := by have := M5.out; simp at this; omega
  have hk : ∀ w', Below w.heap.size w w' → Kd.C Kd.string w' A3 m3 (l3.map mkS) ∧ Kd.C Kd.string w' A4 m4 (l4.map mkS) ∧ Kd.C Kd.string w' A5 m5 (l5.map mkS) := fun w' hb =>
    ⟨by have := Kd.C_below R3.out hb; rwa [← M3.out] at this, by have := Kd.C_below R4.out hb; rwa [← M4.out] at this, by have := Kd.C_below R5.out hb; rwa [← M5.out] at this⟩
  have HK := Lib.hid hk
  have G3 := Lib.hid g3
  have G4 := Lib.hid g4
  have G5 := Lib.hid g5
  have HX := Lib.hid hx
  have HL := Lib.hid hlen
  have HA := Lib.hid hasc
  have HN := Lib.hid hn0
  have HT := Lib.hid (And.intro hT3 (And.intro hT4 hT5))
  have HWB := Lib.hid hwb
  clear hk g3 g4 g5 hx hlen hasc hx3 hx4 hx5 hp3 hp4 hp5 htl3 htl4 htl5 hT3 hT4 hT5 hn0 hwb
  rcases p1 with _ | _ <;> rcases p2 with _ | _
  · as_aux_lemma =>
    obtain ⟨T, fl, s', mac, mn, t1, t2, t3, t4, t5, t6⟩ := if_told (yExp (ifF true b0 l3 l4 l5)) rfl (mac0 := (fun _ => none)) (mn0 := 0) true X0.out HN.out (fun w hw => ⟨W3.out w hw, rfl⟩) (fun w hw => ⟨W4.out w hw, rfl⟩) (fun w hw => ⟨W5.out w hw, rfl⟩) HT.out.1 HT.out.2.1 HT.out.2.2
    have t4' : shown (fl.map Fd.kx) = l4 ++ l5 := by rw [t4]; simp
    have GS : Hid (∀ w' A n c, Below w.heap.size w w' → Kd.C Kd.string w' A n ((l4 ++ l5).map mkS) → n = ((l4 ++ l5).map mkS).length → n ≤ c → ∀ g, Files w' g 1 [(mainBs, mkS (ifF true b0 l3 l4 l5))] → ∀ gd, Calls Tryz.prog 17 #[.slice (some ⟨g, 0, none⟩) 1 1, .slice (some ⟨gd, 0, none⟩) 0 0, .slice A n c] w' (SQ w')) := Lib.hid (fun w' A n c hb hC hn hnc g hr gd =>
      shows_gen (l := []) hr (by simp) (by simp) (by simp [tab]) t1 (HA.out _) (by have := HL.out true; omega) (fun w1 h1 => predefine_none) t2 t3 (by omega) t6 (by rw [t4']; exact hC) (by rw [t4']; exact hn) hnc (Hg.out.only (Only.ofBelow hb) (fun k hk e => by omega)) (Nat.le_trans hB hb.size))
    have hX := HX.out true
    rw [show (mkS (35 :: ((if (true : Bool) then kwIfdef else kwIfndef) ++ [32])) : ByteArray) = ⟨#[35, 105, 102, 100, 101, 102, 32]⟩ from rfl] at hX
    have HXX := Lib.hid hX
    clear hX t1 t2 t3 t4 t5 t6 t4'
    go_wp2_with fail
    refine (G3.out _).mono ?_
    rintro e v3 ⟨rfl, i3, rfl⟩
    go_wp2_with fail
    refine (G4.out _).mono ?_
    rintro e v4 ⟨rfl, i4, rfl⟩
    go_wp2_with fail
    refine (G5.out _).mono ?_
    rintro e v5 ⟨rfl, i5, rfl⟩
    go_wp2_with fail
    rw [HXX.out]
    refine fileOf_any.mono ?_
    rintro e w9 ⟨rfl, rfl⟩
    have hb2 : Below w.heap.size w ((w.drewN i5).alloc (.cells #[] 9)) := ((below_drewN (Below.refl w.heap.size w) i5).alloc (Nat.le_refl _) (.cells #[] 9))
    generalize hw2 : ((w.drewN i5).alloc (.cells #[] 9)) = w2 at hb2 ⊢
    have hfil := files_one w2 (ifF true b0 l3 l4 l5)
    have hbe : Below w.heap.size w (w2.alloc (.cells #[.string mainName, .string (mkS (ifF true b0 l3 l4 l5))] 49)) := hb2.alloc hb2.size _
    have hsz9 : (w2.alloc (.cells #[.string mainName, .string (mkS (ifF true b0 l3 l4 l5))] 49)).heap.size = w2.heap.size + 1 := by simp
    have Hfil := Lib.hid hfil
    have Hbe := Lib.hid hbe
    have Hsz9 := Lib.hid hsz9
    clear hfil hbe hsz9 hb2
    generalize w2.alloc (.cells #[.string mainName, .string (mkS (ifF true b0 l3 l4 l5))] 49) = w9 at Hfil Hbe Hsz9 ⊢
    go_wp2_with (at_builtin; refine wpList_append_kd rfl _ _ rfl w9.heap.size _ A4 m4 c4 rfl rfl 0 [] (l4.map mkS) ?d1 ?d2 ?d3 ?d4 ?d5 ?d6 ?_)
    case d1 => exact ⟨rfl, .inr ⟨w9.heap.size, 0, _, rfl, Nat.le_refl _, heap_alloc_new w9 _, Nat.le_refl _, by unfold maxLen; omega, rfl, rfl⟩⟩
    case d2 => exact (HK.out _ (Hbe.out.alloc Hbe.out.size _)).2.1
    case d3 => exact M4.out
    case d4 => exact q4
    case d5 => omega
    case d6 => simp
    intro v' w10 hown hgrow
    obtain ⟨a10, c10, rfl⟩ : ∃ a c, v' = .slice a m4 c := by
      obtain ⟨_, ⟨e, h0⟩ | ⟨g, cap, cur, e, _⟩⟩ := hown
      · exact ⟨none, 0, by rw [e]; congr 1; omega⟩
      · exact ⟨_, cap, by simpa using e⟩
    have hb9 : Below w9.heap.size w9 w10 := ((Below.refl _ _).alloc (Nat.le_refl _) _).trans ⟨hgrow.os, hgrow.tape, hgrow.output, hgrow.size, fun k hk => hgrow.block k (by simp; omega) (fun e => by simp [Value.ownBlock] at e; omega)⟩
    have hrow10 : w10.ownsRow w9.heap.size 9 1 (.slice a10 m4 c10) m4 ((l4.map mkS).map Value.string) := by simpa using hown
    have Hb9 := Lib.hid hb9
    have Hrow10 := Lib.hid hrow10
    clear hown hgrow hb9 hrow10
    go_wp2_with (at_builtin; refine wpList_append_kd rfl _ _ rfl w9.heap.size _ A5 m5 c5 rfl rfl m4 ((l4.map mkS).map Value.string) (l5.map mkS) ?d1 ?d2 ?d3 ?d4 ?d5 ?d6 ?_)
    case d1 => exact Hrow10.out
    case d2 => exact (HK.out _ (Hbe.out.trans (Hb9.out.mono Hbe.out.size))).2.2
    case d3 => exact M5.out
    case d4 => exact q5
    case d5 => omega
    case d6 => exact Hb9.out.size
    intro v' w12 hown hgrow
    obtain ⟨a12, c12, rfl⟩ : ∃ a c, v' = .slice a (m4 + m5) c := by
      obtain ⟨_, ⟨e, h0⟩ | ⟨g, cap, cur, e, _⟩⟩ := hown
      · exact ⟨none, 0, by rw [e, h0]⟩
      · exact ⟨_, cap, e⟩
    have hlen12 : ((l4 ++ l5).map mkS).length = m4 + m5 := by rw [List.map_append, List.length_append, ← M4.out, ← M5.out]
    have hkd := kd_strs (b := w9.heap.size) (l := (l4 ++ l5).map mkS) (a := a12) (n := m4 + m5) (c := c12) (w := w12) (by rw [hlen12, List.map_append, List.map_append]; simpa using hown)
    have ho12 := (Only.refl (fun q => (Value.slice a10 m4 c10).ownBlock = some q) w10).grown hgrow (fun k hk _ => hk)
    have hb912 : Below w9.heap.size w9 w12 := Hb9.out.trans (ho12.below Hb9.out.size (fun k hk e => by have := (ownBlock_row Hrow10.out k e).1; omega))
    have hf12 : Files w12 w2.heap.size 1 [(mainBs, mkS (ifF true b0 l3 l4 l5))] := ownsRow_only Hfil.out (fun k hk => hb912.block k (ownBlock_row Hfil.out k hk).2.lt)
    have hb12 : Below w.heap.size w w12 := Hbe.out.trans (hb912.mono Hbe.out.size)
    have HGS := Lib.hid (GS.out w12 a12 (m4 + m5) c12 hb12 (by have := hkd.2.2; rwa [hlen12] at this) hlen12.symm (by have := hkd.2.1; omega) _ hf12)
    have Hb12 := Lib.hid hb12
    clear hown hgrow hlen12 hkd ho12 hb912 hf12 hb12 GS
    go_wp2_with fail
    refine (HGS.out _).mono ?_
    rintro e w13 ⟨rfl, hb13⟩
    have Hend : Hid (LawQ w (.returned (.bool true)) w13) := Lib.hid ⟨rfl, Hb12.out.trans (hb13.mono Hb12.out.size)⟩
    clear hb13
    go_wp2
    go_ret
    exact Hend.out
  · as_aux_lemma =>
    obtain ⟨T, fl, s', mac, mn, t1, t2, t3, t4, t5, t6⟩ := if_told (yExp (ifF false b0 l3 l4 l5)) rfl (mac0 := (fun _ => none)) (mn0 := 0) false X0.out HN.out (fun w hw => ⟨W3.out w hw, rfl⟩) (fun w hw => ⟨W4.out w hw, rfl⟩) (fun w hw => ⟨W5.out w hw, rfl⟩) HT.out.1 HT.out.2.1 HT.out.2.2
    have t4' : shown (fl.map Fd.kx) = l3 ++ l5 := by rw [t4]; simp
    have GS : Hid (∀ w' A n c, Below w.heap.size w w' → Kd.C Kd.string w' A n ((l3 ++ l5).map mkS) → n = ((l3 ++ l5).map mkS).length → n ≤ c → ∀ g, Files w' g 1 [(mainBs, mkS (ifF false b0 l3 l4 l5))] → ∀ gd, Calls Tryz.prog 17 #[.slice (some ⟨g, 0, none⟩) 1 1, .slice (some ⟨gd, 0, none⟩) 0 0, .slice A n c] w' (SQ w')) := Lib.hid (fun w' A n c hb hC hn hnc g hr gd =>
      shows_gen (l := []) hr (by simp) (by simp) (by simp [tab]) t1 (HA.out _) (by have := HL.out false; omega) (fun w1 h1 => predefine_none) t2 t3 (by omega) t6 (by rw [t4']; exact hC) (by rw [t4']; exact hn) hnc (Hg.out.only (Only.ofBelow hb) (fun k hk e => by omega)) (Nat.le_trans hB hb.size))
    have hX := HX.out false
    rw [show (mkS (35 :: ((if (false : Bool) then kwIfdef else kwIfndef) ++ [32])) : ByteArray) = ⟨#[35, 105, 102, 110, 100, 101, 102, 32]⟩ from rfl] at hX
    have HXX := Lib.hid hX
    clear hX t1 t2 t3 t4 t5 t6 t4'
    go_wp2_with fail
    refine (G3.out _).mono ?_
    rintro e v3 ⟨rfl, i3, rfl⟩
    go_wp2_with fail
    refine (G4.out _).mono ?_
    rintro e v4 ⟨rfl, i4, rfl⟩
    go_wp2_with fail
    refine (G5.out _).mono ?_
    rintro e v5 ⟨rfl, i5, rfl⟩
    go_wp2_with fail
    rw [HXX.out]
    refine fileOf_any.mono ?_
    rintro e w9 ⟨rfl, rfl⟩
    have hb2 : Below w.heap.size w ((w.drewN i5).alloc (.cells #[] 9)) := ((below_drewN (Below.refl w.heap.size w) i5).alloc (Nat.le_refl _) (.cells #[] 9))
    generalize hw2 : ((w.drewN i5).alloc (.cells #[] 9)) = w2 at hb2 ⊢
    have hfil := files_one w2 (ifF false b0 l3 l4 l5)
    have hbe : Below w.heap.size w (w2.alloc (.cells #[.string mainName, .string (mkS (ifF false b0 l3 l4 l5))] 49)) := hb2.alloc hb2.size _
    have hsz9 : (w2.alloc (.cells #[.string mainName, .string (mkS (ifF false b0 l3 l4 l5))] 49)).heap.size = w2.heap.size + 1 := by simp
    have Hfil := Lib.hid hfil
    have Hbe := Lib.hid hbe
    have Hsz9 := Lib.hid hsz9
    clear hfil hbe hsz9 hb2
    generalize w2.alloc (.cells #[.string mainName, .string (mkS (ifF false b0 l3 l4 l5))] 49) = w9 at Hfil Hbe Hsz9 ⊢
    go_wp2_with (at_builtin; refine wpList_append_kd rfl _ _ rfl w9.heap.size _ A3 m3 c3 rfl rfl 0 [] (l3.map mkS) ?d1 ?d2 ?d3 ?d4 ?d5 ?d6 ?_)
    case d1 => exact ⟨rfl, .inr ⟨w9.heap.size, 0, _, rfl, Nat.le_refl _, heap_alloc_new w9 _, Nat.le_refl _, by unfold maxLen; omega, rfl, rfl⟩⟩
    case d2 => exact (HK.out _ (Hbe.out.alloc Hbe.out.size _)).1
    case d3 => exact M3.out
    case d4 => exact q3
    case d5 => omega
    case d6 => simp
    intro v' w10 hown hgrow
    obtain ⟨a10, c10, rfl⟩ : ∃ a c, v' = .slice a m3 c := by
      obtain ⟨_, ⟨e, h0⟩ | ⟨g, cap, cur, e, _⟩⟩ := hown
      · exact ⟨none, 0, by rw [e]; congr 1; omega⟩
      · exact ⟨_, cap, by simpa using e⟩
    have hb9 : Below w9.heap.size w9 w10 := ((Below.refl _ _).alloc (Nat.le_refl _) _).trans ⟨hgrow.os, hgrow.tape, hgrow.output, hgrow.size, fun k hk => hgrow.block k (by simp; omega) (fun e => by simp [Value.ownBlock] at e; omega)⟩
    have hrow10 : w10.ownsRow w9.heap.size 9 1 (.slice a10 m3 c10) m3 ((l3.map mkS).map Value.string) := by simpa using hown
    have Hb9 := Lib.hid hb9
    have Hrow10 := Lib.hid hrow10
    clear hown hgrow hb9 hrow10
    go_wp2_with (at_builtin; refine wpList_append_kd rfl _ _ rfl w9.heap.size _ A5 m5 c5 rfl rfl m3 ((l3.map mkS).map Value.string) (l5.map mkS) ?d1 ?d2 ?d3 ?d4 ?d5 ?d6 ?_)
    case d1 => exact Hrow10.out
    case d2 => exact (HK.out _ (Hbe.out.trans (Hb9.out.mono Hbe.out.size))).2.2
    case d3 => exact M5.out
    case d4 => exact q5
    case d5 => omega
    case d6 => exact Hb9.out.size
    intro v' w12 hown hgrow
    obtain ⟨a12, c12, rfl⟩ : ∃ a c, v' = .slice a (m3 + m5) c := by
      obtain ⟨_, ⟨e, h0⟩ | ⟨g, cap, cur, e, _⟩⟩ := hown
      · exact ⟨none, 0, by rw [e, h0]⟩
      · exact ⟨_, cap, e⟩
    have hlen12 : ((l3 ++ l5).map mkS).length = m3 + m5 := by rw [List.map_append, List.length_append, ← M3.out, ← M5.out]
    have hkd := kd_strs (b := w9.heap.size) (l := (l3 ++ l5).map mkS) (a := a12) (n := m3 + m5) (c := c12) (w := w12) (by rw [hlen12, List.map_append, List.map_append]; simpa using hown)
    have ho12 := (Only.refl (fun q => (Value.slice a10 m3 c10).ownBlock = some q) w10).grown hgrow (fun k hk _ => hk)
    have hb912 : Below w9.heap.size w9 w12 := Hb9.out.trans (ho12.below Hb9.out.size (fun k hk e => by have := (ownBlock_row Hrow10.out k e).1; omega))
    have hf12 : Files w12 w2.heap.size 1 [(mainBs, mkS (ifF false b0 l3 l4 l5))] := ownsRow_only Hfil.out (fun k hk => hb912.block k (ownBlock_row Hfil.out k hk).2.lt)
    have hb12 : Below w.heap.size w w12 := Hbe.out.trans (hb912.mono Hbe.out.size)
    have HGS := Lib.hid (GS.out w12 a12 (m3 + m5) c12 hb12 (by have := hkd.2.2; rwa [hlen12] at this) hlen12.symm (by have := hkd.2.1; omega) _ hf12)
    have Hb12 := Lib.hid hb12
    clear hown hgrow hlen12 hkd ho12 hb912 hf12 hb12 GS
    go_wp2_with fail
    refine (HGS.out _).mono ?_
    rintro e w13 ⟨rfl, hb13⟩
    have Hend : Hid (LawQ w (.returned (.bool true)) w13) := Lib.hid ⟨rfl, Hb12.out.trans (hb13.mono Hb12.out.size)⟩
    clear hb13
    go_wp2
    go_ret
    exact Hend.out
  · as_aux_lemma =>
    obtain ⟨T, fl, s', mac, mn, t1, t2, t3, t4, t5, t6⟩ := if_told (yExp (ifF true b0 l3 l4 l5)) rfl (mac0 := (macOne b0 [[49]])) (mn0 := 1) true X0.out HN.out (fun w hw => ⟨W3.out w hw, by have : w ≠ b0 := fun e => O3_0.out (e ▸ hw); simp [macOne, this]⟩) (fun w hw => ⟨W4.out w hw, by have : w ≠ b0 := fun e => O4_0.out (e ▸ hw); simp [macOne, this]⟩) (fun w hw => ⟨W5.out w hw, by have : w ≠ b0 := fun e => O5_0.out (e ▸ hw); simp [macOne, this]⟩) HT.out.1 HT.out.2.1 HT.out.2.2
    have t4' : shown (fl.map Fd.kx) = l3 ++ l5 := by rw [t4]; simp [macOne]
    obtain ⟨nt, n1, n2⟩ := (pc_alone X0.out HN.out).tl 1 1
    have hpv : Pc [49] ([([49] : Bs)].map tokW) := by simpa [lstB] using pc_lst [[49]] (by simp) HWB.out [] (by intro b h; cases h)
    obtain ⟨vt, v1, v2⟩ := hpv.tl 1 1
    have hvl : vt.length ≤ 1000 := by have := congrArg List.length v2; simp at this; omega
    have hpre : ∀ w1 gd dc, Strs w1 (.slice (some ⟨gd, 0, none⟩) 1 dc) [mkS (b0 ++ 61 :: [49])] → Below w.heap.size w w1 → Calls Tryz.prog 52 #[.slice (some ⟨gd, 0, none⟩) 1 dc] w1 (PreG 1 (macOne b0 [[49]]) w1) := fun w1 gd dc hs hb =>
      predefine_eq hs (name_no61 X0.out) (by rintro rfl; obtain ⟨_, _, e, _⟩ := X0.out; cases e) HN.out (by simp) X0.out.ascii (by intro b h; simp at h; subst h; decide) n1 n2 v1 v2 (tok_words HWB.out v2) hvl (Hg.out.only (Only.ofBelow hb) (fun k hk e => by omega)) (Nat.le_trans hB hb.size)
    have GS : Hid (∀ w' A n c, Below w.heap.size w w' → Kd.C Kd.string w' A n ((l3 ++ l5).map mkS) → n = ((l3 ++ l5).map mkS).length → n ≤ c → ∀ g, Files w' g 1 [(mainBs, mkS (ifF true b0 l3 l4 l5))] → ∀ gd, Strs w' (.slice (some ⟨gd, 0, none⟩) 1 1) [mkS (b0 ++ 61 :: [49])] → Calls Tryz.prog 17 #[.slice (some ⟨g, 0, none⟩) 1 1, .slice (some ⟨gd, 0, none⟩) 1 1, .slice A n c] w' (SQ w')) := Lib.hid (fun w' A n c hb hC hn hnc g hr gd hd =>
      shows_gen (l := []) hr (by simp) (by simp) (by simp [tab]) t1 (HA.out _) (by have := HL.out true; omega) (fun w1 h1 => hpre w1 gd 1 (ownsRow_only hd (fun k hk => h1.block k (ownBlock_row hd k hk).2.lt)) (hb.trans (h1.mono hb.size))) t2 t3 (by omega) t6 (by rw [t4']; exact hC) (by rw [t4']; exact hn) hnc (Hg.out.only (Only.ofBelow hb) (fun k hk e => by omega)) (Nat.le_trans hB hb.size))
    have hX := HX.out true
    rw [show (mkS (35 :: ((if (true : Bool) then kwIfdef else kwIfndef) ++ [32])) : ByteArray) = ⟨#[35, 105, 102, 100, 101, 102, 32]⟩ from rfl] at hX
    have HXX := Lib.hid hX
    clear hX t1 t2 t3 t4 t5 t6 t4' nt n1 n2 hpv v1 v2 hvl hpre
    go_wp2_with fail
    refine (G3.out _).mono ?_
    rintro e v3 ⟨rfl, i3, rfl⟩
    go_wp2_with fail
    refine (G4.out _).mono ?_
    rintro e v4 ⟨rfl, i4, rfl⟩
    go_wp2_with fail
    refine (G5.out _).mono ?_
    rintro e v5 ⟨rfl, i5, rfl⟩
    have hd61 : mkS b0 ++ ⟨#[61, 49]⟩ = mkS (b0 ++ 61 :: [49]) := by
      rw [show (⟨#[61, 49]⟩ : ByteArray) = mkS [61, 49] from rfl, mkS_app]
    go_wp2_with fail
    rw [HXX.out]
    refine fileOf_any.mono ?_
    rintro e w9 ⟨rfl, rfl⟩
    have hb2 : Below w.heap.size w (((w.drewN i5).alloc (.cells #[] 9)).alloc (.cells #[.string (mkS (b0 ++ 61 :: [49]))] 9)) := (((below_drewN (Below.refl w.heap.size w) i5).alloc (Nat.le_refl _) (.cells #[] 9))).alloc ((below_drewN (Below.refl w.heap.size w) i5).alloc (Nat.le_refl _) (.cells #[] 9)).size _
    have hd2 : Strs (((w.drewN i5).alloc (.cells #[] 9)).alloc (.cells #[.string (mkS (b0 ++ 61 :: [49]))] 9)) (.slice (some ⟨((w.drewN i5).alloc (.cells #[] 9)).heap.size, 0, none⟩) 1 1) [mkS (b0 ++ 61 :: [49])] := row_zero (row_one ((w.drewN i5).alloc (.cells #[] 9)) 9 (.string (mkS (b0 ++ 61 :: [49]))))
    generalize hw2 : (((w.drewN i5).alloc (.cells #[] 9)).alloc (.cells #[.string (mkS (b0 ++ 61 :: [49]))] 9)) = w2 at hb2 hd2 ⊢
    have hfil := files_one w2 (ifF true b0 l3 l4 l5)
    have hbe : Below w.heap.size w (w2.alloc (.cells #[.string mainName, .string (mkS (ifF true b0 l3 l4 l5))] 49)) := hb2.alloc hb2.size _
    have hsz9 : (w2.alloc (.cells #[.string mainName, .string (mkS (ifF true b0 l3 l4 l5))] 49)).heap.size = w2.heap.size + 1 := by simp
    have hd9 : Strs (w2.alloc (.cells #[.string mainName, .string (mkS (ifF true b0 l3 l4 l5))] 49)) (.slice (some ⟨((w.drewN i5).alloc (.cells #[] 9)).heap.size, 0, none⟩) 1 1) [mkS (b0 ++ 61 :: [49])] := ownsRow_only hd2 (fun k hk => Below.heap_alloc w2 _ k (ownBlock_row hd2 k hk).2.lt)
    have Hd9 := Lib.hid hd9
    have Hfil := Lib.hid hfil
    have Hbe := Lib.hid hbe
    have Hsz9 := Lib.hid hsz9
    clear hfil hbe hsz9 hb2 hd2 hd9
    generalize w2.alloc (.cells #[.string mainName, .string (mkS (ifF true b0 l3 l4 l5))] 49) = w9 at Hfil Hbe Hsz9 Hd9 ⊢
    go_wp2_with (at_builtin; refine wpList_append_kd rfl _ _ rfl w9.heap.size _ A3 m3 c3 rfl rfl 0 [] (l3.map mkS) ?d1 ?d2 ?d3 ?d4 ?d5 ?d6 ?_)
    case d1 => exact ⟨rfl, .inr ⟨w9.heap.size, 0, _, rfl, Nat.le_refl _, heap_alloc_new w9 _, Nat.le_refl _, by unfold maxLen; omega, rfl, rfl⟩⟩
    case d2 => exact (HK.out _ (Hbe.out.alloc Hbe.out.size _)).1
    case d3 => exact M3.out
    case d4 => exact q3
    case d5 => omega
    case d6 => simp
    intro v' w10 hown hgrow
    obtain ⟨a10, c10, rfl⟩ : ∃ a c, v' = .slice a m3 c := by
      obtain ⟨_, ⟨e, h0⟩ | ⟨g, cap, cur, e, _⟩⟩ := hown
      · exact ⟨none, 0, by rw [e]; congr 1; omega⟩
      · exact ⟨_, cap, by simpa using e⟩
    have hb9 : Below w9.heap.size w9 w10 := ((Below.refl _ _).alloc (Nat.le_refl _) _).trans ⟨hgrow.os, hgrow.tape, hgrow.output, hgrow.size, fun k hk => hgrow.block k (by simp; omega) (fun e => by simp [Value.ownBlock] at e; omega)⟩
    have hrow10 : w10.ownsRow w9.heap.size 9 1 (.slice a10 m3 c10) m3 ((l3.map mkS).map Value.string) := by simpa using hown
    have Hb9 := Lib.hid hb9
    have Hrow10 := Lib.hid hrow10
    clear hown hgrow hb9 hrow10
    go_wp2_with (at_builtin; refine wpList_append_kd rfl _ _ rfl w9.heap.size _ A5 m5 c5 rfl rfl m3 ((l3.map mkS).map Value.string) (l5.map mkS) ?d1 ?d2 ?d3 ?d4 ?d5 ?d6 ?_)
    case d1 => exact Hrow10.out
    case d2 => exact (HK.out _ (Hbe.out.trans (Hb9.out.mono Hbe.out.size))).2.2
    case d3 => exact M5.out
    case d4 => exact q5
    case d5 => omega
    case d6 => exact Hb9.out.size
    intro v' w12 hown hgrow
    obtain ⟨a12, c12, rfl⟩ : ∃ a c, v' = .slice a (m3 + m5) c := by
      obtain ⟨_, ⟨e, h0⟩ | ⟨g, cap, cur, e, _⟩⟩ := hown
      · exact ⟨none, 0, by rw [e, h0]⟩
      · exact ⟨_, cap, e⟩
    have hlen12 : ((l3 ++ l5).map mkS).length = m3 + m5 := by rw [List.map_append, List.length_append, ← M3.out, ← M5.out]
    have hkd := kd_strs (b := w9.heap.size) (l := (l3 ++ l5).map mkS) (a := a12) (n := m3 + m5) (c := c12) (w := w12) (by rw [hlen12, List.map_append, List.map_append]; simpa using hown)
    have ho12 := (Only.refl (fun q => (Value.slice a10 m3 c10).ownBlock = some q) w10).grown hgrow (fun k hk _ => hk)
    have hb912 : Below w9.heap.size w9 w12 := Hb9.out.trans (ho12.below Hb9.out.size (fun k hk e => by have := (ownBlock_row Hrow10.out k e).1; omega))
    have hf12 : Files w12 w2.heap.size 1 [(mainBs, mkS (ifF true b0 l3 l4 l5))] := ownsRow_only Hfil.out (fun k hk => hb912.block k (ownBlock_row Hfil.out k hk).2.lt)
    have hd12 : Strs w12 (.slice (some ⟨w.heap.size + 1, 0, none⟩) 1 1) [mkS (b0 ++ 61 :: [49])] := by
      have h : Strs w12 (.slice (some ⟨((w.drewN i5).alloc (.cells #[] 9)).heap.size, 0, none⟩) 1 1) [mkS (b0 ++ 61 :: [49])] := ownsRow_only Hd9.out (fun k hk => hb912.block k (ownBlock_row Hd9.out k hk).2.lt)
      rwa [show ((w.drewN i5).alloc (.cells #[] 9)).heap.size = w.heap.size + 1 by simp] at h
    have hb12 : Below w.heap.size w w12 := Hbe.out.trans (hb912.mono Hbe.out.size)
    have HGS := Lib.hid (GS.out w12 a12 (m3 + m5) c12 hb12 (by have := hkd.2.2; rwa [hlen12] at this) hlen12.symm (by have := hkd.2.1; omega) _ hf12 _ hd12)
    have Hb12 := Lib.hid hb12
    clear hown hgrow hlen12 hkd ho12 hb912 hf12 hb12 GS hd12
    go_wp2_with fail
    refine HGS.out.mono ?_
    rintro e w13 ⟨rfl, hb13⟩
    have Hend : Hid (LawQ w (.returned (.bool true)) w13) := Lib.hid ⟨rfl, Hb12.out.trans (hb13.mono Hb12.out.size)⟩
    clear hb13
    go_wp2
    go_ret
    exact Hend.out
  · as_aux_lemma =>
    obtain ⟨T, fl, s', mac, mn, t1, t2, t3, t4, t5, t6⟩ := if_told (yExp (ifF false b0 l3 l4 l5)) rfl (mac0 := (macOne b0 [[49]])) (mn0 := 1) false X0.out HN.out (fun w hw => ⟨W3.out w hw, by have : w ≠ b0 := fun e => O3_0.out (e ▸ hw); simp [macOne, this]⟩) (fun w hw => ⟨W4.out w hw, by have : w ≠ b0 := fun e => O4_0.out (e ▸ hw); simp [macOne, this]⟩) (fun w hw => ⟨W5.out w hw, by have : w ≠ b0 := fun e => O5_0.out (e ▸ hw); simp [macOne, this]⟩) HT.out.1 HT.out.2.1 HT.out.2.2
    have t4' : shown (fl.map Fd.kx) = l4 ++ l5 := by rw [t4]; simp [macOne]
    obtain ⟨nt, n1, n2⟩ := (pc_alone X0.out HN.out).tl 1 1
    have hpv : Pc [49] ([([49] : Bs)].map tokW) := by simpa [lstB] using pc_lst [[49]] (by simp) HWB.out [] (by intro b h; cases h)
    obtain ⟨vt, v1, v2⟩ := hpv.tl 1 1
    have hvl : vt.length ≤ 1000 := by have := congrArg List.length v2; simp at this; omega
    have hpre : ∀ w1 gd dc, Strs w1 (.slice (some ⟨gd, 0, none⟩) 1 dc) [mkS (b0 ++ 61 :: [49])] → Below w.heap.size w w1 → Calls Tryz.prog 52 #[.slice (some ⟨gd, 0, none⟩) 1 dc] w1 (PreG 1 (macOne b0 [[49]]) w1) := fun w1 gd dc hs hb =>
      predefine_eq hs (name_no61 X0.out) (by rintro rfl; obtain ⟨_, _, e, _⟩ := X0.out; cases e) HN.out (by simp) X0.out.ascii (by intro b h; simp at h; subst h; decide) n1 n2 v1 v2 (tok_words HWB.out v2) hvl (Hg.out.only (Only.ofBelow hb) (fun k hk e => by omega)) (Nat.le_trans hB hb.size)
    have GS : Hid (∀ w' A n c, Below w.heap.size w w' → Kd.C Kd.string w' A n ((l4 ++ l5).map mkS) → n = ((l4 ++ l5).map mkS).length → n ≤ c → ∀ g, Files w' g 1 [(mainBs, mkS (ifF false b0 l3 l4 l5))] → ∀ gd, Strs w' (.slice (some ⟨gd, 0, none⟩) 1 1) [mkS (b0 ++ 61 :: [49])] → Calls Tryz.prog 17 #[.slice (some ⟨g, 0, none⟩) 1 1, .slice (some ⟨gd, 0, none⟩) 1 1, .slice A n c] w' (SQ w')) := Lib.hid (fun w' A n c hb hC hn hnc g hr gd hd =>
      shows_gen (l := []) hr (by simp) (by simp) (by simp [tab]) t1 (HA.out _) (by have := HL.out false; omega) (fun w1 h1 => hpre w1 gd 1 (ownsRow_only hd (fun k hk => h1.block k (ownBlock_row hd k hk).2.lt)) (hb.trans (h1.mono hb.size))) t2 t3 (by omega) t6 (by rw [t4']; exact hC) (by rw [t4']; exact hn) hnc (Hg.out.only (Only.ofBelow hb) (fun k hk e => by omega)) (Nat.le_trans hB hb.size))
    have hX := HX.out false
    rw [show (mkS (35 :: ((if (false : Bool) then kwIfdef else kwIfndef) ++ [32])) : ByteArray) = ⟨#[35, 105, 102, 110, 100, 101, 102, 32]⟩ from rfl] at hX
    have HXX := Lib.hid hX
    clear hX t1 t2 t3 t4 t5 t6 t4' nt n1 n2 hpv v1 v2 hvl hpre
    go_wp2_with fail
    refine (G3.out _).mono ?_
    rintro e v3 ⟨rfl, i3, rfl⟩
    go_wp2_with fail
    refine (G4.out _).mono ?_
    rintro e v4 ⟨rfl, i4, rfl⟩
    go_wp2_with fail
    refine (G5.out _).mono ?_
    rintro e v5 ⟨rfl, i5, rfl⟩
    have hd61 : mkS b0 ++ ⟨#[61, 49]⟩ = mkS (b0 ++ 61 :: [49]) := by
      rw [show (⟨#[61, 49]⟩ : ByteArray) = mkS [61, 49] from rfl, mkS_app]
    go_wp2_with fail
    rw [HXX.out]
    refine fileOf_any.mono ?_
    rintro e w9 ⟨rfl, rfl⟩
    have hb2 : Below w.heap.size w (((w.drewN i5).alloc (.cells #[] 9)).alloc (.cells #[.string (mkS (b0 ++ 61 :: [49]))] 9)) := (((below_drewN (Below.refl w.heap.size w) i5).alloc (Nat.le_refl _) (.cells #[] 9))).alloc ((below_drewN (Below.refl w.heap.size w) i5).alloc (Nat.le_refl _) (.cells #[] 9)).size _
    have hd2 : Strs (((w.drewN i5).alloc (.cells #[] 9)).alloc (.cells #[.string (mkS (b0 ++ 61 :: [49]))] 9)) (.slice (some ⟨((w.drewN i5).alloc (.cells #[] 9)).heap.size, 0, none⟩) 1 1) [mkS (b0 ++ 61 :: [49])] := row_zero (row_one ((w.drewN i5).alloc (.cells #[] 9)) 9 (.string (mkS (b0 ++ 61 :: [49]))))
    generalize hw2 : (((w.drewN i5).alloc (.cells #[] 9)).alloc (.cells #[.string (mkS (b0 ++ 61 :: [49]))] 9)) = w2 at hb2 hd2 ⊢
    have hfil := files_one w2 (ifF false b0 l3 l4 l5)
    have hbe : Below w.heap.size w (w2.alloc (.cells #[.string mainName, .string (mkS (ifF false b0 l3 l4 l5))] 49)) := hb2.alloc hb2.size _
    have hsz9 : (w2.alloc (.cells #[.string mainName, .string (mkS (ifF false b0 l3 l4 l5))] 49)).heap.size = w2.heap.size + 1 := by simp
    have hd9 : Strs (w2.alloc (.cells #[.string mainName, .string (mkS (ifF false b0 l3 l4 l5))] 49)) (.slice (some ⟨((w.drewN i5).alloc (.cells #[] 9)).heap.size, 0, none⟩) 1 1) [mkS (b0 ++ 61 :: [49])] := ownsRow_only hd2 (fun k hk => Below.heap_alloc w2 _ k (ownBlock_row hd2 k hk).2.lt)
    have Hd9 := Lib.hid hd9
    have Hfil := Lib.hid hfil
    have Hbe := Lib.hid hbe
    have Hsz9 := Lib.hid hsz9
    clear hfil hbe hsz9 hb2 hd2 hd9
    generalize w2.alloc (.cells #[.string mainName, .string (mkS (ifF false b0 l3 l4 l5))] 49) = w9 at Hfil Hbe Hsz9 Hd9 ⊢
    go_wp2_with (at_builtin; refine wpList_append_kd rfl _ _ rfl w9.heap.size _ A4 m4 c4 rfl rfl 0 [] (l4.map mkS) ?d1 ?d2 ?d3 ?d4 ?d5 ?d6 ?_)
    case d1 => exact ⟨rfl, .inr ⟨w9.heap.size, 0, _, rfl, Nat.le_refl _, heap_alloc_new w9 _, Nat.le_refl _, by unfold maxLen; omega, rfl, rfl⟩⟩
    case d2 => exact (HK.out _ (Hbe.out.alloc Hbe.out.size _)).2.1
    case d3 => exact M4.out
    case d4 => exact q4
    case d5 => omega
    case d6 => simp
    intro v' w10 hown hgrow
    obtain ⟨a10, c10, rfl⟩ : ∃ a c, v' = .slice a m4 c := by
      obtain ⟨_, ⟨e, h0⟩ | ⟨g, cap, cur, e, _⟩⟩ := hown
      · exact ⟨none, 0, by rw [e]; congr 1; omega⟩
      · exact ⟨_, cap, by simpa using e⟩
    have hb9 : Below w9.heap.size w9 w10 := ((Below.refl _ _).alloc (Nat.le_refl _) _).trans ⟨hgrow.os, hgrow.tape, hgrow.output, hgrow.size, fun k hk => hgrow.block k (by simp; omega) (fun e => by simp [Value.ownBlock] at e; omega)⟩
    have hrow10 : w10.ownsRow w9.heap.size 9 1 (.slice a10 m4 c10) m4 ((l4.map mkS).map Value.string) := by simpa using hown
    have Hb9 := Lib.hid hb9
    have Hrow10 := Lib.hid hrow10
    clear hown hgrow hb9 hrow10
    go_wp2_with (at_builtin; refine wpList_append_kd rfl _ _ rfl w9.heap.size _ A5 m5 c5 rfl rfl m4 ((l4.map mkS).map Value.string) (l5.map mkS) ?d1 ?d2 ?d3 ?d4 ?d5 ?d6 ?_)
    case d1 => exact Hrow10.out
    case d2 => exact (HK.out _ (Hbe.out.trans (Hb9.out.mono Hbe.out.size))).2.2
    case d3 => exact M5.out
    case d4 => exact q5
    case d5 => omega
    case d6 => exact Hb9.out.size
    intro v' w12 hown hgrow
    obtain ⟨a12, c12, rfl⟩ : ∃ a c, v' = .slice a (m4 + m5) c := by
      obtain ⟨_, ⟨e, h0⟩ | ⟨g, cap, cur, e, _⟩⟩ := hown
      · exact ⟨none, 0, by rw [e, h0]⟩
      · exact ⟨_, cap, e⟩
    have hlen12 : ((l4 ++ l5).map mkS).length = m4 + m5 := by rw [List.map_append, List.length_append, ← M4.out, ← M5.out]
    have hkd := kd_strs (b := w9.heap.size) (l := (l4 ++ l5).map mkS) (a := a12) (n := m4 + m5) (c := c12) (w := w12) (by rw [hlen12, List.map_append, List.map_append]; simpa using hown)
    have ho12 := (Only.refl (fun q => (Value.slice a10 m4 c10).ownBlock = some q) w10).grown hgrow (fun k hk _ => hk)
    have hb912 : Below w9.heap.size w9 w12 := Hb9.out.trans (ho12.below Hb9.out.size (fun k hk e => by have := (ownBlock_row Hrow10.out k e).1; omega))
    have hf12 : Files w12 w2.heap.size 1 [(mainBs, mkS (ifF false b0 l3 l4 l5))] := ownsRow_only Hfil.out (fun k hk => hb912.block k (ownBlock_row Hfil.out k hk).2.lt)
    have hd12 : Strs w12 (.slice (some ⟨w.heap.size + 1, 0, none⟩) 1 1) [mkS (b0 ++ 61 :: [49])] := by
      have h : Strs w12 (.slice (some ⟨((w.drewN i5).alloc (.cells #[] 9)).heap.size, 0, none⟩) 1 1) [mkS (b0 ++ 61 :: [49])] := ownsRow_only Hd9.out (fun k hk => hb912.block k (ownBlock_row Hd9.out k hk).2.lt)
      rwa [show ((w.drewN i5).alloc (.cells #[] 9)).heap.size = w.heap.size + 1 by simp] at h
    have hb12 : Below w.heap.size w w12 := Hbe.out.trans (hb912.mono Hbe.out.size)
    have HGS := Lib.hid (GS.out w12 a12 (m4 + m5) c12 hb12 (by have := hkd.2.2; rwa [hlen12] at this) hlen12.symm (by have := hkd.2.1; omega) _ hf12 _ hd12)
    have Hb12 := Lib.hid hb12
    clear hown hgrow hlen12 hkd ho12 hb912 hf12 hb12 GS hd12
    go_wp2_with fail
    refine HGS.out.mono ?_
    rintro e w13 ⟨rfl, hb13⟩
    have Hend : Hid (LawQ w (.returned (.bool true)) w13) := Lib.hid ⟨rfl, Hb12.out.trans (hb13.mono Hb12.out.size)⟩
    clear hb13
    go_wp2
    go_ret
    exact Hend.out
end
end Go.Proofs.YtmkehbjpnajilaaGreatDoor
