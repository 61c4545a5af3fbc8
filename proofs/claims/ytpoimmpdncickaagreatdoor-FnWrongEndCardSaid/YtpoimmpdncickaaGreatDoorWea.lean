/- The law FnWrongEnd's walk: it returns true. -/
import Derived.Test.YtpoimmpdncickaaGreatDoorJ12
/- The law FnWrongEnd returns true, whatever comes in. -/
namespace Go.Proofs.YtpoimmpdncickaaGreatDoor
open Go Go.RowKit Lex Go.Proofs.YtpoimmpdncickaaGreatDoorW.PrintWords Go.Proofs.YtpoimmpdncickaaGreatDoor.PHelp
set_option linter.unusedVariables false
set_option linter.unusedSimpArgs false

section
variable {w : World} {ev : Value} {i0 : Int} {b1 : Bs} {l2 : List Bs} {A2 : Option Addr} {c2 : Nat} {l3 : List Bs} {A3 : Option Addr} {c3 : Nat}
set_option maxRecDepth 100000 in
set_option maxHeartbeats 4000000 in
theorem wrongend_law (hi0 : IntKind.i64.wrap i0 = i0) (hr2 : Kd.C Kd.string w A2 (l2.map mkS).length (l2.map mkS)) (hc2 : (l2.map mkS).length ≤ c2) (hr3 : Kd.C Kd.string w A3 (l3.map mkS).length (l3.map mkS)) (hc3 : (l3.map mkS).length ≤ c3) (hg : Glob w ev) (hB : 21 ≤ w.heap.size) :
    Calls Tryz.prog 6 #[.int .i64 i0, .string (mkS b1), .slice A2 (l2.map mkS).length c2, .slice A3 (l3.map mkS).length c3] w (LawQ w) := by
  have Hfin := Lib.hid (lawq_drewN w)
  have Hg := Lib.hid hg
  have s1 := mkS_size b1
  obtain ⟨n1, e1⟩ : ∃ n, n = b1.length := ⟨_, rfl⟩
  rw [← e1] at s1
  have N1 := Lib.hid e1
  obtain ⟨m2, e2⟩ : ∃ m, m = (l2.map mkS).length := ⟨_, rfl⟩
  have M2 := Lib.hid e2
  have R2 := Lib.hid hr2
  have C2 := Lib.hid hc2
  have q2 : m2 ≤ c2 := by rw [e2]; exact hc2
  rw [← e2]
  obtain ⟨m3, e3⟩ : ∃ m, m = (l3.map mkS).length := ⟨_, rfl⟩
  have M3 := Lib.hid e3
  have R3 := Lib.hid hr3
  have C3 := Lib.hid hc3
  have q3 : m3 ≤ c3 := by rw [e3]; exact hc3
  rw [← e3]
  clear hg e1 e2 e3 hr2 hc2 hr3 hc3
  go_enter Tryz.func6, Tryz.ntmps6
  change Code.wp _ _ _ _ (w.drewN 0)
  rcases Nat.lt_or_ge 2147483647 n1 with hz1 | hz1
  · go_wp2
    go_ret
    exact Hfin.out _
  obtain ⟨t2, z2, y2⟩ := fits_f (ws := l2)
  have g2 := gd_fits R2.out C2.out z2
  rw [← M2.out] at g2
  have G := Lib.hid g2
  have F2 := Lib.hid y2
  clear g2 z2 y2
  go_wp2_with fail
  refine (G.out _).mono ?_
  rintro e u1 ⟨rfl, j1, rfl⟩
  clear G
  cases t2 with
  | false => go_wp2; go_ret; exact Hfin.out _
  | true =>
  obtain ⟨t3, z3, y3⟩ := fits_f (ws := l3)
  have g3 := gd_fits R3.out C3.out z3
  rw [← M3.out] at g3
  have G := Lib.hid g3
  have F3 := Lib.hid y3
  clear g3 z3 y3
  go_wp2_with fail
  refine (G.out _).mono ?_
  rintro e u2 ⟨rfl, j2, rfl⟩
  clear G
  cases t3 with
  | false => go_wp2; go_ret; exact Hfin.out _
  | true =>
  rcases Int.lt_or_le i0 (0) with hlo0 | hlo0
  · go_wp2
    go_ret
    exact Hfin.out _
  have hlp0 : ¬ i0 < (0 : Int) := by omega
  rcases Int.lt_or_le 4 i0 with hhi0 | hhi0
  · go_wp2
    go_ret
    exact Hfin.out _
  have hhp0 : ¬ (4 : Int) < i0 := by omega
  obtain ⟨t2, z2, y2⟩ := line_f (F2.out (by first | rfl | trivial)).2 (F2.out (by first | rfl | trivial)).1
  have g2 := gd_line R2.out C2.out z2
  rw [← M2.out] at g2
  have G := Lib.hid g2
  have Y := Lib.hid y2
  clear g2 z2 y2
  go_wp2_with fail
  refine (G.out _).mono ?_
  rintro e u3 ⟨rfl, j3, rfl⟩
  clear G
  cases t2 with
  | false => go_wp2; go_ret; exact Hfin.out _
  | true =>
  have W2 : Hid (∀ x ∈ l2, WordL x) := Lib.hid (fun x hx => ((Y.out (by first | rfl | trivial)).1 x hx).word)
  have T2 : Hid (l2.length ≤ 20) := Lib.hid (Y.out (by first | rfl | trivial)).2
  clear Y
  obtain ⟨t3, z3, y3⟩ := line_f (F3.out (by first | rfl | trivial)).2 (F3.out (by first | rfl | trivial)).1
  have g3 := gd_line R3.out C3.out z3
  rw [← M3.out] at g3
  have G := Lib.hid g3
  have Y := Lib.hid y3
  clear g3 z3 y3
  go_wp2_with fail
  refine (G.out _).mono ?_
  rintro e u4 ⟨rfl, j4, rfl⟩
  clear G
  cases t3 with
  | false => go_wp2; go_ret; exact Hfin.out _
  | true =>
  have W3 : Hid (∀ x ∈ l3, WordL x) := Lib.hid (fun x hx => ((Y.out (by first | rfl | trivial)).1 x hx).word)
  have T3 : Hid (l3.length ≤ 20) := Lib.hid (Y.out (by first | rfl | trivial)).2
  clear Y
  obtain ⟨t1, z1, y1⟩ := plain_f b1 (by rw [← N1.out]; exact hz1)
  have G := Lib.hid (gd_plain (w := w) z1)
  have Y := Lib.hid y1
  clear z1 y1
  go_wp2_with fail
  refine (G.out _).mono ?_
  rintro e u5 ⟨rfl, j5, rfl⟩
  clear G
  cases t1 with
  | false => go_wp2; go_ret; exact Hfin.out _
  | true =>
  have X1 : Hid (PName b1) := Lib.hid (Y.out (by first | rfl | trivial)).2
  clear Y
  rcases Nat.lt_or_ge 60 n1 with h60 | h60_1
  · go_wp2
    go_ret
    exact Hfin.out _
  have hn1 : b1.length ≤ 60 := by rw [← N1.out]; exact h60_1
  have htl2 := textB_len l2 (fun x hx => (W2.out x hx).len)
  have hT2 := T2.out
  have g2 := gd_text R2.out C2.out (text_f (by omega) (fun x hx => (W2.out x hx).len))
  rw [← M2.out] at g2
  have htl3 := textB_len l3 (fun x hx => (W3.out x hx).len)
  have hT3 := T3.out
  have g3 := gd_text R3.out C3.out (text_f (by omega) (fun x hx => (W3.out x hx).len))
  rw [← M3.out] at g3
  have ht2 := ascii_text W2.out
  have ht3 := ascii_text W3.out
  have hx1 := X1.out.ascii
  have hi5 : i0 = 0 ∨ i0 = 1 ∨ i0 = 2 ∨ i0 = 3 ∨ i0 = 4 := by omega
  clear hi0 hlo0 hhi0 hlp0 hhp0
  rcases hi5 with rfl | rfl | rfl | rfl | rfl
  · have hx : (mkS (textB l2) ++ ⟨#[10]⟩ ++ ⟨#[35, 101, 110, 100, 105, 102]⟩ ++ ⟨#[10]⟩ ++ mkS (textB l3) ++ ⟨#[10]⟩ : ByteArray) = mkS (endF kwEndif l2 l3) := by
      have e0 : (⟨#[10]⟩ : ByteArray) = mkS [10] := rfl
      have e1 : (⟨#[35, 101, 110, 100, 105, 102]⟩ : ByteArray) = mkS [35, 101, 110, 100, 105, 102] := rfl
      rw [e0, e1]
      simp only [mkS_app]
      congr 1
      try simp [endF, dirB, kwEndif]
    have hlen : (endF kwEndif l2 l3).length ≤ 5000 := by
      simp only [endF, dirB, kwEndif, List.length_cons, List.length_append, List.length_nil, if_true, if_false, Bool.false_eq_true]
      omega
    have hasc : ascii (endF kwEndif l2 l3) := by
      refine ascii_app ht2 (ascii_cons (by decide) ?_)
      exact ascii_app (x := [35, 101, 110, 100, 105, 102, 10]) (by unfold ascii; decide) (ascii_app ht3 (by unfold ascii; decide))
    have hix : ∀ (a b c d e : Value) (W : World), (Instr.index 41 (.agg #[a, b, c, d, e]) (.int .i64 0)).run Tryz.prog W = .ok a W := fun a b c d e W => by
      simp [Instr.index, go_sem, Tryz.underlying41]
    have GF : Hid (∀ k, Calls Tryz.prog 21 #[.string (mkS (endF kwEndif l2 l3))] (w.drewN k) (LawQ w)) := Lib.hid (fun k => by
      refine (fails_true (w := w.drewN k) (text := endF kwEndif l2 l3) (end_told _ true W2.out W3.out hT2) hasc (by omega) (Hg.out.only (Only.ofBelow (below_drewN (Below.refl w.heap.size w) k)) (fun k hk e => by omega)) hB).mono ?_
      rintro e w' ⟨rfl, hb⟩
      exact ⟨rfl, (below_drewN (Below.refl _ _) k).trans hb⟩)
    obtain ⟨x2', hx2⟩ : ∃ x, x = mkS (textB l2) := ⟨_, rfl⟩
    have z2 : x2'.size = (textB l2).length := by rw [hx2, mkS_size]
    rw [← hx2] at g2 hx
    obtain ⟨p2, hp2⟩ : ∃ p, p = (textB l2).length := ⟨_, rfl⟩
    rw [← hp2] at z2 htl2
    have hp2' : p2 ≤ 1300 := by omega
    have G2 := Lib.hid g2
    obtain ⟨x3', hx3⟩ : ∃ x, x = mkS (textB l3) := ⟨_, rfl⟩
    have z3 : x3'.size = (textB l3).length := by rw [hx3, mkS_size]
    rw [← hx3] at g3 hx
    obtain ⟨p3, hp3⟩ : ∃ p, p = (textB l3).length := ⟨_, rfl⟩
    rw [← hp3] at z3 htl3
    have hp3' : p3 ≤ 1300 := by omega
    have G3 := Lib.hid g3
    have HX := Lib.hid hx
    clear g2 g3 hx hlen hasc hx2 hx3 hp2 hp3 htl2 htl3 hT2 hT3 hn1 ht2 ht3 hx1
    go_wp2_with fail
    refine (G2.out _).mono ?_
    rintro e v2 ⟨rfl, i2', rfl⟩
    go_wp2_with fail
    refine (G3.out _).mono ?_
    rintro e v3 ⟨rfl, i3', rfl⟩
    go_wp2_with fail
    rw [HX.out]
    refine (GF.out _).mono ?_
    rintro e w9 ⟨rfl, hb9⟩
    have Hend : Hid (LawQ w (.returned (.bool true)) w9) := Lib.hid ⟨rfl, hb9⟩
    clear hb9
    go_wp2
    go_ret
    exact Hend.out
  · have hx : (mkS (textB l2) ++ ⟨#[10]⟩ ++ ⟨#[35, 101, 108, 115, 101]⟩ ++ ⟨#[10]⟩ ++ mkS (textB l3) ++ ⟨#[10]⟩ : ByteArray) = mkS (endF kwElse l2 l3) := by
      have e0 : (⟨#[10]⟩ : ByteArray) = mkS [10] := rfl
      have e1 : (⟨#[35, 101, 108, 115, 101]⟩ : ByteArray) = mkS [35, 101, 108, 115, 101] := rfl
      rw [e0, e1]
      simp only [mkS_app]
      congr 1
      try simp [endF, dirB, kwElse]
    have hlen : (endF kwElse l2 l3).length ≤ 5000 := by
      simp only [endF, dirB, kwElse, List.length_cons, List.length_append, List.length_nil, if_true, if_false, Bool.false_eq_true]
      omega
    have hasc : ascii (endF kwElse l2 l3) := by
      refine ascii_app ht2 (ascii_cons (by decide) ?_)
      exact ascii_app (x := [35, 101, 108, 115, 101, 10]) (by unfold ascii; decide) (ascii_app ht3 (by unfold ascii; decide))
    have hix : ∀ (a b c d e : Value) (W : World), (Instr.index 41 (.agg #[a, b, c, d, e]) (.int .i64 1)).run Tryz.prog W = .ok b W := fun a b c d e W => by
      simp [Instr.index, go_sem, Tryz.underlying41]
    have GF : Hid (∀ k, Calls Tryz.prog 21 #[.string (mkS (endF kwElse l2 l3))] (w.drewN k) (LawQ w)) := Lib.hid (fun k => by
      refine (fails_true (w := w.drewN k) (text := endF kwElse l2 l3) (end_told _ false W2.out W3.out hT2) hasc (by omega) (Hg.out.only (Only.ofBelow (below_drewN (Below.refl w.heap.size w) k)) (fun k hk e => by omega)) hB).mono ?_
      rintro e w' ⟨rfl, hb⟩
      exact ⟨rfl, (below_drewN (Below.refl _ _) k).trans hb⟩)
    obtain ⟨x2', hx2⟩ : ∃ x, x = mkS (textB l2) := ⟨_, rfl⟩
    have z2 : x2'.size = (textB l2).length := by rw [hx2, mkS_size]
    rw [← hx2] at g2 hx
    obtain ⟨p2, hp2⟩ : ∃ p, p = (textB l2).length := ⟨_, rfl⟩
    rw [← hp2] at z2 htl2
    have hp2' : p2 ≤ 1300 := by omega
    have G2 := Lib.hid g2
    obtain ⟨x3', hx3⟩ : ∃ x, x = mkS (textB l3) := ⟨_, rfl⟩
    have z3 : x3'.size = (textB l3).length := by rw [hx3, mkS_size]
    rw [← hx3] at g3 hx
    obtain ⟨p3, hp3⟩ : ∃ p, p = (textB l3).length := ⟨_, rfl⟩
    rw [← hp3] at z3 htl3
    have hp3' : p3 ≤ 1300 := by omega
    have G3 := Lib.hid g3
    have HX := Lib.hid hx
    clear g2 g3 hx hlen hasc hx2 hx3 hp2 hp3 htl2 htl3 hT2 hT3 hn1 ht2 ht3 hx1
    go_wp2_with fail
    refine (G2.out _).mono ?_
    rintro e v2 ⟨rfl, i2', rfl⟩
    go_wp2_with fail
    refine (G3.out _).mono ?_
    rintro e v3 ⟨rfl, i3', rfl⟩
    go_wp2_with fail
    rw [HX.out]
    refine (GF.out _).mono ?_
    rintro e w9 ⟨rfl, hb9⟩
    have Hend : Hid (LawQ w (.returned (.bool true)) w9) := Lib.hid ⟨rfl, hb9⟩
    clear hb9
    go_wp2
    go_ret
    exact Hend.out
  · have hx : (mkS (textB l2) ++ ⟨#[10]⟩ ++ (⟨#[35, 105, 102, 100, 101, 102, 32]⟩ ++ mkS (b1)) ++ ⟨#[10]⟩ ++ mkS (textB l3) ++ ⟨#[10]⟩ : ByteArray) = mkS (openF true b1 l2 l3) := by
      have e0 : (⟨#[10]⟩ : ByteArray) = mkS [10] := rfl
      have e1 : (⟨#[35, 105, 102, 100, 101, 102, 32]⟩ : ByteArray) = mkS [35, 105, 102, 100, 101, 102, 32] := rfl
      rw [e0, e1]
      simp only [mkS_app]
      congr 1
      try simp [openF, dirN, kwIfdef]
    have hlen : (openF true b1 l2 l3).length ≤ 5000 := by
      simp only [openF, dirN, kwIfdef, List.length_cons, List.length_append, List.length_nil, if_true, if_false, Bool.false_eq_true]
      omega
    have hasc : ascii (openF true b1 l2 l3) := by
      refine ascii_app ht2 (ascii_cons (by decide) ?_)
      exact ascii_app (x := [35, 105, 102, 100, 101, 102, 32]) (by unfold ascii; decide) (ascii_app hx1 (ascii_cons (by decide) (ascii_app ht3 (by unfold ascii; decide))))
    have hix : ∀ (a b c d e : Value) (W : World), (Instr.index 41 (.agg #[a, b, c, d, e]) (.int .i64 2)).run Tryz.prog W = .ok c W := fun a b c d e W => by
      simp [Instr.index, go_sem, Tryz.underlying41]
    have GF : Hid (∀ k, Calls Tryz.prog 21 #[.string (mkS (openF true b1 l2 l3))] (w.drewN k) (LawQ w)) := Lib.hid (fun k => by
      refine (fails_true (w := w.drewN k) (text := openF true b1 l2 l3) (open_told _ rfl true X1.out hn1 W2.out W3.out hT2 hT3) hasc (by omega) (Hg.out.only (Only.ofBelow (below_drewN (Below.refl w.heap.size w) k)) (fun k hk e => by omega)) hB).mono ?_
      rintro e w' ⟨rfl, hb⟩
      exact ⟨rfl, (below_drewN (Below.refl _ _) k).trans hb⟩)
    obtain ⟨x2', hx2⟩ : ∃ x, x = mkS (textB l2) := ⟨_, rfl⟩
    have z2 : x2'.size = (textB l2).length := by rw [hx2, mkS_size]
    rw [← hx2] at g2 hx
    obtain ⟨p2, hp2⟩ : ∃ p, p = (textB l2).length := ⟨_, rfl⟩
    rw [← hp2] at z2 htl2
    have hp2' : p2 ≤ 1300 := by omega
    have G2 := Lib.hid g2
    obtain ⟨x3', hx3⟩ : ∃ x, x = mkS (textB l3) := ⟨_, rfl⟩
    have z3 : x3'.size = (textB l3).length := by rw [hx3, mkS_size]
    rw [← hx3] at g3 hx
    obtain ⟨p3, hp3⟩ : ∃ p, p = (textB l3).length := ⟨_, rfl⟩
    rw [← hp3] at z3 htl3
    have hp3' : p3 ≤ 1300 := by omega
    have G3 := Lib.hid g3
    have HX := Lib.hid hx
    clear g2 g3 hx hlen hasc hx2 hx3 hp2 hp3 htl2 htl3 hT2 hT3 hn1 ht2 ht3 hx1
    go_wp2_with fail
    refine (G2.out _).mono ?_
    rintro e v2 ⟨rfl, i2', rfl⟩
    go_wp2_with fail
    refine (G3.out _).mono ?_
    rintro e v3 ⟨rfl, i3', rfl⟩
    go_wp2_with fail
    rw [HX.out]
    refine (GF.out _).mono ?_
    rintro e w9 ⟨rfl, hb9⟩
    have Hend : Hid (LawQ w (.returned (.bool true)) w9) := Lib.hid ⟨rfl, hb9⟩
    clear hb9
    go_wp2
    go_ret
    exact Hend.out
  · have hx : (mkS (textB l2) ++ ⟨#[10]⟩ ++ (⟨#[35, 105, 102, 110, 100, 101, 102, 32]⟩ ++ mkS (b1)) ++ ⟨#[10]⟩ ++ mkS (textB l3) ++ ⟨#[10]⟩ : ByteArray) = mkS (openF false b1 l2 l3) := by
      have e0 : (⟨#[10]⟩ : ByteArray) = mkS [10] := rfl
      have e1 : (⟨#[35, 105, 102, 110, 100, 101, 102, 32]⟩ : ByteArray) = mkS [35, 105, 102, 110, 100, 101, 102, 32] := rfl
      rw [e0, e1]
      simp only [mkS_app]
      congr 1
      try simp [openF, dirN, kwIfndef]
    have hlen : (openF false b1 l2 l3).length ≤ 5000 := by
      simp only [openF, dirN, kwIfndef, List.length_cons, List.length_append, List.length_nil, if_true, if_false, Bool.false_eq_true]
      omega
    have hasc : ascii (openF false b1 l2 l3) := by
      refine ascii_app ht2 (ascii_cons (by decide) ?_)
      exact ascii_app (x := [35, 105, 102, 110, 100, 101, 102, 32]) (by unfold ascii; decide) (ascii_app hx1 (ascii_cons (by decide) (ascii_app ht3 (by unfold ascii; decide))))
    have hix : ∀ (a b c d e : Value) (W : World), (Instr.index 41 (.agg #[a, b, c, d, e]) (.int .i64 3)).run Tryz.prog W = .ok d W := fun a b c d e W => by
      simp [Instr.index, go_sem, Tryz.underlying41]
    have GF : Hid (∀ k, Calls Tryz.prog 21 #[.string (mkS (openF false b1 l2 l3))] (w.drewN k) (LawQ w)) := Lib.hid (fun k => by
      refine (fails_true (w := w.drewN k) (text := openF false b1 l2 l3) (open_told _ rfl false X1.out hn1 W2.out W3.out hT2 hT3) hasc (by omega) (Hg.out.only (Only.ofBelow (below_drewN (Below.refl w.heap.size w) k)) (fun k hk e => by omega)) hB).mono ?_
      rintro e w' ⟨rfl, hb⟩
      exact ⟨rfl, (below_drewN (Below.refl _ _) k).trans hb⟩)
    obtain ⟨x2', hx2⟩ : ∃ x, x = mkS (textB l2) := ⟨_, rfl⟩
    have z2 : x2'.size = (textB l2).length := by rw [hx2, mkS_size]
    rw [← hx2] at g2 hx
    obtain ⟨p2, hp2⟩ : ∃ p, p = (textB l2).length := ⟨_, rfl⟩
    rw [← hp2] at z2 htl2
    have hp2' : p2 ≤ 1300 := by omega
    have G2 := Lib.hid g2
    obtain ⟨x3', hx3⟩ : ∃ x, x = mkS (textB l3) := ⟨_, rfl⟩
    have z3 : x3'.size = (textB l3).length := by rw [hx3, mkS_size]
    rw [← hx3] at g3 hx
    obtain ⟨p3, hp3⟩ : ∃ p, p = (textB l3).length := ⟨_, rfl⟩
    rw [← hp3] at z3 htl3
    have hp3' : p3 ≤ 1300 := by omega
    have G3 := Lib.hid g3
    have HX := Lib.hid hx
    clear g2 g3 hx hlen hasc hx2 hx3 hp2 hp3 htl2 htl3 hT2 hT3 hn1 ht2 ht3 hx1
    go_wp2_with fail
    refine (G2.out _).mono ?_
    rintro e v2 ⟨rfl, i2', rfl⟩
    go_wp2_with fail
    refine (G3.out _).mono ?_
    rintro e v3 ⟨rfl, i3', rfl⟩
    go_wp2_with fail
    rw [HX.out]
    refine (GF.out _).mono ?_
    rintro e w9 ⟨rfl, hb9⟩
    have Hend : Hid (LawQ w (.returned (.bool true)) w9) := Lib.hid ⟨rfl, hb9⟩
    clear hb9
    go_wp2
    go_ret
    exact Hend.out
  · have hx : (mkS (textB l2) ++ ⟨#[10]⟩ ++ (⟨#[35, 105, 102, 100, 101, 102, 32]⟩ ++ mkS (b1) ++ ⟨#[10, 35, 101, 108, 115, 101]⟩) ++ ⟨#[10]⟩ ++ mkS (textB l3) ++ ⟨#[10]⟩ : ByteArray) = mkS (openEF b1 l2 l3) := by
      have e0 : (⟨#[10]⟩ : ByteArray) = mkS [10] := rfl
      have e1 : (⟨#[35, 105, 102, 100, 101, 102, 32]⟩ : ByteArray) = mkS [35, 105, 102, 100, 101, 102, 32] := rfl
      have e2 : (⟨#[10, 35, 101, 108, 115, 101]⟩ : ByteArray) = mkS [10, 35, 101, 108, 115, 101] := rfl
      rw [e0, e1, e2]
      simp only [mkS_app]
      congr 1
      try simp [openEF, dirN, dirB, kwIfdef, kwElse]
    have hlen : (openEF b1 l2 l3).length ≤ 5000 := by
      simp only [openEF, dirN, dirB, kwIfdef, kwElse, List.length_cons, List.length_append, List.length_nil, if_true, if_false, Bool.false_eq_true]
      omega
    have hasc : ascii (openEF b1 l2 l3) := by
      refine ascii_app ht2 (ascii_cons (by decide) ?_)
      exact ascii_app (x := [35, 105, 102, 100, 101, 102, 32]) (by unfold ascii; decide) (ascii_app hx1 (ascii_cons (by decide) (ascii_app (x := [35, 101, 108, 115, 101, 10]) (by unfold ascii; decide) (ascii_app ht3 (by unfold ascii; decide)))))
    have hix : ∀ (a b c d e : Value) (W : World), (Instr.index 41 (.agg #[a, b, c, d, e]) (.int .i64 4)).run Tryz.prog W = .ok e W := fun a b c d e W => by
      simp [Instr.index, go_sem, Tryz.underlying41]
    have GF : Hid (∀ k, Calls Tryz.prog 21 #[.string (mkS (openEF b1 l2 l3))] (w.drewN k) (LawQ w)) := Lib.hid (fun k => by
      refine (fails_true (w := w.drewN k) (text := openEF b1 l2 l3) (openE_told _ rfl X1.out hn1 W2.out W3.out hT2 hT3) hasc (by omega) (Hg.out.only (Only.ofBelow (below_drewN (Below.refl w.heap.size w) k)) (fun k hk e => by omega)) hB).mono ?_
      rintro e w' ⟨rfl, hb⟩
      exact ⟨rfl, (below_drewN (Below.refl _ _) k).trans hb⟩)
    obtain ⟨x2', hx2⟩ : ∃ x, x = mkS (textB l2) := ⟨_, rfl⟩
    have z2 : x2'.size = (textB l2).length := by rw [hx2, mkS_size]
    rw [← hx2] at g2 hx
    obtain ⟨p2, hp2⟩ : ∃ p, p = (textB l2).length := ⟨_, rfl⟩
    rw [← hp2] at z2 htl2
    have hp2' : p2 ≤ 1300 := by omega
    have G2 := Lib.hid g2
    obtain ⟨x3', hx3⟩ : ∃ x, x = mkS (textB l3) := ⟨_, rfl⟩
    have z3 : x3'.size = (textB l3).length := by rw [hx3, mkS_size]
    rw [← hx3] at g3 hx
    obtain ⟨p3, hp3⟩ : ∃ p, p = (textB l3).length := ⟨_, rfl⟩
    rw [← hp3] at z3 htl3
    have hp3' : p3 ≤ 1300 := by omega
    have G3 := Lib.hid g3
    have HX := Lib.hid hx
    clear g2 g3 hx hlen hasc hx2 hx3 hp2 hp3 htl2 htl3 hT2 hT3 hn1 ht2 ht3 hx1
    go_wp2_with fail
    refine (G2.out _).mono ?_
    rintro e v2 ⟨rfl, i2', rfl⟩
    go_wp2_with fail
    refine (G3.out _).mono ?_
    rintro e v3 ⟨rfl, i3', rfl⟩
    go_wp2_with fail
    rw [HX.out]
    refine (GF.out _).mono ?_
    rintro e w9 ⟨rfl, hb9⟩
    have Hend : Hid (LawQ w (.returned (.bool true)) w9) := Lib.hid ⟨rfl, hb9⟩
    clear hb9
    go_wp2
    go_ret
    exact Hend.out
end
end Go.Proofs.YtpoimmpdncickaaGreatDoor
