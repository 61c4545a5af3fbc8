/- The law FnDefineOne's walk: it returns true. -/
import Derived.Test.YtmkehbjpnajilaaGreatDoorJ11
import Derived.Test.YtmkehbjpnajilaaGreatDoorJ9
/- The law FnDefineOne returns true, whatever comes in. -/
namespace Go.Proofs.YtmkehbjpnajilaaGreatDoor
open Go Go.RowKit Lex Go.Proofs.YtmkehbjpnajilaaGreatDoorW.PrintWords Go.Proofs.YtmkehbjpnajilaaGreatDoor.PHelp
set_option linter.unusedVariables false
set_option linter.unusedSimpArgs false

section
variable {w : World} {ev : Value} {b0 : Bs} {l1 : List Bs} {A1 : Option Addr} {c1 : Nat}
set_option maxRecDepth 100000 in
set_option maxHeartbeats 4000000 in
theorem one_law (hr1 : Kd.C Kd.string w A1 (l1.map mkS).length (l1.map mkS)) (hc1 : (l1.map mkS).length ≤ c1) (hg : Glob w ev) (hB : 21 ≤ w.heap.size) :
    Calls Tryz.prog 8 #[.string (mkS b0), .slice A1 (l1.map mkS).length c1] w (LawQ w) := by
  have Hfin := Lib.hid (lawq_drewN w)
  have Hg := Lib.hid hg
  have s0 := mkS_size b0
  obtain ⟨n0, e0⟩ : ∃ n, n = b0.length := ⟨_, rfl⟩
  rw [← e0] at s0
  have N0 := Lib.hid e0
  obtain ⟨m1, e1⟩ : ∃ m, m = (l1.map mkS).length := ⟨_, rfl⟩
  have M1 := Lib.hid e1
  have R1 := Lib.hid hr1
  have C1 := Lib.hid hc1
  have q1 : m1 ≤ c1 := by rw [e1]; exact hc1
  rw [← e1]
  clear hg e0 e1 hr1 hc1
  go_enter Tryz.func8, Tryz.ntmps8
  change Code.wp _ _ _ _ (w.drewN 0)
  rcases Nat.lt_or_ge 2147483647 n0 with hz0 | hz0
  · go_wp2
    go_ret
    exact Hfin.out _
  obtain ⟨t1, z1, y1⟩ := fits_f (ws := l1)
  have g1 := gd_fits R1.out C1.out z1
  rw [← M1.out] at g1
  have G := Lib.hid g1
  have F1 := Lib.hid y1
  clear g1 z1 y1
  go_wp2_with fail
  refine (G.out _).mono ?_
  rintro e u1 ⟨rfl, j1, rfl⟩
  clear G
  cases t1 with
  | false => go_wp2; go_ret; exact Hfin.out _
  | true =>
  obtain ⟨t1, z1, y1⟩ := line_f (F1.out (by first | rfl | trivial)).2 (F1.out (by first | rfl | trivial)).1
  have g1 := gd_line R1.out C1.out z1
  rw [← M1.out] at g1
  have G := Lib.hid g1
  have Y := Lib.hid y1
  clear g1 z1 y1
  go_wp2_with fail
  refine (G.out _).mono ?_
  rintro e u2 ⟨rfl, j2, rfl⟩
  clear G
  cases t1 with
  | false => go_wp2; go_ret; exact Hfin.out _
  | true =>
  have W1 : Hid (∀ x ∈ l1, WordL x) := Lib.hid (fun x hx => ((Y.out (by first | rfl | trivial)).1 x hx).word)
  have T1 : Hid (l1.length ≤ 20) := Lib.hid (Y.out (by first | rfl | trivial)).2
  clear Y
  obtain ⟨t0, z0, y0⟩ := plain_f b0 (by rw [← N0.out]; exact hz0)
  have G := Lib.hid (gd_plain (w := w) z0)
  have Y := Lib.hid y0
  clear z0 y0
  go_wp2_with fail
  refine (G.out _).mono ?_
  rintro e u3 ⟨rfl, j3, rfl⟩
  clear G
  cases t0 with
  | false => go_wp2; go_ret; exact Hfin.out _
  | true =>
  have X0 : Hid (PName b0) := Lib.hid (Y.out (by first | rfl | trivial)).2
  clear Y
  rcases Nat.lt_or_ge 60 n0 with h60 | h60_0
  · go_wp2
    go_ret
    exact Hfin.out _
  have hn0 : b0.length ≤ 60 := by rw [← N0.out]; exact h60_0
  have hwb : ∀ w ∈ [([49] : Bs)], WordL w := fun w hw => by simp at hw; subst hw; exact one_word
  have hno : b0 ∉ [([49] : Bs)] := by
    intro h
    simp at h
    obtain ⟨c, x, e, h1, _⟩ := X0.out
    rw [h] at e
    injection e with e _
    subst e
    revert h1
    decide
  have hb0 : [([49] : Bs)] ≠ [] := by simp
  have hT1 : [([49] : Bs)].length ≤ 20 := by simp
  have htl := textB_len l1 (fun x hx => (W1.out x hx).len)
  have hT := T1.out
  have hlen : (textB l1 ++ 10 :: []).length ≤ 5000 := by simp; omega
  have hasc : ascii (textB l1 ++ 10 :: []) := ascii_app (ascii_text W1.out) (ascii_cons (by decide) (by intro b h; cases h))
  obtain ⟨T, fl, s', mac, mn, t1, t2, t3, t4, t5, t6⟩ := first_told (yExp (textB l1 ++ 10 :: [])) X0.out W1.out hwb hb0 hT1 hT hno
  obtain ⟨nt, n1, n2⟩ := (pc_alone X0.out hn0).tl 1 1
  have hpv : Pc [49] ([([49] : Bs)].map tokW) := by simpa [lstB] using pc_lst [[49]] (by simp) hwb [] (by intro b h; cases h)
  obtain ⟨vt, v1, v2⟩ := hpv.tl 1 1
  have hvl : vt.length ≤ 1000 := by have := congrArg List.length v2; simp at this; omega
  have hpre : ∀ w1 gd dc, Strs w1 (.slice (some ⟨gd, 0, none⟩) 1 dc) [mkS b0] → Below w.heap.size w w1 → Calls Tryz.prog 52 #[.slice (some ⟨gd, 0, none⟩) 1 dc] w1 (PreG 1 (macOne b0 [[49]]) w1) := fun w1 gd dc hs hb =>
    predefine_nm hs (name_no61 X0.out) (by rintro rfl; obtain ⟨_, _, e, _⟩ := X0.out; cases e) hn0 (by simp) X0.out.ascii (by intro b h; simp at h; subst h; decide) n1 n2 v1 v2 (tok_words hwb v2) hvl rfl (Hg.out.only (Only.ofBelow hb) (fun k hk e => by omega)) (Nat.le_trans hB hb.size)
  have hrepl := replaced_f b0 [[49]] (ws := l1) (by omega) hT1
  obtain ⟨kr, hkr⟩ := hrepl.rounds
  have hrl := repW_len b0 [[49]] hT1 l1
  have GS : Hid (∀ w' A n c, Below w.heap.size w w' → Kd.C Kd.string w' A n ((l1.flatMap (repW b0 [[49]])).map mkS) → n = ((l1.flatMap (repW b0 [[49]])).map mkS).length → n ≤ c → ∀ g, Files w' g 1 [(mainBs, mkS (textB l1 ++ 10 :: []))] → ∀ gd, Strs w' (.slice (some ⟨gd, 0, none⟩) 1 1) [mkS b0] → Calls Tryz.prog 17 #[.slice (some ⟨g, 0, none⟩) 1 1, .slice (some ⟨gd, 0, none⟩) 1 1, .slice A n c] w' (SQ w')) := Lib.hid (fun w' A n c hb hC hn hnc g hr gd hd =>
    shows_gen (l := []) hr (by simp) (by simp) (by simp [tab]) t1 hasc (by omega) (fun w1 h1 => hpre w1 gd 1 (ownsRow_only hd (fun k hk => h1.block k (ownBlock_row hd k hk).2.lt)) (hb.trans (h1.mono hb.size))) t2 t3 (by omega) t6 (by rw [t4]; exact hC) (by rw [t4]; exact hn) hnc (Hg.out.only (Only.ofBelow hb) (fun k hk e => by omega)) (Nat.le_trans hB hb.size))
  have hx : ∀ z : ByteArray, z = mkS (textB l1) → z ++ ⟨#[10]⟩ = mkS (textB l1 ++ 10 :: []) := fun z e => by
    rw [e, show (⟨#[10]⟩ : ByteArray) = mkS [10] from rfl, mkS_app]
  have htx : ∀ w', Below w.heap.size w w' → Gd w' 16 #[.slice A1 m1 c1] (.string (mkS (textB l1))) := fun w' hb => by
    have h := gd_text (Kd.C_below R1.out hb) C1.out (text_f (by omega) (fun x hx => (W1.out x hx).len))
    rwa [← M1.out] at h
  obtain ⟨x2, hx2⟩ : ∃ x, x = mkS (textB l1) := ⟨_, rfl⟩
  have z2 : x2.size = (textB l1).length := by rw [hx2, mkS_size]
  rw [← hx2] at htx
  have hx := hx x2 hx2
  obtain ⟨p2, hp2⟩ : ∃ p, p = (textB l1).length := ⟨_, rfl⟩
  rw [← hp2] at z2 htl
  have hp2' : p2 ≤ 1300 := by omega
  have HTX := Lib.hid htx
  have HX := Lib.hid hx
  have HKR := Lib.hid hkr
  have HRL := Lib.hid hrl
  have hm : m1 ≤ 20 := by have := M1.out; simp at this; omega
  clear htx hx hkr hrepl hrl t1 t2 t3 t4 t5 t6 hlen hasc hx2 hp2 htl hT hT1 hn0 hno hb0 hwb nt n1 n2 hpv v1 v2 hvl hpre
  go_wp2_with fail
  refine (HTX.out w (Below.refl _ _) _).mono ?_
  rintro e v1 ⟨rfl, i1, rfl⟩
  have Hv1 : Hid (Below w.heap.size w (w.drewN i1)) := Lib.hid (below_drewN (Below.refl _ _) _)
  generalize w.drewN i1 = v1 at Hv1 ⊢
  go_wp2_with fail
  rw [HX.out]
  refine fileOf_any.mono ?_
  rintro e w9 ⟨rfl, rfl⟩
  have hfil := files_one v1 (textB l1 ++ 10 :: [])
  have hbe : Below w.heap.size w (v1.alloc (.cells #[.string mainName, .string (mkS (textB l1 ++ 10 :: []))] 49)) := Hv1.out.alloc Hv1.out.size _
  have Hfil := Lib.hid hfil
  have Hbe := Lib.hid hbe
  have Hsz9 : Hid ((v1.alloc (.cells #[.string mainName, .string (mkS (textB l1 ++ 10 :: []))] 49)).heap.size = v1.heap.size + 1) := Lib.hid (by simp)
  clear hfil hbe
  generalize v1.alloc (.cells #[.string mainName, .string (mkS (textB l1 ++ 10 :: []))] 49) = w9 at Hfil Hbe Hsz9 ⊢
  -- the list of what is told
  have hdd := row_one w9 9 (.string (mkS b0))
  have Hdd : Hid (Strs (w9.alloc (.cells #[.string (mkS b0)] 9)) (.slice (some ⟨w9.heap.size, 0, none⟩) 1 1) [mkS b0]) := Lib.hid (row_zero hdd)
  have Hb10 : Hid (Below w.heap.size w (w9.alloc (.cells #[.string (mkS b0)] 9))) := Lib.hid (Hbe.out.alloc Hbe.out.size _)
  have Hf10 : Hid (Files (w9.alloc (.cells #[.string (mkS b0)] 9)) v1.heap.size 1 [(mainBs, mkS (textB l1 ++ 10 :: []))]) := Lib.hid (ownsRow_only Hfil.out (fun k hk => by cases hk; exact Below.heap_alloc w9 _ _ (by show v1.heap.size < _; rw [Hsz9.out]; omega)))
  clear hdd
  have Hone : Hid (∀ W, Below w.heap.size w W → Kd.C Kd.string (W.alloc (.cells #[.string ⟨#[49]⟩] 9)) (some ⟨W.heap.size, 0, none⟩) 1 ([([49] : Bs)].map mkS)) := Lib.hid (fun W _ => (kd_strs (b := W.heap.size) (l := [mkS [49]]) (row_one W 9 (.string (mkS [49])))).2.2)
  obtain ⟨w10, hw10⟩ : ∃ q, q = (w9.alloc (.cells #[.string (mkS b0)] 9)).alloc (.cells #[.string ⟨#[49]⟩] 9) := ⟨_, rfl⟩
  have Hw10 := Lib.hid hw10
  clear hw10
  obtain ⟨n4, hn4⟩ : ∃ n, n = ((l1.flatMap (repW b0 [[49]])).map mkS).length := ⟨_, rfl⟩
  have HN4 := Lib.hid hn4
  have hn4b : n4 ≤ 500 := by
    rw [hn4, List.length_map]
    have := HRL.out
    have := M1.out
    simp at this
    omega
  clear hn4
  have Hrep : Hid (∀ W g, Below w.heap.size w W → Kd.C Kd.string W (some ⟨g, 0, none⟩) 1 ([([49] : Bs)].map mkS) → Calls Tryz.prog 19 #[.slice A1 m1 c1, .string (mkS b0), .slice (some ⟨g, 0, none⟩) 1 1] W fun e w' => ∃ A4 c4, e = .returned (.slice A4 n4 c4) ∧ n4 ≤ c4 ∧ Kd.C Kd.string w' A4 n4 ((l1.flatMap (repW b0 [[49]])).map mkS) ∧ Below W.heap.size W w') := Lib.hid (fun W g hb hk => by
    have h := laws_replaced.calls kr A1 c1 (l1.map mkS) (mkS b0) (some ⟨g, 0, none⟩) 1 ([[49]].map mkS) _ W (Kd.C_below R1.out hb) C1.out hk (by simp) HKR.out
    rw [← M1.out] at h
    refine h.mono ?_
    rintro e w' ⟨v0, rfl, hR, hb2⟩
    obtain ⟨A2, c2, rfl, h1, h2⟩ := Kd.R_reads hR
    exact ⟨A2, c2, by rw [HN4.out], by rw [HN4.out]; exact h1, by rw [HN4.out]; exact h2, hb2⟩)
  go_wp2_with fail
  have h1 : Kd.C Kd.string ((w9.alloc (.cells #[.string (mkS b0)] 9)).alloc (.cells #[.string ⟨#[49]⟩] 9)) (some ⟨w9.heap.size + 1, 0, none⟩) 1 ([([49] : Bs)].map mkS) := by have h := Hone.out _ Hb10.out; rwa [show (w9.alloc (.cells #[.string (mkS b0)] 9)).heap.size = w9.heap.size + 1 by simp] at h
  have H1 := Lib.hid h1
  clear h1
  refine (Hrep.out _ (w9.heap.size + 1) (Hb10.out.alloc Hb10.out.size _) H1.out).mono ?_
  rintro e w11 ⟨A4, c4, rfl, hc4, hC4, hb11⟩
  have hbw : Below w.heap.size w w11 := (Hb10.out.alloc Hb10.out.size _).trans (hb11.mono (Hb10.out.alloc Hb10.out.size _).size)
  have hf11 : Files w11 v1.heap.size 1 [(mainBs, mkS (textB l1 ++ 10 :: []))] := by
    have h0 := (ownsRow_only (w' := (w9.alloc (.cells #[.string (mkS b0)] 9)).alloc (.cells #[.string ⟨#[49]⟩] 9)) Hf10.out (fun k hk => Below.heap_alloc _ _ k (ownBlock_row Hf10.out k hk).2.lt))
    exact ownsRow_only h0 (fun k hk => hb11.block k (ownBlock_row h0 k hk).2.lt)
  have hd11 : Strs w11 (.slice (some ⟨w9.heap.size, 0, none⟩) 1 1) [mkS b0] := by
    have h0 := (ownsRow_only (w' := (w9.alloc (.cells #[.string (mkS b0)] 9)).alloc (.cells #[.string ⟨#[49]⟩] 9)) Hdd.out (fun k hk => Below.heap_alloc _ _ k (ownBlock_row Hdd.out k hk).2.lt))
    exact ownsRow_only h0 (fun k hk => hb11.block k (ownBlock_row h0 k hk).2.lt)
  have HGS := Lib.hid (GS.out w11 A4 n4 c4 hbw hC4 HN4.out hc4 _ hf11 _ hd11)
  have Hbw := Lib.hid hbw
  clear hbw hf11 hd11 hb11 hC4 GS Hrep
  go_wp2_with fail
  refine HGS.out.mono ?_
  rintro e w13 ⟨rfl, hb13⟩
  have Hend : Hid (LawQ w (.returned (.bool true)) w13) := Lib.hid ⟨rfl, Hbw.out.trans (hb13.mono Hbw.out.size)⟩
  clear hb13
  go_wp2
  go_ret
  exact Hend.out
end
end Go.Proofs.YtmkehbjpnajilaaGreatDoor
