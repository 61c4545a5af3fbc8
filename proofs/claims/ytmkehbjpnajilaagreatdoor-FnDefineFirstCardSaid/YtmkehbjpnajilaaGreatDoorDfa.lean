/- The law FnDefineFirst's walk: it returns true. -/
import Derived.Test.YtmkehbjpnajilaaGreatDoorJ11
import Derived.Test.YtmkehbjpnajilaaGreatDoorJ10
import Derived.BigQuiet
import Derived.Test.YtmkehbjpnajilaaGreatDoorJ9
/- The text of a macro that is told to be there at first. -/
namespace Go.Proofs.YtmkehbjpnajilaaGreatDoor
open Go Go.RowKit Lex Go.Proofs.YtmkehbjpnajilaaGreatDoorW.PrintWords Go.Proofs.YtmkehbjpnajilaaGreatDoor.PHelp
set_option linter.unusedVariables false
set_option linter.unusedSimpArgs false

theorem lstB_snoc : ∀ (ps : List Bs) (p : Bs), ps ≠ [] → lstB (ps ++ [p]) = lstB ps ++ (32 :: p)
  | [], _, h => absurd rfl h
  | [x], p, _ => rfl
  | x :: q :: r, p, _ => by
    have ih := lstB_snoc (q :: r) p (by simp)
    show x ++ 32 :: lstB ((q :: r) ++ [p]) = _
    rw [ih]
    simp [lstB]

section
variable {ws : List Bs}
theorem listS_f (hl : ws.length ≤ 1000) (hw : ∀ w ∈ ws, w.length ≤ 60) : Ev (fun k => spec_list.f k (ws.map mkS) (mkS [32])) (mkS (lstB ws)) := by
  have H : ∀ d i : Nat, ws.length - i ≤ d → i ≤ ws.length → Ev (fun k => spec_list.l0 k (mkS [32]) (mkS (lstB (ws.take i))) (ws.map mkS) ((ws.map mkS).length : Int) (i : Int)) (mkS (lstB ws)) := by
    have hend : Ev (fun k => spec_list.l0 k (mkS [32]) (mkS (lstB (ws.take ws.length))) (ws.map mkS) ((ws.map mkS).length : Int) (ws.length : Int)) (mkS (lstB ws)) := by
      refine Ev.step (f := fun _ => some _) (fun k => ?_) (Ev.now _)
      simp only [spec_list.l0]
      rw [if_neg (by rw [List.length_map]; omega), List.take_length]
    intro d
    induction d with
    | zero =>
      intro i hd hi
      obtain rfl : i = ws.length := by omega
      exact hend
    | succ d ih =>
      intro i hd hi
      rcases Nat.lt_or_ge i ws.length with hlt | hge
      · obtain ⟨w, hw'⟩ : ∃ w, ws[i]? = some w := ⟨ws[i], List.getElem?_eq_getElem hlt⟩
        have htk : ws.take (i + 1) = ws.take i ++ [w] := by rw [List.take_add_one, hw']; rfl
        have hwl := hw w (List.mem_of_getElem? hw')
        have htl := lstB_len (ws.take i) (fun x hx => hw x (List.mem_of_mem_take hx))
        rw [List.length_take] at htl
        refine Ev.step (fun k => ?_) (ih (i + 1) (by omega) (by omega))
        simp only [spec_list.l0]
        rw [if_pos (by rw [List.length_map]; omega), if_pos (by omega), if_pos (by rw [List.length_map]; omega), rd_at (at_map hw'), w64 (by omega), htk]
        by_cases h0 : i = 0
        · subst h0
          rw [if_neg (by omega), if_pos (by rw [mkS_size, mkS_size]; simp [lstB]; omega), mkS_app]
          rfl
        · rw [if_pos (by omega), if_pos (by rw [mkS_size, mkS_size]; simp; omega), mkS_app, if_pos (by rw [mkS_size, mkS_size, List.length_append]; simp; omega), mkS_app, lstB_snoc _ _ (by
            intro e
            rw [List.take_eq_nil_iff] at e
            rcases e with e | e
            · exact h0 e
            · rw [e] at hlt; simp at hlt)]
          simp
      · obtain rfl : i = ws.length := by omega
        exact hend
  exact Ev.congr (fun k => rfl) (H _ 0 (Nat.le_refl _) (Nat.zero_le _))
end

section
variable {w : World} {nb : Bs} {bs : List Bs} {A : Option Addr} {c : Nat}
def DTQ (x : Bs) (w : World) (e : Ending) (w' : World) : Prop := e = .returned (.string (mkS x)) ∧ Below w.heap.size w w'
set_option maxRecDepth 100000 in
set_option maxHeartbeats 2000000 in
theorem defineText_any (hnb : nb.length ≤ 60) (hr2 : Kd.C Kd.string w A (bs.map mkS).length (bs.map mkS)) (hc2 : (bs.map mkS).length ≤ c) (hl2 : bs.length ≤ 20) (hw2 : ∀ x ∈ bs, x.length ≤ 60) :
    Calls Tryz.prog 25 #[.agg #[.int .i64 0, .string (mkS nb), .bool false, .slice none 0 0, .slice A (bs.map mkS).length c, .slice none 0 0]] w (DTQ (nb ++ 61 :: lstB bs) w) := by
  obtain ⟨m, hm⟩ : ∃ n, n = (bs.map mkS).length := ⟨_, rfl⟩
  rw [← hm]
  obtain ⟨w0, hw0⟩ : ∃ w0, w0 = w.alloc (.cells #[.int .i64 0, .string (mkS nb), .bool false, .slice none 0 0, .slice A m c, .slice none 0 0] 44) := ⟨_, rfl⟩
  have hb0 : Below w.heap.size w w0 := hw0 ▸ (Below.refl _ _).alloc (Nat.le_refl _) _
  have hB := Blk.lit w #[.int .i64 0, .string (mkS nb), .bool false, .slice none 0 0, .slice A m c, .slice none 0 0] 44
  rw [← hw0] at hB
  have k1 : w0.cell? ⟨w.heap.size, 1, none⟩ = some (.string (mkS nb)) := hB.cell (i := 1) (by simp)
  have k4 : w0.cell? ⟨w.heap.size, 4, none⟩ = some (.slice A m c) := hB.cell (i := 4) (by simp)
  obtain ⟨kl, hkl⟩ := (listS_f (ws := bs) (by omega) hw2).rounds
  have G1 : Hid (Gd w0 33 #[.slice A m c, .string (mkS [32])] (.string (mkS (lstB bs)))) := Lib.hid (gd_of fun q => by
    have h := spec_list.calls kl A c (bs.map mkS) (mkS [32]) _ (w0.drewN q) (Kd.C_drewN (Kd.C_below hr2 hb0) q) hc2 hkl
    rw [← hm] at h
    exact h)
  have hs : (mkS nb).size = nb.length := mkS_size nb
  have l1 := lstB_len bs hw2
  have hx : mkS nb ++ ⟨#[61]⟩ ++ mkS (lstB bs) = mkS (nb ++ 61 :: lstB bs) := by
    rw [show (⟨#[61]⟩ : ByteArray) = mkS [61] from rfl]
    simp only [mkS_app]
    congr 1
    simp
  obtain ⟨x1, hx1⟩ : ∃ x, x = mkS (lstB bs) := ⟨_, rfl⟩
  have s1 : x1.size = (lstB bs).length := by rw [hx1, mkS_size]
  rw [← hx1] at G1 hx
  obtain ⟨q1, hq1⟩ : ∃ q, q = (lstB bs).length := ⟨_, rfl⟩
  rw [← hq1] at s1 l1
  have l1' : q1 ≤ 1220 := by omega
  obtain ⟨nl, hnl⟩ : ∃ q, q = nb.length := ⟨_, rfl⟩
  rw [← hnl] at hs hnb
  have HX := Lib.hid hx
  have Hb0 := Lib.hid hb0
  have Hw0 := Lib.hid hw0
  obtain ⟨wb, hwb⟩ : ∃ q, q = w.heap.size := ⟨_, rfl⟩
  rw [← hwb] at k1 k4
  have Hwb := Lib.hid hwb
  have e32 : (⟨#[32]⟩ : ByteArray) = mkS [32] := rfl
  clear hr2 hc2 hl2 hw2 hm hb0 hB hkl hnl hw0 hwb hx hx1 hq1 l1
  go_enter Tryz.func25, Tryz.ntmps25
  go_upto_region 1 with (fail)
  rw [← Hw0.out, ← Hwb.out]
  have Hfin : Hid (∀ k, DTQ (nb ++ 61 :: lstB bs) w (.returned (.string (mkS (nb ++ 61 :: lstB bs)))) (w0.drewN k)) := Lib.hid (fun k => ⟨rfl, below_drewN Hb0.out _⟩)
  go_quiet ((go_at_call 33; exact G1.out _))
  go_wp2
  rw [HX.out]
  go_ret
  exact Hfin.out _
end
section
variable {w : World} {ev : Value} {b0 : Bs} {l1 : List Bs} {A1 : Option Addr} {c1 : Nat} {l2 : List Bs} {A2 : Option Addr} {c2 : Nat}
set_option maxRecDepth 100000 in
set_option maxHeartbeats 4000000 in
theorem first_law (hr1 : Kd.C Kd.string w A1 (l1.map mkS).length (l1.map mkS)) (hc1 : (l1.map mkS).length ≤ c1) (hr2 : Kd.C Kd.string w A2 (l2.map mkS).length (l2.map mkS)) (hc2 : (l2.map mkS).length ≤ c2) (hg : Glob w ev) (hB : 21 ≤ w.heap.size) :
    Calls Tryz.prog 7 #[.string (mkS b0), .slice A1 (l1.map mkS).length c1, .slice A2 (l2.map mkS).length c2] w (LawQ w) := by
  have Hfin := Lib.hid (lawq_drewN w)
  have Hg := Lib.hid hg
  have s0 := mkS_size b0
  obtain ⟨n0, e0⟩ : ∃ n, n = b0.length := ⟨_, rfl⟩
  rw [← e0] at s0
  have N0 := Lib.hid e0
  obtain ⟨m1, e1⟩ : ∃ m, m = (l1.map mkS).length := ⟨_, rfl⟩
  have M1 := Lib.hid e1
  have R1 := Lib.hid hr1
  have C1 := Lib.hid hc1
  have q1 : m1 ≤ c1 := by rw [e1]; exact hc1
  rw [← e1]
  obtain ⟨m2, e2⟩ : ∃ m, m = (l2.map mkS).length := ⟨_, rfl⟩
  have M2 := Lib.hid e2
  have R2 := Lib.hid hr2
  have C2 := Lib.hid hc2
  have q2 : m2 ≤ c2 := by rw [e2]; exact hc2
  rw [← e2]
  clear hg e0 e1 e2 hr1 hc1 hr2 hc2
  go_enter Tryz.func7, Tryz.ntmps7
  change Code.wp _ _ _ _ (w.drewN 0)
  rcases Nat.lt_or_ge 2147483647 n0 with hz0 | hz0
  · go_wp2
    go_ret
    exact Hfin.out _
  obtain ⟨t1, z1, y1⟩ := fits_f (ws := l1)
  have g1 := gd_fits R1.out C1.out z1
  rw [← M1.out] at g1
  have G := Lib.hid g1
  have F1 := Lib.hid y1
  clear g1 z1 y1
  go_wp2_with fail
  refine (G.out _).mono ?_
  rintro e u1 ⟨rfl, j1, rfl⟩
  clear G
  cases t1 with
  | false => go_wp2; go_ret; exact Hfin.out _
  | true =>
  obtain ⟨t2, z2, y2⟩ := fits_f (ws := l2)
  have g2 := gd_fits R2.out C2.out z2
  rw [← M2.out] at g2
  have G := Lib.hid g2
  have F2 := Lib.hid y2
  clear g2 z2 y2
  go_wp2_with fail
  refine (G.out _).mono ?_
  rintro e u2 ⟨rfl, j2, rfl⟩
  clear G
  cases t2 with
  | false => go_wp2; go_ret; exact Hfin.out _
  | true =>
  obtain ⟨t2, z2, y2⟩ := line_f (F2.out (by first | rfl | trivial)).2 (F2.out (by first | rfl | trivial)).1
  have g2 := gd_line R2.out C2.out z2
  rw [← M2.out] at g2
  have G := Lib.hid g2
  have Y := Lib.hid y2
  clear g2 z2 y2
  go_wp2_with fail
  refine (G.out _).mono ?_
  rintro e u3 ⟨rfl, j3, rfl⟩
  clear G
  cases t2 with
  | false => go_wp2; go_ret; exact Hfin.out _
  | true =>
  have W2 : Hid (∀ x ∈ l2, WordL x) := Lib.hid (fun x hx => ((Y.out (by first | rfl | trivial)).1 x hx).word)
  have T2 : Hid (l2.length ≤ 20) := Lib.hid (Y.out (by first | rfl | trivial)).2
  clear Y
  obtain ⟨t1, z1, y1⟩ := line_f (F1.out (by first | rfl | trivial)).2 (F1.out (by first | rfl | trivial)).1
  have g1 := gd_line R1.out C1.out z1
  rw [← M1.out] at g1
  have G := Lib.hid g1
  have Y := Lib.hid y1
  clear g1 z1 y1
  go_wp2_with fail
  refine (G.out _).mono ?_
  rintro e u4 ⟨rfl, j4, rfl⟩
  clear G
  cases t1 with
  | false => go_wp2; go_ret; exact Hfin.out _
  | true =>
  have W1 : Hid (∀ x ∈ l1, WordL x) := Lib.hid (fun x hx => ((Y.out (by first | rfl | trivial)).1 x hx).word)
  have T1 : Hid (l1.length ≤ 20) := Lib.hid (Y.out (by first | rfl | trivial)).2
  clear Y
  rcases Nat.eq_zero_or_pos m1 with e0 | hpos1
  · subst e0
    go_wp2
    go_ret
    exact Hfin.out _
  obtain ⟨x1, r1, e0⟩ : ∃ x r, l1 = x :: r := by
    cases hc : l1 with
    | nil => have := M1.out; rw [hc] at this; simp at this; omega
    | cons x r => exact ⟨x, r, rfl⟩
  have B1 := Lib.hid e0
  obtain ⟨ad1, hA, hcell⟩ := (Kd.reads_of_C (d := ByteArray.empty) R1.out).2.2 (by rw [← M1.out]; exact hpos1)
  subst hA
  have hc1 : w.cell? ad1 = some (.string (mkS x1)) := by
    have := hcell 0 (by rw [← M1.out]; exact hpos1)
    have e : ad1.add 0 = ad1 := by simp [Addr.add]
    rw [e, e0] at this
    exact this
  have qa1 : ((m1 : Int) == 0) = false := by simp; omega
  have qb1 : (0 : Int) < (m1 : Int) := by omega
  clear hcell e0
  obtain ⟨t1, h401⟩ : ∃ r, ((mkS x1).toList == ([40] : List UInt8)) = r := ⟨_, rfl⟩
  cases t1 with
  | true => go_wp2; go_ret; exact Hfin.out _
  | false =>
  have H1 : Hid (l1.head? ≠ some [40]) := Lib.hid (fun e => by
    rw [B1.out] at e
    simp at e
    rw [e, mkS_toList] at h401
    simp at h401)
  obtain ⟨t0, z0, y0⟩ := plain_f b0 (by rw [← N0.out]; exact hz0)
  have G := Lib.hid (gd_plain (w := w) z0)
  have Y := Lib.hid y0
  clear z0 y0
  go_wp2_with fail
  refine (G.out _).mono ?_
  rintro e u5 ⟨rfl, j5, rfl⟩
  clear G
  cases t0 with
  | false => go_wp2; go_ret; exact Hfin.out _
  | true =>
  have X0 : Hid (PName b0) := Lib.hid (Y.out (by first | rfl | trivial)).2
  clear Y
  have g1 := gd_has R1.out C1.out (has_f b0 (F1.out (by first | rfl | trivial)).2)
  rw [← M1.out] at g1
  obtain ⟨t1, ht1⟩ : ∃ r, (l1.any fun w => w == b0) = r := ⟨_, rfl⟩
  rw [ht1] at g1
  have G := Lib.hid g1
  have O := Lib.hid ht1
  clear g1 ht1
  go_wp2_with fail
  refine (G.out _).mono ?_
  rintro e u6 ⟨rfl, j6, rfl⟩
  clear G
  cases t1 with
  | true => go_wp2; go_ret; exact Hfin.out _
  | false =>
  have O1_0 : Hid (b0 ∉ l1) := Lib.hid (fun h => by
    have h2 : (l1.any fun w => w == b0) = true := List.any_eq_true.2 ⟨b0, h, by simp⟩
    rw [O.out] at h2
    cases h2)
  clear O
  rcases Nat.lt_or_ge 60 n0 with h60 | h60_0
  · go_wp2
    go_ret
    exact Hfin.out _
  have hn0 : b0.length ≤ 60 := by rw [← N0.out]; exact h60_0
  have hwb := W1.out
  have hno := O1_0.out
  have hb0 : l1 ≠ [] := by rw [B1.out]; simp
  have hT1 := T1.out
  have htl := textB_len l2 (fun x hx => (W2.out x hx).len)
  have hT := T2.out
  have hlen : (textB l2 ++ 10 :: []).length ≤ 5000 := by simp; omega
  have hasc : ascii (textB l2 ++ 10 :: []) := ascii_app (ascii_text W2.out) (ascii_cons (by decide) (by intro b h; cases h))
  obtain ⟨T, fl, s', mac, mn, t1, t2, t3, t4, t5, t6⟩ := first_told (yExp (textB l2 ++ 10 :: [])) X0.out W2.out hwb hb0 hT1 hT hno
  obtain ⟨nt, n1, n2⟩ := (pc_alone X0.out hn0).tl 1 1
  have hpv : Pc (lstB l1) (l1.map tokW) := by simpa using pc_lst l1 hb0 hwb [] (by intro b h; cases h)
  obtain ⟨vt, v1, v2⟩ := hpv.tl 1 1
  have hll := lstB_len l1 (fun x hx => (hwb x hx).len)
  have hvl : vt.length ≤ 1000 := by have := congrArg List.length v2; simp at this; omega
  have hpre : ∀ w1 gd dc, Strs w1 (.slice (some ⟨gd, 0, none⟩) 1 dc) [mkS (b0 ++ 61 :: lstB l1)] → Below w.heap.size w w1 → Calls Tryz.prog 52 #[.slice (some ⟨gd, 0, none⟩) 1 dc] w1 (PreG 1 (macOne b0 l1) w1) := fun w1 gd dc hs hb =>
    predefine_eq hs (name_no61 X0.out) (by rintro rfl; obtain ⟨_, _, e, _⟩ := X0.out; cases e) hn0 (by omega) X0.out.ascii (ascii_lst l1 hwb) n1 n2 v1 v2 (tok_words hwb v2) hvl (Hg.out.only (Only.ofBelow hb) (fun k hk e => by omega)) (Nat.le_trans hB hb.size)
  have hrepl := replaced_f b0 l1 (ws := l2) (by omega) hT1
  obtain ⟨kr, hkr⟩ := hrepl.rounds
  have hrl := repW_len b0 l1 hT1 l2
  have GS : Hid (∀ w' A n c, Below w.heap.size w w' → Kd.C Kd.string w' A n ((l2.flatMap (repW b0 l1)).map mkS) → n = ((l2.flatMap (repW b0 l1)).map mkS).length → n ≤ c → ∀ g, Files w' g 1 [(mainBs, mkS (textB l2 ++ 10 :: []))] → ∀ gd, Strs w' (.slice (some ⟨gd, 0, none⟩) 1 1) [mkS (b0 ++ 61 :: lstB l1)] → Calls Tryz.prog 17 #[.slice (some ⟨g, 0, none⟩) 1 1, .slice (some ⟨gd, 0, none⟩) 1 1, .slice A n c] w' (SQ w')) := Lib.hid (fun w' A n c hb hC hn hnc g hr gd hd =>
    shows_gen (l := []) hr (by simp) (by simp) (by simp [tab]) t1 hasc (by omega) (fun w1 h1 => hpre w1 gd 1 (ownsRow_only hd (fun k hk => h1.block k (ownBlock_row hd k hk).2.lt)) (hb.trans (h1.mono hb.size))) t2 t3 (by omega) t6 (by rw [t4]; exact hC) (by rw [t4]; exact hn) hnc (Hg.out.only (Only.ofBelow hb) (fun k hk e => by omega)) (Nat.le_trans hB hb.size))
  have hx : ∀ z : ByteArray, z = mkS (textB l2) → z ++ ⟨#[10]⟩ = mkS (textB l2 ++ 10 :: []) := fun z e => by
    rw [e, show (⟨#[10]⟩ : ByteArray) = mkS [10] from rfl, mkS_app]
  have htx : ∀ w', Below w.heap.size w w' → Gd w' 16 #[.slice A2 m2 c2] (.string (mkS (textB l2))) := fun w' hb => by
    have h := gd_text (Kd.C_below R2.out hb) C2.out (text_f (by omega) (fun x hx => (W2.out x hx).len))
    rwa [← M2.out] at h
  obtain ⟨x2, hx2⟩ : ∃ x, x = mkS (textB l2) := ⟨_, rfl⟩
  have z2 : x2.size = (textB l2).length := by rw [hx2, mkS_size]
  rw [← hx2] at htx
  have hx := hx x2 hx2
  obtain ⟨p2, hp2⟩ : ∃ p, p = (textB l2).length := ⟨_, rfl⟩
  rw [← hp2] at z2 htl
  have hp2' : p2 ≤ 1300 := by omega
  have HTX := Lib.hid htx
  have HX := Lib.hid hx
  have HKR := Lib.hid hkr
  have HRL := Lib.hid hrl
  have hdt : ∀ q, Calls Tryz.prog 25 #[.agg #[.int .i64 0, .string (mkS b0), .bool false, .slice none 0 0, .slice (some ad1) m1 c1, .slice none 0 0]] (w.drewN q) (DTQ (b0 ++ 61 :: lstB l1) (w.drewN q)) := fun q => by
    have h := defineText_any (w := w.drewN q) (nb := b0) hn0 (Kd.C_drewN R1.out q) C1.out hT1 (fun x hx => (hwb x hx).len)
    rwa [← M1.out] at h
  have HDT := Lib.hid hdt
  have hm : m2 ≤ 20 := by have := M2.out; simp at this; omega
  clear htx hx hkr hrepl hrl t1 t2 t3 t4 t5 t6 hlen hasc hx2 hp2 htl hT hT1 hn0 hno hb0 hwb nt n1 n2 hpv v1 v2 hvl hpre hdt hll
  go_wp2_with fail
  refine (HDT.out _).mono ?_
  rintro e v0 ⟨rfl, hbv0⟩
  have Hv0 := Lib.hid ((below_drewN (Below.refl w.heap.size w) _).trans (hbv0.mono (Nat.le_refl _)))
  clear hbv0
  go_wp2_with fail
  refine (HTX.out v0 Hv0.out 0).mono ?_
  rintro e v1 ⟨rfl, i1, rfl⟩
  have Hv1 : Hid (Below w.heap.size w (v0.drewN i1)) := Lib.hid (below_drewN Hv0.out _)
  generalize v0.drewN i1 = v1 at Hv1 ⊢
  go_wp2_with fail
  rw [HX.out]
  refine fileOf_any.mono ?_
  rintro e w9 ⟨rfl, rfl⟩
  have hfil := files_one v1 (textB l2 ++ 10 :: [])
  have hbe : Below w.heap.size w (v1.alloc (.cells #[.string mainName, .string (mkS (textB l2 ++ 10 :: []))] 49)) := Hv1.out.alloc Hv1.out.size _
  have Hfil := Lib.hid hfil
  have Hbe := Lib.hid hbe
  have Hsz9 : Hid ((v1.alloc (.cells #[.string mainName, .string (mkS (textB l2 ++ 10 :: []))] 49)).heap.size = v1.heap.size + 1) := Lib.hid (by simp)
  clear hfil hbe
  generalize v1.alloc (.cells #[.string mainName, .string (mkS (textB l2 ++ 10 :: []))] 49) = w9 at Hfil Hbe Hsz9 ⊢
  -- the list of what is told
  have hdd := row_one w9 9 (.string (mkS (b0 ++ 61 :: lstB l1)))
  have Hdd : Hid (Strs (w9.alloc (.cells #[.string (mkS (b0 ++ 61 :: lstB l1))] 9)) (.slice (some ⟨w9.heap.size, 0, none⟩) 1 1) [mkS (b0 ++ 61 :: lstB l1)]) := Lib.hid (row_zero hdd)
  have Hb10 : Hid (Below w.heap.size w (w9.alloc (.cells #[.string (mkS (b0 ++ 61 :: lstB l1))] 9))) := Lib.hid (Hbe.out.alloc Hbe.out.size _)
  have Hf10 : Hid (Files (w9.alloc (.cells #[.string (mkS (b0 ++ 61 :: lstB l1))] 9)) v1.heap.size 1 [(mainBs, mkS (textB l2 ++ 10 :: []))]) := Lib.hid (ownsRow_only Hfil.out (fun k hk => by cases hk; exact Below.heap_alloc w9 _ _ (by show v1.heap.size < _; rw [Hsz9.out]; omega)))
  clear hdd
  obtain ⟨n4, hn4⟩ : ∃ n, n = ((l2.flatMap (repW b0 l1)).map mkS).length := ⟨_, rfl⟩
  have HN4 := Lib.hid hn4
  have hn4b : n4 ≤ 500 := by
    rw [hn4, List.length_map]
    have := HRL.out
    have := M2.out
    simp at this
    omega
  clear hn4
  have Hrep : Hid (∀ W, Below w.heap.size w W → Calls Tryz.prog 19 #[.slice A2 m2 c2, .string (mkS b0), .slice (some ad1) m1 c1] W fun e w' => ∃ A4 c4, e = .returned (.slice A4 n4 c4) ∧ n4 ≤ c4 ∧ Kd.C Kd.string w' A4 n4 ((l2.flatMap (repW b0 l1)).map mkS) ∧ Below W.heap.size W w') := Lib.hid (fun W hb => by
    have h := laws_replaced.calls kr A2 c2 (l2.map mkS) (mkS b0) (some ad1) c1 (l1.map mkS) _ W (Kd.C_below R2.out hb) C2.out (Kd.C_below R1.out hb) C1.out HKR.out
    rw [← M2.out, ← M1.out] at h
    refine h.mono ?_
    rintro e w' ⟨v0, rfl, hR, hb2⟩
    obtain ⟨A2, c2, rfl, h1, h2⟩ := Kd.R_reads hR
    exact ⟨A2, c2, by rw [HN4.out], by rw [HN4.out]; exact h1, by rw [HN4.out]; exact h2, hb2⟩)
  go_wp2_with fail
  refine (Hrep.out _ Hb10.out).mono ?_
  rintro e w11 ⟨A4, c4, rfl, hc4, hC4, hb11⟩
  have hbw : Below w.heap.size w w11 := Hb10.out.trans (hb11.mono Hb10.out.size)
  have hf11 : Files w11 v1.heap.size 1 [(mainBs, mkS (textB l2 ++ 10 :: []))] := by
    have h0 := Hf10.out
    exact ownsRow_only h0 (fun k hk => hb11.block k (ownBlock_row h0 k hk).2.lt)
  have hd11 : Strs w11 (.slice (some ⟨w9.heap.size, 0, none⟩) 1 1) [mkS (b0 ++ 61 :: lstB l1)] := by
    have h0 := Hdd.out
    exact ownsRow_only h0 (fun k hk => hb11.block k (ownBlock_row h0 k hk).2.lt)
  have HGS := Lib.hid (GS.out w11 A4 n4 c4 hbw hC4 HN4.out hc4 _ hf11 _ hd11)
  have Hbw := Lib.hid hbw
  clear hbw hf11 hd11 hb11 hC4 GS Hrep
  go_wp2_with fail
  refine HGS.out.mono ?_
  rintro e w13 ⟨rfl, hb13⟩
  have Hend : Hid (LawQ w (.returned (.bool true)) w13) := Lib.hid ⟨rfl, Hbw.out.trans (hb13.mono Hbw.out.size)⟩
  clear hb13
  go_wp2
  go_ret
  exact Hend.out
end
end Go.Proofs.YtmkehbjpnajilaaGreatDoor
