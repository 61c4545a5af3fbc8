/- The law FnMacroNone's walk: it returns true. -/
import Derived.Test.YtkoeeolmbhobkaaGreatDoorJ11
/- The law FnMacroNone returns true, whatever comes in. -/
namespace Go.Proofs.YtkoeeolmbhobkaaGreatDoor
open Go Go.RowKit Lex Go.Proofs.YtkoeeolmbhobkaaGreatDoorW.PrintWords Go.Proofs.YtkoeeolmbhobkaaGreatDoor.PHelp
set_option linter.unusedVariables false
set_option linter.unusedSimpArgs false

section
variable {name : Bs} {body : List Bs}

/-- A macro alone: it is there at the end. -/
theorem none_run1 (y : Wy) (hn : PName name) (hnl : name.length ≤ 60) (hb : ∀ w ∈ body, WordL w) (hb0 : body ≠ []) (hbh : body.head? ≠ some [40]) (hb20 : body.length ≤ 20) :
    ∃ T n s', TL (defB name body []) 1 1 T ∧ Run y n ⟨[tzAb mainName T], 0, fun _ => none, [], true, []⟩ s' ∧ n < 1000 ∧ s'.mac = fun z => if z = name then some ⟨none, body.map tokW⟩ else none := by
  have hpc := pc_def hn hnl hb (tail := []) .nil [] (by intro b h; cases h)
  obtain ⟨T, h1, h2⟩ := hpc.tl 1 1
  obtain ⟨l, s1, a1, a2, a3, _, _⟩ := st_def (y := y) (at_start (nm := mainName) h2) rfl (by simp) (by simp) (by simp) rfl (by decide) hnl hb hb0 hbh hb20 rfl
  have hl : l.length = 1 := by have := congrArg List.length a2; simpa using this
  have hm := a3
  obtain ⟨_, _, _, _, _, _, _, _, hm, _, _⟩ := hm
  exact ⟨T, l.length, s1, h1, a1.run a3, by omega, hm⟩

/-- A macro that is taken away. -/
theorem none_run2 (y : Wy) (hn : PName name) (hnl : name.length ≤ 60) (hb : ∀ w ∈ body, WordL w) (hb0 : body ≠ []) (hbh : body.head? ≠ some [40]) (hb20 : body.length ≤ 20) :
    ∃ T n s', TL (defB name body (undB name [])) 1 1 T ∧ Run y n ⟨[tzAb mainName T], 0, fun _ => none, [], true, []⟩ s' ∧ n < 1000 ∧ s'.mac name = none := by
  have hpc := pc_def hn hnl hb (tail := undB name []) (pc_und hn hnl .nil [] (by intro b h; cases h)) [] (by intro b h; cases h)
  obtain ⟨T, h1, h2⟩ := hpc.tl 1 1
  obtain ⟨l, s1, a1, a2, a3, a4, _⟩ := st_def (y := y) (at_start (nm := mainName) h2) rfl (by simp) (by simp) (by simp) rfl (by decide) hnl hb hb0 hbh hb20 rfl
  obtain ⟨l2, s2, b1, b2, b3, _, _⟩ := st_undef (y := y) a3 a4 (by simp) (by simp) rfl hnl (m := ⟨none, body.map tokW⟩) (by simp)
  have hl : l.length = 1 := by have := congrArg List.length a2; simpa using this
  have hl2 : l2.length = 1 := by have := congrArg List.length b2; simpa using this
  have hm := b3
  obtain ⟨_, _, _, _, _, _, _, _, hm, _, _⟩ := hm
  exact ⟨T, (l ++ l2).length, s2, h1, (a1.app b1).run b3, by simp; omega, by rw [hm]; simp⟩
end

section
variable {w : World} {A1 : Option Addr} {c1 : Nat} {nb ob : Bs} {bs : List Bs} {ev : Value}

set_option maxRecDepth 100000 in
set_option maxHeartbeats 4000000 in
theorem none_law (hr1 : Kd.C Kd.string w A1 (bs.map mkS).length (bs.map mkS)) (hc1 : (bs.map mkS).length ≤ c1) (hg : Glob w ev) (hB : 21 ≤ w.heap.size) :
    Calls Tryz.prog 4 #[.string (mkS nb), .string (mkS ob), .slice A1 (bs.map mkS).length c1] w (LawQ w) := by
  have hs := mkS_size nb
  have hs2 := mkS_size ob
  have Hfin := Lib.hid (lawq_drewN w)
  obtain ⟨nl, hnl⟩ : ∃ nl, nl = nb.length := ⟨_, rfl⟩
  obtain ⟨ol, hol⟩ : ∃ ol, ol = ob.length := ⟨_, rfl⟩
  rw [← hnl] at hs
  rw [← hol] at hs2
  obtain ⟨bl, hbl⟩ : ∃ bl, bl = (bs.map mkS).length := ⟨_, rfl⟩
  have Hnl := Lib.hid hnl
  have Hol := Lib.hid hol
  have Hbl := Lib.hid hbl
  have HR1 := Lib.hid hr1
  have HC1 := Lib.hid hc1
  have Hg := Lib.hid hg
  rw [← hbl]
  clear hnl hol hbl hr1 hc1 hg
  rcases Nat.lt_or_ge 2147483647 nl with hn | hn
  · go_enter Tryz.func4, Tryz.ntmps4
    change Code.wp _ _ _ _ (w.drewN 0)
    go_wp2
    go_ret
    exact Hfin.out _
  rcases Nat.lt_or_ge 2147483647 ol with hn2 | hn2
  · go_enter Tryz.func4, Tryz.ntmps4
    change Code.wp _ _ _ _ (w.drewN 0)
    go_wp2
    go_ret
    exact Hfin.out _
  obtain ⟨r1, z1, z2⟩ := fits_f (ws := bs)
  have g1 := gd_fits HR1.out HC1.out z1
  rw [← Hbl.out] at g1
  have G1 := Lib.hid g1
  have Z2 := Lib.hid z2
  clear g1 z1 z2
  go_enter Tryz.func4, Tryz.ntmps4
  change Code.wp _ _ _ _ (w.drewN 0)
  go_wp2_with fail
  refine (G1.out _).mono ?_
  rintro e w1 ⟨rfl, j1, rfl⟩
  cases r1 with
  | false => go_wp2; go_ret; exact Hfin.out _
  | true =>
  obtain ⟨r2, y1, y2⟩ := line_f (Z2.out rfl).2 (Z2.out rfl).1
  have g2 := gd_line HR1.out HC1.out y1
  rw [← Hbl.out] at g2
  have G2 := Lib.hid g2
  have Y2 := Lib.hid y2
  clear g2 y1 y2
  go_wp2_with fail
  refine (G2.out _).mono ?_
  rintro e w2 ⟨rfl, j2, rfl⟩
  cases r2 with
  | false => go_wp2; go_ret; exact Hfin.out _
  | true =>
  obtain ⟨hbw, hb20⟩ := Y2.out rfl
  have HbW : Hid (∀ x ∈ bs, WordL x) := Lib.hid (fun x hx => (hbw x hx).word)
  have Hb20 := Lib.hid hb20
  clear hbw hb20 Y2 Z2
  rcases Nat.eq_zero_or_pos bl with e0 | hpos
  · subst e0
    go_wp2
    go_ret
    exact Hfin.out _
  obtain ⟨b0, br, hbs⟩ : ∃ b0 br, bs = b0 :: br := by
    cases hc : bs with
    | nil => have := Hbl.out; rw [hc] at this; simp at this; omega
    | cons b0 br => exact ⟨b0, br, rfl⟩
  have Hbs := Lib.hid hbs
  obtain ⟨ad, hA, hcell⟩ := (Kd.reads_of_C (d := ByteArray.empty) HR1.out).2.2 (by rw [← Hbl.out]; exact hpos)
  subst hA
  have hc0 : w.cell? ad = some (.string (mkS b0)) := by
    have := hcell 0 (by rw [← Hbl.out]; exact hpos)
    have e : ad.add 0 = ad := by simp [Addr.add]
    rw [e, hbs] at this
    exact this
  have q2 : ((bl : Int) == 0) = false := by simp; omega
  have q3 : (0 : Int) < (bl : Int) := by omega
  have q4 : bl ≤ c1 := by have := HC1.out; rw [← Hbl.out] at this; exact this
  obtain ⟨r40, h40⟩ : ∃ r, ((mkS b0).toList == ([40] : List UInt8)) = r := ⟨_, rfl⟩
  clear hcell hbs
  cases r40 with
  | true => go_wp2; go_ret; exact Hfin.out _
  | false =>
  obtain ⟨r3, x1, x2⟩ := plain_f nb (by rw [← Hnl.out]; exact hn)
  have G3 := Lib.hid (gd_plain (w := w) x1)
  have X2 := Lib.hid x2
  clear x1 x2
  go_wp2_with fail
  refine (G3.out _).mono ?_
  rintro e w3 ⟨rfl, j3, rfl⟩
  cases r3 with
  | false => go_wp2; go_ret; exact Hfin.out _
  | true =>
  obtain ⟨r4, x1, x2⟩ := plain_f ob (by rw [← Hol.out]; exact hn2)
  have G4 := Lib.hid (gd_plain (w := w) x1)
  clear x1 x2
  go_wp2_with fail
  refine (G4.out _).mono ?_
  rintro e w4 ⟨rfl, j4, rfl⟩
  cases r4 with
  | false => go_wp2; go_ret; exact Hfin.out _
  | true =>
  obtain ⟨r5, heq⟩ : ∃ r, ((mkS nb).toList == (mkS ob).toList) = r := ⟨_, rfl⟩
  cases r5 with
  | true => go_wp2; go_ret; exact Hfin.out _
  | false =>
  have hsum : IntKind.i64.wrap ((nl : Int) + (ol : Int)) = (nl : Int) + (ol : Int) := IntWalk.i64_in _ (by omega)
  rcases Nat.lt_or_ge 60 (nl + ol) with h60 | h60
  · have h60' : (60 : Int) < (nl : Int) + (ol : Int) := by omega
    go_wp2
    go_ret
    exact Hfin.out _
  have h60' : ¬ (60 : Int) < (nl : Int) + (ol : Int) := by omega
  have hne : nb ≠ ob := fun e => by rw [e] at heq; simp at heq
  have hPN := (X2.out (by first | rfl | trivial)).2
  have hhead : (b0 :: br).head? ≠ some [40] := fun e => by
    simp at e
    rw [e, mkS_toList] at h40
    simp at h40
  have hbW : ∀ x ∈ b0 :: br, WordL x := Hbs.out ▸ HbW.out
  have hb20 : (b0 :: br).length ≤ 20 := Hbs.out ▸ Hb20.out
  have l60b : ∀ x ∈ b0 :: br, x.length ≤ 60 := fun x hx => (hbW x hx).len
  have htb := textB_len _ l60b
  have hnb60 : nb.length ≤ 60 := by have := Hnl.out; omega
  have G5 : Hid (Gd w 16 #[.slice (some ad) bl c1] (.string (mkS (textB (b0 :: br))))) := Lib.hid (by
    have h := gd_text HR1.out HC1.out (text_f (by rw [Hbs.out]; omega) (by rw [Hbs.out]; exact l60b))
    rw [← Hbl.out, Hbs.out] at h
    exact h)
  obtain ⟨T1, n1, s1, t1, t2, t3, t4⟩ := none_run1 (yMain (defB nb (b0 :: br) [])) hPN hnb60 hbW (by simp) hhead hb20
  obtain ⟨T2, n2, s2, u1, u2, u3, u4⟩ := none_run2 (yMain (defB nb (b0 :: br) (undB nb []))) hPN hnb60 hbW (by simp) hhead hb20
  have hd1 : (defB nb (b0 :: br) []).length ≤ 3000 := by
    unfold defB
    simp only [List.length_cons, List.length_append, List.length_nil]
    have : kwDefine.length = 6 := rfl
    omega
  have hd2 : (defB nb (b0 :: br) (undB nb [])).length ≤ 3000 := by
    unfold defB undB
    simp only [List.length_cons, List.length_append, List.length_nil]
    have : kwDefine.length = 6 := rfl
    have : kwUndef.length = 5 := rfl
    omega
  have hau : ascii (undB nb []) := by
    unfold undB
    exact ascii_cons (by decide) (ascii_app (by unfold ascii; decide) (ascii_cons (by decide) (ascii_app hPN.ascii (ascii_cons (by decide) (by intro b h; cases h)))))
  have ha1 : ascii (defB nb (b0 :: br) []) := ascii_def hPN hbW (by intro b h; cases h)
  have ha2 : ascii (defB nb (b0 :: br) (undB nb [])) := ascii_def hPN hbW hau
  have hmk : ∀ t ∈ (b0 :: br).map tokW, -1000000 ≤ t.1 ∧ t.1 < 1000000 := fun t ht => by
    obtain ⟨x, hx, rfl⟩ := List.mem_map.1 ht
    have := (hbW x hx).kind
    exact ⟨this.2.2.2.2.2.1, this.2.2.2.2.2.2.1⟩
  have hgw : ∀ w', Below w.heap.size w w' → Glob w' ev ∧ 21 ≤ w'.heap.size := fun w' hb => ⟨Hg.out.only (Only.ofBelow hb) (fun k hk e => by omega), Nat.le_trans hB hb.size⟩
  have GM1 : Hid (∀ w', Below w.heap.size w w' → Calls Tryz.prog 9 #[.slice (some ⟨w'.heap.size, 0, none⟩) 1 1, .slice none 0 0, .string (mkS ob)] (w'.alloc (.cells #[.string mainName, .string (mkS (defB nb (b0 :: br) []))] 51)) (MOB false (w'.alloc (.cells #[.string mainName, .string (mkS (defB nb (b0 :: br) []))] 51)))) := Lib.hid (fun w' hb =>
    (mof (oa := none) (TK := []) (by omega) t1 ha1 t2 t3 (.inr ⟨by rw [t4]; simp [Ne.symm hne], rfl, rfl, rfl⟩) (by have := Hol.out; omega) (by simp) (by simp) (by simp) (hgw w' hb).1 (hgw w' hb).2).mono (fun e w'' h => mob_of h))
  have GM2 : Hid (∀ w', Below w.heap.size w w' → Calls Tryz.prog 9 #[.slice (some ⟨w'.heap.size, 0, none⟩) 1 1, .slice none 0 0, .string (mkS nb)] (w'.alloc (.cells #[.string mainName, .string (mkS (defB nb (b0 :: br) (undB nb [])))] 51)) (MOB false (w'.alloc (.cells #[.string mainName, .string (mkS (defB nb (b0 :: br) (undB nb [])))] 51)))) := Lib.hid (fun w' hb =>
    (mof (oa := none) (TK := []) (by omega) u1 ha2 u2 u3 (.inr ⟨u4, rfl, rfl, rfl⟩) (by omega) (by simp) (by simp) (by simp) (hgw w' hb).1 (hgw w' hb).2).mono (fun e w'' h => mob_of h))
  have GM3 : Hid (∀ w', Below w.heap.size w w' → Calls Tryz.prog 9 #[.slice (some ⟨w'.heap.size, 0, none⟩) 1 1, .slice none 0 0, .string (mkS nb)] (w'.alloc (.cells #[.string mainName, .string (mkS (defB nb (b0 :: br) []))] 51)) (MOB true (w'.alloc (.cells #[.string mainName, .string (mkS (defB nb (b0 :: br) []))] 51)))) := Lib.hid (fun w' hb =>
    (mof (oa := none) (TK := (b0 :: br).map tokW) (by omega) t1 ha1 t2 t3 (.inl ⟨by rw [t4]; simp, rfl⟩) (by omega) (by simp) (by simp at hb20 ⊢; omega) hmk (hgw w' hb).1 (hgw w' hb).2).mono (fun e w'' h => mob_of h))
  have HX : Hid ((⟨#[35, 100, 101, 102, 105, 110, 101, 32]⟩ ++ mkS nb ++ ⟨#[32]⟩ ++ mkS (textB (b0 :: br)) ++ ⟨#[10]⟩ : ByteArray) = mkS (defB nb (b0 :: br) [])) := Lib.hid (by
    have e1 : (⟨#[35, 100, 101, 102, 105, 110, 101, 32]⟩ : ByteArray) = mkS [35, 100, 101, 102, 105, 110, 101, 32] := rfl
    have e2 : (⟨#[32]⟩ : ByteArray) = mkS [32] := rfl
    have e3 : (⟨#[10]⟩ : ByteArray) = mkS [10] := rfl
    rw [e1, e2, e3]
    simp only [mkS_app]
    congr 1
    simp [defB, kwDefine])
  have HX2 : Hid ((mkS (defB nb (b0 :: br) []) ++ ⟨#[35, 117, 110, 100, 101, 102, 32]⟩ ++ mkS nb ++ ⟨#[10]⟩ : ByteArray) = mkS (defB nb (b0 :: br) (undB nb []))) := Lib.hid (by
    have e1 : (⟨#[35, 117, 110, 100, 101, 102, 32]⟩ : ByteArray) = mkS [35, 117, 110, 100, 101, 102, 32] := rfl
    have e3 : (⟨#[10]⟩ : ByteArray) = mkS [10] := rfl
    rw [e1, e3]
    simp only [mkS_app]
    congr 1
    simp [defB, undB, kwDefine, kwUndef])
  obtain ⟨x1, hx1⟩ : ∃ x1, x1 = mkS (defB nb (b0 :: br) []) := ⟨_, rfl⟩
  obtain ⟨x2, hx2⟩ : ∃ x2, x2 = mkS (defB nb (b0 :: br) (undB nb [])) := ⟨_, rfl⟩
  obtain ⟨xt, hxt⟩ : ∃ xt, xt = mkS (textB (b0 :: br)) := ⟨_, rfl⟩
  have hz1 : x1.size ≤ 3000 := by rw [hx1, mkS_size]; exact hd1
  have hzt : xt.size ≤ 3000 := by rw [hxt, mkS_size]; omega
  rw [← hx1] at GM1 GM3 HX HX2
  rw [← hx2] at GM2 HX2
  rw [← hxt] at G5 HX
  obtain ⟨z1, hz1e⟩ : ∃ z, x1.size = z := ⟨_, rfl⟩
  obtain ⟨zt, hzte⟩ : ∃ z, xt.size = z := ⟨_, rfl⟩
  rw [hz1e] at hz1
  rw [hzte] at hzt
  clear t1 t2 t3 t4 u1 u2 u3 u4 hd1 hd2 hau ha1 ha2 hmk hgw hx1 hx2 hxt htb l60b hbW hb20 hhead hPN hnb60 hne HbW Hb20 Hbs
  go_wp2_with fail
  refine (G5.out _).mono ?_
  rintro e w5 ⟨rfl, j5, rfl⟩
  go_wp2_with fail
  rw [HX.out]
  refine fileOf_any.mono ?_
  rintro e w9 ⟨rfl, rfl⟩
  go_wp2_with fail
  refine (GM1.out _ (below_drewN (Below.refl _ _) _)).mono ?_
  rintro e w10 ⟨aa, al, ac, ta, tl, tc, rfl, hb10⟩
  have HB10 : Hid (Below w.heap.size w w10) := Lib.hid (((below_drewN (Below.refl _ _) _).alloc (Nat.le_refl _) _).trans (hb10.mono (by simp)))
  clear hb10
  go_wp2_with fail
  rw [HX2.out]
  refine fileOf_any.mono ?_
  rintro e w11 ⟨rfl, rfl⟩
  go_wp2_with fail
  refine (GM2.out _ (by first | exact HB10.out | exact below_drewN HB10.out _)).mono ?_
  rintro e w12 ⟨aa2, al2, ac2, ta2, tl2, tc2, rfl, hb12⟩
  have HB12 : Hid (Below w.heap.size w w12) := Lib.hid (by
    refine Below.trans ?_ (hb12.mono ?_)
    · first | exact HB10.out.alloc HB10.out.size _ | exact (below_drewN HB10.out _).alloc HB10.out.size _
    · have := HB10.out.size; simp; omega)
  clear hb12
  go_wp2_with fail
  refine fileOf_any.mono ?_
  rintro e w13 ⟨rfl, rfl⟩
  go_wp2_with fail
  refine (GM3.out _ (by first | exact HB12.out | exact below_drewN HB12.out _)).mono ?_
  rintro e w14 ⟨aa3, al3, ac3, ta3, tl3, tc3, rfl, hb14⟩
  have HB14 : Hid (Below w.heap.size w w14) := Lib.hid (by
    refine Below.trans ?_ (hb14.mono ?_)
    · first | exact HB12.out.alloc HB12.out.size _ | exact (below_drewN HB12.out _).alloc HB12.out.size _
    · have := HB12.out.size; simp; omega)
  clear hb14
  go_wp2
  go_ret
  first | exact ⟨rfl, HB14.out⟩ | exact ⟨rfl, below_drewN HB14.out _⟩

/-- .. as the row wants it. -/
theorem none_row {b0 b1 : Bs} {l2 : List Bs} {A2 : Option Addr} {c2 : Nat} (h2 : Kd.C Kd.string w A2 (l2.map mkS).length (l2.map mkS)) (k2 : (l2.map mkS).length ≤ c2) (hg : Glob w ev) (hB : 21 ≤ w.heap.size) :
    Calls Tryz.prog 4 #[.string (mkS b0), .string (mkS b1), .slice A2 (l2.map mkS).length c2] w (LawQ w) := none_law h2 k2 hg hB
end
end Go.Proofs.YtkoeeolmbhobkaaGreatDoor
