/- The law FnInclude's walk: it returns true. -/
import Derived.Test.YtmkehbjpnajilaaGreatDoorJ10
import Derived.Test.YtmkehbjpnajilaaGreatDoorJ11
import Derived.Test.YtmkehbjpnajilaaGreatDoorJ8
import Derived.Test.YtmkehbjpnajilaaGreatDoorJ9
/- What is told of a file that includes another; plain lists. -/
namespace Go.Proofs.YtmkehbjpnajilaaGreatDoor
open Go Go.RowKit Lex Go.Proofs.YtmkehbjpnajilaaGreatDoorW.PrintWords Go.Proofs.YtmkehbjpnajilaaGreatDoor.PHelp
set_option linter.unusedVariables false
set_option linter.unusedSimpArgs false

def insBs : Bs := [105, 110, 115, 105, 100, 101, 46, 104]
/-- The line that includes a file. -/
def incB (q : Bs) (tail : Bs) : Bs := 35 :: (kwInclude ++ 32 :: 34 :: (q ++ 34 :: 10 :: tail))
/-- The two files. -/
def incF (before after : List Bs) : Bs := textB before ++ 10 :: incB insBs (textB after ++ 10 :: [])
def insF (inside : List Bs) (name : Bs) (body : List Bs) : Bs := textB inside ++ 10 :: defB name body []

theorem pn_include : PName kwInclude := ⟨105, [110, 99, 108, 117, 100, 101], by decide, by decide, by decide⟩
theorem pc_inc {q : Bs} (hq : ∀ b ∈ q, isStr b = true) (hl : q.length ≤ 58) {tail : Bs} {ts : List (Int × Bs)} (ht : Pc tail ts) : Pc (incB q tail) ((35, [35]) :: (-2, kwInclude) :: (-6, 34 :: (q ++ [34])) :: (10, [10]) :: ts) := by
  refine .cons (z := [35]) (.one (ws := []) (k := ((35 : UInt8).toNat : Int)) (x := [35]) (r' := kwInclude ++ 32 :: 34 :: (q ++ 34 :: 10 :: tail)) (by intro b h; cases h) (.char (by decide)) (by decide) (by simp) (by intro d n e; cases e)) (by decide) ?_
  refine pc_nm (p := []) pn_include (by decide) (by decide) (by intro b h; cases h) ?_
  have h1 : TNext ([32] ++ ((34 :: (q ++ [34])) ++ 10 :: tail)) (-6) (34 :: (q ++ [34])) ([32] ++ (34 :: (q ++ [34]))) (10 :: tail) := .one blanks_one (.str hq) (by decide) (by simp; omega) (by intro d n e; cases e)
  have e : [32] ++ ((34 :: (q ++ [34])) ++ 10 :: tail) = 32 :: 34 :: (q ++ 34 :: 10 :: tail) := by simp
  rw [e] at h1
  exact .cons h1 (by decide) (pc_nl (p := []) (by intro b h; cases h) ht)

theorem inc_told {before inside body after : List Bs} {name : Bs} (hn : PName name) (hnl : name.length ≤ 60) (hbe : ∀ w ∈ before, WordL w) (hin : ∀ w ∈ inside, WordL w) (hb : ∀ w ∈ body, WordL w) (haf : ∀ w ∈ after, WordL w) (hb0 : body ≠ []) (hbh : body.head? ≠ some [40]) (hb20 : body.length ≤ 20) (he20 : before.length ≤ 20) (hi20 : inside.length ≤ 20) (ha20 : after.length ≤ 20) (hno : name ∉ body)
    (hun : ∀ w, Calls Tryz.prog 99 #[.string (mkS (34 :: (insBs ++ [34])))] w (UnqQ insBs w)) (ha : ascii (insF inside name body)) :
    ∃ T l s' mac mn, TL (incF before after) 1 1 T ∧ StT (yFil (incF before after) [(insBs, mkS (insF inside name body))]) l ⟨[tzAb mainName T], 0, fun _ => none, [], true, []⟩ s' ∧ At s' mainName [] [] mac [] mn ∧ shown (l.map Fd.kx) = (before ++ inside) ++ after.flatMap (repW name body) ∧ l.length ≤ 1000 ∧ ∀ f ∈ l, -1000000 ≤ f.k ∧ f.k < 1000000 := by
  have hpc := pc_line hbe (tail := incB insBs (textB after ++ 10 :: [])) (pc_inc (q := insBs) (by decide) (by decide) (tail := textB after ++ 10 :: []) (by simpa using pc_line haf .nil [] (by intro b h; cases h))) [] (by intro b h; cases h)
  obtain ⟨T, h1, h2⟩ := hpc.tl 1 1
  have hpi := pc_line hin (tail := defB name body []) (by simpa using pc_def hn hnl hb .nil [] (by intro b h; cases h)) [] (by intro b h; cases h)
  obtain ⟨T2, i1, i2⟩ := hpi.tl 1 1
  have hlen : (insF inside name body).length < 900000 := by
    have e1 := textB_len inside (fun x hx => (hin x hx).len)
    have e2 := textB_len body (fun x hx => (hb x hx).len)
    have : kwDefine.length = 6 := rfl
    simp only [insF, defB, List.length_cons, List.length_append, List.length_nil]
    omega
  have hat := at_start (nm := mainName) h2
  obtain ⟨l1, s1, a1, a2, a3, _⟩ := st_ws (y := yFil (incF before after) [(insBs, mkS (insF inside name body))]) (by simp) (by simp) rfl before _ (fun w hw => ⟨hbe w hw, rfl⟩) hat
  obtain ⟨l2, s2, b1, b2, b3, b4, _⟩ := st_nl (y := yFil (incF before after) [(insBs, mkS (insF inside name body))]) a3 (by simp) (by simp) rfl
  obtain ⟨l3, s3, o, c1, c2, c3, c4, c5, c6, c7⟩ := st_incl (y := yFil (incF before after) [(insBs, mkS (insF inside name body))]) (T := T2) b3 b4 (by simp) (by simp) rfl hun (by rfl) (by decide) (by simpa [insF] using i1) ha hlen
  rw [i2] at c3
  obtain ⟨l4, s4, d1, d2, d3, _⟩ := st_ws (y := yFil (incF before after) [(insBs, mkS (insF inside name body))]) (by simp) (by simp) rfl inside _ (fun w hw => ⟨hin w hw, rfl⟩) c3
  obtain ⟨l5, s5, e1, e2, e3, e4, _⟩ := st_nl (y := yFil (incF before after) [(insBs, mkS (insF inside name body))]) d3 (by simp) (by simp) rfl
  obtain ⟨l6, s6, f1, f2, f3, f4, _⟩ := st_def (y := yFil (incF before after) [(insBs, mkS (insF inside name body))]) e3 e4 (fun q hq => by simp at hq; rw [hq]; exact c5) (by simp) (by simp) rfl (by decide) hnl hb hb0 hbh hb20 rfl
  have f3' := at_pop f3 c5 c6 c7
  obtain ⟨l7, s7, g1, g2, g3, _⟩ := st_words (y := yFil (incF before after) [(insBs, mkS (insF inside name body))]) (rep_one hb hb0 hb20 hno) (by simp) (by simp) rfl after _ (fun w hw => ⟨haf w hw, fun h => (haf w hw).name_kind (mac_one h ▸ hn)⟩) f3'
  obtain ⟨l8, s8, k1, k2, k3, _, _⟩ := st_nl (y := yFil (incF before after) [(insBs, mkS (insF inside name body))]) g3 (by simp) (by simp) rfl
  have hs := a1.app (b1.app (c1.app (d1.app (e1.app (f1.app (g1.app k1))))))
  refine ⟨T, _, s8, _, _, h1, hs, k3, ?_, ?_, hs.kinds⟩
  · simp only [List.map_append, shown_app]
    rw [a2, b2, c2, d2, e2, f2, g2, k2, shown_words hbe, shown_words hin, shown_words (fun w hw => ?_)]
    · simp [shown, isShown]
    · obtain ⟨x, hx, hw⟩ := List.mem_flatMap.1 hw
      unfold repW at hw
      split at hw
      · exact hb w hw
      · simp at hw; rw [hw]; exact haf x hx
  · have m1 := congrArg List.length a2
    have m2 := congrArg List.length b2
    have m3 := congrArg List.length c2
    have m4 := congrArg List.length d2
    have m5 := congrArg List.length e2
    have m6 := congrArg List.length f2
    have m7 := congrArg List.length g2
    have m8 := congrArg List.length k2
    have m9 := repW_len name body hb20 after
    simp at m1 m2 m3 m4 m5 m6 m7 m8
    simp only [List.length_append]
    have m0 : (after.flatMap (repW name body)).length = (List.map (fun a => (repW name body a).length) after).sum := by simp [List.length_flatMap]
    omega
end Go.Proofs.YtmkehbjpnajilaaGreatDoor

/- Unquote: a text between its marks, where nothing in it is escaped. -/
namespace Go.Proofs.YtmkehbjpnajilaaGreatDoor
open Go Go.RowKit Lex
set_option linter.unusedVariables false
set_option linter.unusedSimpArgs false

set_option maxRecDepth 100000 in
theorem sc_index (s : ByteArray) (c : Int) (w : World) :
    Calls Tryz.prog 141 #[.string s, .int .u8 c] w fun e w' => e = .returned (.int .i64 (Go.Lib.indexByte s.data.toList c.toNat.toUInt8)) ∧ w' = w := by
  go_enter Tryz.func141, Tryz.ntmps141
  go_wp2
  rw [run_callFunc_extern Tryz.func106 (by kernel_rfl) (by kernel_rfl) (by kernel_rfl) (e := Extern.BytealgIndexByte.indexByte) (by kernel_rfl), Go.Lib.run_indexByteString]
  simp only [Result.andThen]
  rw [Oper.upon_value]
  go_wp2
  go_ret
  exact ⟨rfl, rfl⟩
set_option maxRecDepth 100000 in
theorem sc_none (s : Bs) (c : UInt8) (h : c ∉ s) (w : World) :
    Calls Tryz.prog 142 #[.string (mkS s), .int .u8 (c.toNat : Int)] w fun e w' => e = .returned (.bool false) ∧ w' = w := by
  go_enter Tryz.func142, Tryz.ntmps142
  go_wp2_with fail
  refine (sc_index _ _ _).mono ?_
  rintro e w1 ⟨rfl, rfl⟩
  have hx : Go.Lib.indexByte (mkS s).data.toList ((c.toNat : Int).toNat.toUInt8) = -1 := by
    rw [show (mkS s).data.toList = s by simp [mkS], show ((c.toNat : Int).toNat.toUInt8) = c by simp]
    exact index_none h
  rw [hx]
  go_wp2
  go_ret
  exact ⟨rfl, rfl⟩

/-- Bytes below 128. -/
def VLoop (w : World) (n : Nat) (v : Value) (wr : World) : Prop := ∃ t : Bs, v = .string (mkS t) ∧ (∀ b ∈ t, b < 128) ∧ t.length < n ∧ t.length ≤ 9 ∧ ∃ m, wr = w.drewN m

set_option maxRecDepth 100000 in
set_option maxHeartbeats 2000000 in
theorem valid_short {x : Bs} (ha : ∀ b ∈ x, b < 128) (hl : x.length ≤ 9) (w : World) :
    Calls Tryz.prog 143 #[.string (mkS x)] w (fun e w' => e = .returned (.bool true) ∧ ∃ m, w' = w.drewN m) := by
  go_enter Tryz.func143, Tryz.ntmps143
  go_wp2
  go_loopg [0] (x.length + 1) (fun n v wr => VLoop w n v wr)
  case atStart => exact ⟨x, rfl, ha, by omega, hl, 0, rfl⟩
  case round =>
    obtain ⟨t, rfl, hta, htn, htl, m, rfl⟩ := hrel
    cases t with
    | nil =>
      go_wp2
      go_ret
      exact ⟨rfl, _, rfl⟩
    | cons c r =>
      have hc : c < 128 := hta c (by simp)
      have hs : (mkS (c :: r)).size = r.length + 1 := by rw [mkS_size]; rfl
      have h0 : (0 : Int) < ((r.length + 1 : Nat) : Int) := by omega
      have hr : r.length ≤ 8 := by simp at htl; omega
      have hx : (mkS (c :: r)).extract 1 (r.length + 1) = mkS r := by
        apply ByteArray.ext
        simp [mkS, ByteArray.data_extract]
      have hi : 0 < (mkS (c :: r)).size := by rw [hs]; omega
      have h128 : (((mkS (c :: r))[0]'hi).toNat : Int) < 128 := by
        have e : (mkS (c :: r))[0]'hi = c := rfl
        rw [e]
        have : c.toNat < 128 := hc
        omega
      have h8 : ¬ (8 : Int) < (r.length : Int) := by omega
      have hsr : (mkS r).size = r.length := mkS_size r
      have hta' : ∀ b ∈ r, b < 128 := fun b hb => hta b (by simp [hb])
      have hrel : ∀ k, VLoop w (gk - 1) (.string (mkS r)) (w.drewN k) := fun k => ⟨r, rfl, hta', by simp at htn; omega, by omega, k, rfl⟩
      have Hrel := Lib.hid hrel
      have hgk : gk - 1 < gk := by omega
      clear hta hta' hrel htn htl ha hl hc
      go_wp2
      go_roundg (gk - 1)
      case measure => exact hgk
      case rel => exact Hrel.out _

theorem str_no {x : Bs} (h : ∀ b ∈ x, isStr b = true) : (34 : UInt8) ∉ x ∧ (92 : UInt8) ∉ x ∧ (10 : UInt8) ∉ x ∧ ∀ b ∈ x, b < 128 := by
  refine ⟨fun hm => ?_, fun hm => ?_, fun hm => ?_, fun b hb => ?_⟩
  · have := h _ hm; revert this; decide
  · have := h _ hm; revert this; decide
  · have := h _ hm; revert this; decide
  · have := h b hb
    unfold isStr at this
    simp at this
    have h2 : b.toNat ≤ 126 := this.1.1.2
    show b.toNat < 128
    omega

set_option maxRecDepth 100000 in
set_option maxHeartbeats 2000000 in
theorem unquote_in {x : Bs} (hx : ∀ b ∈ x, isStr b = true) (hl : x.length ≤ 9) (w : World) :
    Calls Tryz.prog 120 #[.string (mkS (34 :: (x ++ [34]))), .bool true] w (fun e w' => e = .returned (.tuple #[.string (mkS x), .string ⟨#[]⟩, .nilIface]) ∧ ∃ m, w' = w.drewN m) := by
  obtain ⟨n1, n2, n3, n4⟩ := str_no hx
  obtain ⟨d, hd⟩ : ∃ d, d = mkS (34 :: (x ++ [34])) := ⟨_, rfl⟩
  have hs : d.size = x.length + 2 := by rw [hd, mkS_size]; simp
  have hi : 0 < d.size := by rw [hs]; omega
  have h34 : (((d)[0]'hi).toNat : Int) = 34 := by subst hd; rfl
  have hk : (x ++ [(34 : UInt8)]).take (x.length + 1) = x ++ [34] := List.take_of_length_le (by simp)
  have e1 : d.extract 1 (x.length + 2) = mkS (x ++ [34]) := by
    rw [hd]
    apply ByteArray.ext
    simp [mkS, ByteArray.data_extract, hk]
  have e2 : d.extract 0 (x.length + 2) = d := by
    rw [hd]
    apply ByteArray.ext
    simp [mkS, ByteArray.data_extract, hk]
  have e3 : d.extract 1 (x.length + 1) = mkS x := by
    rw [hd]
    apply ByteArray.ext
    simp [mkS, ByteArray.data_extract]
  have e4 : d.extract (x.length + 2) (x.length + 2) = ⟨#[]⟩ := by
    apply ByteArray.ext
    simp [ByteArray.data_extract]
  have hidx : Go.Lib.indexByte (mkS (x ++ [34])).data.toList ((34 : Int).toNat.toUInt8) = ((x.length : Nat) : Int) := by
    rw [show (mkS (x ++ [34])).data.toList = x ++ 34 :: [] by simp [mkS]]
    exact index_at n1
  have h92 : ∀ w, Calls Tryz.prog 142 #[.string d, .int .u8 92] w fun e w' => e = .returned (.bool false) ∧ w' = w := fun w => hd ▸ sc_none (34 :: (x ++ [34])) 92 (by simp [n2]) w
  have h10 : ∀ w, Calls Tryz.prog 142 #[.string d, .int .u8 10] w fun e w' => e = .returned (.bool false) ∧ w' = w := fun w => hd ▸ sc_none (34 :: (x ++ [34])) 10 (by simp [n3]) w
  have H92 := Lib.hid h92
  have H10 := Lib.hid h10
  have Hv := Lib.hid (fun w => valid_short n4 hl w)
  obtain ⟨n, hn⟩ : ∃ n, n = x.length := ⟨_, rfl⟩
  rw [← hn] at hs e1 e2 e3 e4 hidx hl
  have ew : IntKind.i64.wrap ((n : Int) + 2) = (n : Int) + 2 := IntWalk.i64_in _ (by omega)
  have ew2 : IntKind.i64.wrap ((n : Int) + 2 - 1) = (n : Int) + 1 := by rw [IntWalk.i64_in _ (by omega)]; omega
  have hsx : (mkS x).size = n := by rw [mkS_size, hn]
  rw [← hd]
  clear hx n1 n2 n3 n4 hd hn hk h92 h10
  go_enter Tryz.func120, Tryz.ntmps120
  change Code.wp _ _ _ _ (w.drewN 0)
  go_wp2_with fail
  refine (sc_index _ _ _).mono ?_
  rintro e w1 ⟨rfl, rfl⟩
  rw [hidx]
  go_wp2_with fail
  refine (H92.out _).mono ?_
  rintro e w2 ⟨rfl, rfl⟩
  go_wp2_with fail
  refine (H10.out _).mono ?_
  rintro e w3 ⟨rfl, rfl⟩
  go_wp2_with fail
  refine (Hv.out _).mono ?_
  rintro e w4 ⟨rfl, m4, rfl⟩
  go_wp2_with fail
  go_quiet (fail)
  rw [e4]
  go_wp2
  exact bodyPost_ret (v := .tuple #[.string (mkS x), .string ⟨#[]⟩, .nilIface]) (by simp [results, Tryz.results120, go_sem]) rfl ⟨rfl, m4 + nq, by simp [World.drewN, Nat.add_assoc]⟩

set_option maxRecDepth 100000 in
theorem unquote_any {x : Bs} (hx : ∀ b ∈ x, isStr b = true) (hl : x.length ≤ 9) (w : World) :
    Calls Tryz.prog 99 #[.string (mkS (34 :: (x ++ [34])))] w (UnqQ x w) := by
  have H := Lib.hid (unquote_in hx hl w)
  clear hx hl
  go_enter Tryz.func99, Tryz.ntmps99
  go_wp2_with fail
  refine H.out.mono ?_
  rintro e w1 ⟨rfl, m, rfl⟩
  go_wp2
  go_ret2
  exact ⟨rfl, below_drewN (Below.refl _ _) _⟩
end Go.Proofs.YtmkehbjpnajilaaGreatDoor

/- The law FnInclude returns true, whatever comes in. -/
namespace Go.Proofs.YtmkehbjpnajilaaGreatDoor
open Go Go.RowKit Lex Go.Proofs.YtmkehbjpnajilaaGreatDoorW.PrintWords Go.Proofs.YtmkehbjpnajilaaGreatDoor.PHelp
set_option linter.unusedVariables false
set_option linter.unusedSimpArgs false

theorem infoFile : (Tryz.prog.info? 49).map (fun i => (i.zero, i.size, i.bytes)) = some (some (.agg #[.string ⟨#[]⟩, .string ⟨#[]⟩]), 2, 32) := by kernel_rfl
def insName : ByteArray := ⟨#[105, 110, 115, 105, 100, 101, 46, 104]⟩

section
variable {w : World} {ev : Value} {l0 : List Bs} {A0 : Option Addr} {c0 : Nat} {l1 : List Bs} {A1 : Option Addr} {c1 : Nat} {b2 : Bs} {l3 : List Bs} {A3 : Option Addr} {c3 : Nat} {l4 : List Bs} {A4 : Option Addr} {c4 : Nat}
set_option maxRecDepth 100000 in
set_option maxHeartbeats 4000000 in
theorem inc_law (hr0 : Kd.C Kd.string w A0 (l0.map mkS).length (l0.map mkS)) (hc0 : (l0.map mkS).length ≤ c0) (hr1 : Kd.C Kd.string w A1 (l1.map mkS).length (l1.map mkS)) (hc1 : (l1.map mkS).length ≤ c1) (hr3 : Kd.C Kd.string w A3 (l3.map mkS).length (l3.map mkS)) (hc3 : (l3.map mkS).length ≤ c3) (hr4 : Kd.C Kd.string w A4 (l4.map mkS).length (l4.map mkS)) (hc4 : (l4.map mkS).length ≤ c4) (hg : Glob w ev) (hB : 21 ≤ w.heap.size) :
    Calls Tryz.prog 10 #[.slice A0 (l0.map mkS).length c0, .slice A1 (l1.map mkS).length c1, .string (mkS b2), .slice A3 (l3.map mkS).length c3, .slice A4 (l4.map mkS).length c4] w (LawQ w) := by
  have Hfin := Lib.hid (lawq_drewN w)
  have Hg := Lib.hid hg
  obtain ⟨m0, e0⟩ : ∃ m, m = (l0.map mkS).length := ⟨_, rfl⟩
  have M0 := Lib.hid e0
  have R0 := Lib.hid hr0
  have C0 := Lib.hid hc0
  have q0 : m0 ≤ c0 := by rw [e0]; exact hc0
  rw [← e0]
  obtain ⟨m1, e1⟩ : ∃ m, m = (l1.map mkS).length := ⟨_, rfl⟩
  have M1 := Lib.hid e1
  have R1 := Lib.hid hr1
  have C1 := Lib.hid hc1
  have q1 : m1 ≤ c1 := by rw [e1]; exact hc1
  rw [← e1]
  have s2 := mkS_size b2
  obtain ⟨n2, e2⟩ : ∃ n, n = b2.length := ⟨_, rfl⟩
  rw [← e2] at s2
  have N2 := Lib.hid e2
  obtain ⟨m3, e3⟩ : ∃ m, m = (l3.map mkS).length := ⟨_, rfl⟩
  have M3 := Lib.hid e3
  have R3 := Lib.hid hr3
  have C3 := Lib.hid hc3
  have q3 : m3 ≤ c3 := by rw [e3]; exact hc3
  rw [← e3]
  obtain ⟨m4, e4⟩ : ∃ m, m = (l4.map mkS).length := ⟨_, rfl⟩
  have M4 := Lib.hid e4
  have R4 := Lib.hid hr4
  have C4 := Lib.hid hc4
  have q4 : m4 ≤ c4 := by rw [e4]; exact hc4
  rw [← e4]
  clear hg e0 e1 e2 e3 e4 hr0 hc0 hr1 hc1 hr3 hc3 hr4 hc4
  go_enter Tryz.func10, Tryz.ntmps10
  change Code.wp _ _ _ _ (w.drewN 0)
  obtain ⟨t0, z0, y0⟩ := fits_f (ws := l0)
  have g0 := gd_fits R0.out C0.out z0
  rw [← M0.out] at g0
  have G := Lib.hid g0
  have F0 := Lib.hid y0
  clear g0 z0 y0
  go_wp2_with fail
  refine (G.out _).mono ?_
  rintro e u1 ⟨rfl, j1, rfl⟩
  clear G
  cases t0 with
  | false => go_wp2; go_ret; exact Hfin.out _
  | true =>
  obtain ⟨t1, z1, y1⟩ := fits_f (ws := l1)
  have g1 := gd_fits R1.out C1.out z1
  rw [← M1.out] at g1
  have G := Lib.hid g1
  have F1 := Lib.hid y1
  clear g1 z1 y1
  go_wp2_with fail
  refine (G.out _).mono ?_
  rintro e u2 ⟨rfl, j2, rfl⟩
  clear G
  cases t1 with
  | false => go_wp2; go_ret; exact Hfin.out _
  | true =>
  rcases Nat.lt_or_ge 2147483647 n2 with hz2 | hz2
  · go_wp2
    go_ret
    exact Hfin.out _
  obtain ⟨t3, z3, y3⟩ := fits_f (ws := l3)
  have g3 := gd_fits R3.out C3.out z3
  rw [← M3.out] at g3
  have G := Lib.hid g3
  have F3 := Lib.hid y3
  clear g3 z3 y3
  go_wp2_with fail
  refine (G.out _).mono ?_
  rintro e u3 ⟨rfl, j3, rfl⟩
  clear G
  cases t3 with
  | false => go_wp2; go_ret; exact Hfin.out _
  | true =>
  obtain ⟨t4, z4, y4⟩ := fits_f (ws := l4)
  have g4 := gd_fits R4.out C4.out z4
  rw [← M4.out] at g4
  have G := Lib.hid g4
  have F4 := Lib.hid y4
  clear g4 z4 y4
  go_wp2_with fail
  refine (G.out _).mono ?_
  rintro e u4 ⟨rfl, j4, rfl⟩
  clear G
  cases t4 with
  | false => go_wp2; go_ret; exact Hfin.out _
  | true =>
  obtain ⟨t0, z0, y0⟩ := line_f (F0.out (by first | rfl | trivial)).2 (F0.out (by first | rfl | trivial)).1
  have g0 := gd_line R0.out C0.out z0
  rw [← M0.out] at g0
  have G := Lib.hid g0
  have Y := Lib.hid y0
  clear g0 z0 y0
  go_wp2_with fail
  refine (G.out _).mono ?_
  rintro e u5 ⟨rfl, j5, rfl⟩
  clear G
  cases t0 with
  | false => go_wp2; go_ret; exact Hfin.out _
  | true =>
  have W0 : Hid (∀ x ∈ l0, WordL x) := Lib.hid (fun x hx => ((Y.out (by first | rfl | trivial)).1 x hx).word)
  have T0 : Hid (l0.length ≤ 20) := Lib.hid (Y.out (by first | rfl | trivial)).2
  clear Y
  obtain ⟨t1, z1, y1⟩ := line_f (F1.out (by first | rfl | trivial)).2 (F1.out (by first | rfl | trivial)).1
  have g1 := gd_line R1.out C1.out z1
  rw [← M1.out] at g1
  have G := Lib.hid g1
  have Y := Lib.hid y1
  clear g1 z1 y1
  go_wp2_with fail
  refine (G.out _).mono ?_
  rintro e u6 ⟨rfl, j6, rfl⟩
  clear G
  cases t1 with
  | false => go_wp2; go_ret; exact Hfin.out _
  | true =>
  have W1 : Hid (∀ x ∈ l1, WordL x) := Lib.hid (fun x hx => ((Y.out (by first | rfl | trivial)).1 x hx).word)
  have T1 : Hid (l1.length ≤ 20) := Lib.hid (Y.out (by first | rfl | trivial)).2
  clear Y
  obtain ⟨t4, z4, y4⟩ := line_f (F4.out (by first | rfl | trivial)).2 (F4.out (by first | rfl | trivial)).1
  have g4 := gd_line R4.out C4.out z4
  rw [← M4.out] at g4
  have G := Lib.hid g4
  have Y := Lib.hid y4
  clear g4 z4 y4
  go_wp2_with fail
  refine (G.out _).mono ?_
  rintro e u7 ⟨rfl, j7, rfl⟩
  clear G
  cases t4 with
  | false => go_wp2; go_ret; exact Hfin.out _
  | true =>
  have W4 : Hid (∀ x ∈ l4, WordL x) := Lib.hid (fun x hx => ((Y.out (by first | rfl | trivial)).1 x hx).word)
  have T4 : Hid (l4.length ≤ 20) := Lib.hid (Y.out (by first | rfl | trivial)).2
  clear Y
  obtain ⟨t3, z3, y3⟩ := line_f (F3.out (by first | rfl | trivial)).2 (F3.out (by first | rfl | trivial)).1
  have g3 := gd_line R3.out C3.out z3
  rw [← M3.out] at g3
  have G := Lib.hid g3
  have Y := Lib.hid y3
  clear g3 z3 y3
  go_wp2_with fail
  refine (G.out _).mono ?_
  rintro e u8 ⟨rfl, j8, rfl⟩
  clear G
  cases t3 with
  | false => go_wp2; go_ret; exact Hfin.out _
  | true =>
  have W3 : Hid (∀ x ∈ l3, WordL x) := Lib.hid (fun x hx => ((Y.out (by first | rfl | trivial)).1 x hx).word)
  have T3 : Hid (l3.length ≤ 20) := Lib.hid (Y.out (by first | rfl | trivial)).2
  clear Y
  rcases Nat.eq_zero_or_pos m3 with e0 | hpos3
  · subst e0
    go_wp2
    go_ret
    exact Hfin.out _
  obtain ⟨x3, r3, e0⟩ : ∃ x r, l3 = x :: r := by
    cases hc : l3 with
    | nil => have := M3.out; rw [hc] at this; simp at this; omega
    | cons x r => exact ⟨x, r, rfl⟩
  have B3 := Lib.hid e0
  obtain ⟨ad3, hA, hcell⟩ := (Kd.reads_of_C (d := ByteArray.empty) R3.out).2.2 (by rw [← M3.out]; exact hpos3)
  subst hA
  have hc3 : w.cell? ad3 = some (.string (mkS x3)) := by
    have := hcell 0 (by rw [← M3.out]; exact hpos3)
    have e : ad3.add 0 = ad3 := by simp [Addr.add]
    rw [e, e0] at this
    exact this
  have qa3 : ((m3 : Int) == 0) = false := by simp; omega
  have qb3 : (0 : Int) < (m3 : Int) := by omega
  clear hcell e0
  obtain ⟨t3, h403⟩ : ∃ r, ((mkS x3).toList == ([40] : List UInt8)) = r := ⟨_, rfl⟩
  cases t3 with
  | true => go_wp2; go_ret; exact Hfin.out _
  | false =>
  have H3 : Hid (l3.head? ≠ some [40]) := Lib.hid (fun e => by
    rw [B3.out] at e
    simp at e
    rw [e, mkS_toList] at h403
    simp at h403)
  obtain ⟨t2, z2, y2⟩ := plain_f b2 (by rw [← N2.out]; exact hz2)
  have G := Lib.hid (gd_plain (w := w) z2)
  have Y := Lib.hid y2
  clear z2 y2
  go_wp2_with fail
  refine (G.out _).mono ?_
  rintro e u9 ⟨rfl, j9, rfl⟩
  clear G
  cases t2 with
  | false => go_wp2; go_ret; exact Hfin.out _
  | true =>
  have X2 : Hid (PName b2) := Lib.hid (Y.out (by first | rfl | trivial)).2
  clear Y
  have g3 := gd_has R3.out C3.out (has_f b2 (F3.out (by first | rfl | trivial)).2)
  rw [← M3.out] at g3
  obtain ⟨t3, ht3⟩ : ∃ r, (l3.any fun w => w == b2) = r := ⟨_, rfl⟩
  rw [ht3] at g3
  have G := Lib.hid g3
  have O := Lib.hid ht3
  clear g3 ht3
  go_wp2_with fail
  refine (G.out _).mono ?_
  rintro e u10 ⟨rfl, j10, rfl⟩
  clear G
  cases t3 with
  | true => go_wp2; go_ret; exact Hfin.out _
  | false =>
  have O3_2 : Hid (b2 ∉ l3) := Lib.hid (fun h => by
    have h2 : (l3.any fun w => w == b2) = true := List.any_eq_true.2 ⟨b2, h, by simp⟩
    rw [O.out] at h2
    cases h2)
  clear O
  rcases Nat.lt_or_ge 60 n2 with h60 | h60_2
  · go_wp2
    go_ret
    exact Hfin.out _
  have hb3 : l3 ≠ [] := by rw [B3.out]; simp
  have hn2 : b2.length ≤ 60 := by rw [← N2.out]; exact h60_2
  have htl0 := textB_len l0 (fun x hx => (W0.out x hx).len)
  have hT0 := T0.out
  have htl1 := textB_len l1 (fun x hx => (W1.out x hx).len)
  have hT1 := T1.out
  have htl3 := textB_len l3 (fun x hx => (W3.out x hx).len)
  have hT3 := T3.out
  have htl4 := textB_len l4 (fun x hx => (W4.out x hx).len)
  have hT4 := T4.out
  have htx0 : ∀ w', Below w.heap.size w w' → Gd w' 16 #[.slice A0 m0 c0] (.string (mkS (textB l0))) := fun w' hb => by
    have h := gd_text (Kd.C_below R0.out hb) C0.out (text_f (by omega) (fun x hx => (W0.out x hx).len))
    rwa [← M0.out] at h
  have htx1 : ∀ w', Below w.heap.size w w' → Gd w' 16 #[.slice A1 m1 c1] (.string (mkS (textB l1))) := fun w' hb => by
    have h := gd_text (Kd.C_below R1.out hb) C1.out (text_f (by omega) (fun x hx => (W1.out x hx).len))
    rwa [← M1.out] at h
  have htx3 : ∀ w', Below w.heap.size w w' → Gd w' 16 #[.slice (some ad3) m3 c3] (.string (mkS (textB l3))) := fun w' hb => by
    have h := gd_text (Kd.C_below R3.out hb) C3.out (text_f (by omega) (fun x hx => (W3.out x hx).len))
    rwa [← M3.out] at h
  have htx4 : ∀ w', Below w.heap.size w w' → Gd w' 16 #[.slice A4 m4 c4] (.string (mkS (textB l4))) := fun w' hb => by
    have h := gd_text (Kd.C_below R4.out hb) C4.out (text_f (by omega) (fun x hx => (W4.out x hx).len))
    rwa [← M4.out] at h
  have hx : (mkS (textB l0) ++ ⟨#[10, 35, 105, 110, 99, 108, 117, 100, 101, 32, 34, 105, 110, 115, 105, 100, 101, 46, 104, 34, 10]⟩ ++ mkS (textB l4) ++ ⟨#[10]⟩ : ByteArray) = mkS (incF l0 l4) := by
    have e1 : (⟨#[10, 35, 105, 110, 99, 108, 117, 100, 101, 32, 34, 105, 110, 115, 105, 100, 101, 46, 104, 34, 10]⟩ : ByteArray) = mkS [10, 35, 105, 110, 99, 108, 117, 100, 101, 32, 34, 105, 110, 115, 105, 100, 101, 46, 104, 34, 10] := rfl
    have e3 : (⟨#[10]⟩ : ByteArray) = mkS [10] := rfl
    rw [e1, e3]
    simp only [mkS_app]
    congr 1
    simp [incF, incB, insBs, kwInclude]
  have hy : (mkS (textB l1) ++ ⟨#[10, 35, 100, 101, 102, 105, 110, 101, 32]⟩ ++ mkS b2 ++ ⟨#[32]⟩ ++ mkS (textB l3) ++ ⟨#[10]⟩ : ByteArray) = mkS (insF l1 b2 l3) := by
    have e1 : (⟨#[10, 35, 100, 101, 102, 105, 110, 101, 32]⟩ : ByteArray) = mkS [10, 35, 100, 101, 102, 105, 110, 101, 32] := rfl
    have e2 : (⟨#[32]⟩ : ByteArray) = mkS [32] := rfl
    have e3 : (⟨#[10]⟩ : ByteArray) = mkS [10] := rfl
    rw [e1, e2, e3]
    simp only [mkS_app]
    congr 1
    simp [insF, defB, kwDefine]
  have hlen : (incF l0 l4).length ≤ 5000 := by
    unfold incF incB
    simp only [List.length_cons, List.length_append, List.length_nil]
    have : kwInclude.length = 7 := rfl
    have : insBs.length = 8 := rfl
    omega
  have hasc : ascii (incF l0 l4) := by
    unfold incF incB
    refine ascii_app (ascii_text W0.out) (ascii_cons (by decide) (ascii_cons (by decide) (ascii_app (by unfold ascii; decide) (ascii_cons (by decide) (ascii_cons (by decide) (ascii_app (by unfold ascii; decide) (ascii_cons (by decide) (ascii_cons (by decide) (ascii_app (ascii_text W4.out) (ascii_cons (by decide) (by intro b h; cases h)))))))))))
  have hasi : ascii (insF l1 b2 l3) := ascii_app (ascii_text W1.out) (ascii_cons (by decide) (ascii_def X2.out W3.out (by intro b h; cases h)))
  obtain ⟨T, fl, s', mac, mn, t1, t2, t3, t4, t5, t6⟩ := inc_told X2.out hn2 W0.out W1.out W3.out W4.out hb3 H3.out hT3 hT0 hT1 hT4 O3_2.out (unquote_any (by decide) (by decide)) hasi
  have hrepl := replaced_f b2 l3 (ws := l4) (by omega) hT3
  obtain ⟨kr, hkr⟩ := hrepl.rounds
  have hrl := repW_len b2 l3 hT3 l4
  have GS : Hid (∀ w' A n c, Below w.heap.size w w' → Kd.C Kd.string w' A n (((l0 ++ l1) ++ l4.flatMap (repW b2 l3)).map mkS) → n = (((l0 ++ l1) ++ l4.flatMap (repW b2 l3)).map mkS).length → n ≤ c → ∀ g cap, Files w' g cap [(mainBs, mkS (incF l0 l4)), (insBs, mkS (insF l1 b2 l3))] → Calls Tryz.prog 17 #[.slice (some ⟨g, 0, none⟩) 2 cap, .slice none 0 0, .slice A n c] w' (SQ w')) := Lib.hid (fun w' A n c hb hC hn hnc g cap hr =>
    shows_gen (l := [(insBs, mkS (insF l1 b2 l3))]) hr (by intro p hp; simp at hp; subst hp; exact (by decide : insBs.length ≤ 1000000)) (by simp) (by simp [tab, mainBs, insBs]) t1 hasc (by omega) (fun w1 _ => predefine_none) t2 t3 (by omega) t6 (by rw [t4]; exact hC) (by rw [t4]; exact hn) hnc (Hg.out.only (Only.ofBelow hb) (fun k hk e => by omega)) (Nat.le_trans hB hb.size))
  obtain ⟨x0', hx0⟩ : ∃ x, x = mkS (textB l0) := ⟨_, rfl⟩
  have z0 : x0'.size = (textB l0).length := by rw [hx0, mkS_size]
  rw [← hx0] at htx0 hx
  obtain ⟨p0, hp0⟩ : ∃ p, p = (textB l0).length := ⟨_, rfl⟩
  rw [← hp0] at z0 htl0
  have hp0' : p0 ≤ 1300 := by omega
  have HTX0 := Lib.hid htx0
  obtain ⟨x1', hx1⟩ : ∃ x, x = mkS (textB l1) := ⟨_, rfl⟩
  have z1 : x1'.size = (textB l1).length := by rw [hx1, mkS_size]
  rw [← hx1] at htx1 hy
  obtain ⟨p1, hp1⟩ : ∃ p, p = (textB l1).length := ⟨_, rfl⟩
  rw [← hp1] at z1 htl1
  have hp1' : p1 ≤ 1300 := by omega
  have HTX1 := Lib.hid htx1
  obtain ⟨x3', hx3⟩ : ∃ x, x = mkS (textB l3) := ⟨_, rfl⟩
  have z3 : x3'.size = (textB l3).length := by rw [hx3, mkS_size]
  rw [← hx3] at htx3 hy
  obtain ⟨p3, hp3⟩ : ∃ p, p = (textB l3).length := ⟨_, rfl⟩
  rw [← hp3] at z3 htl3
  have hp3' : p3 ≤ 1300 := by omega
  have HTX3 := Lib.hid htx3
  obtain ⟨x4', hx4⟩ : ∃ x, x = mkS (textB l4) := ⟨_, rfl⟩
  have z4 : x4'.size = (textB l4).length := by rw [hx4, mkS_size]
  rw [← hx4] at htx4 hx
  obtain ⟨p4, hp4⟩ : ∃ p, p = (textB l4).length := ⟨_, rfl⟩
  rw [← hp4] at z4 htl4
  have hp4' : p4 ≤ 1300 := by omega
  have HTX4 := Lib.hid htx4
  have HX := Lib.hid hx
  have HY := Lib.hid hy
  have HKR := Lib.hid hkr
  have HRL := Lib.hid hrl
  have hm0 : m0 ≤ 20 := by have := M0.out; simp at this; omega
  have hm1 : m1 ≤ 20 := by have := M1.out; simp at this; omega
  have hk : ∀ w', Below w.heap.size w w' → Kd.C Kd.string w' A0 m0 (l0.map mkS) ∧ Kd.C Kd.string w' A1 m1 (l1.map mkS) := fun w' hb =>
    ⟨by have := Kd.C_below R0.out hb; rwa [← M0.out] at this, by have := Kd.C_below R1.out hb; rwa [← M1.out] at this⟩
  have HK := Lib.hid hk
  clear hk hx hy hkr hrl hrepl t1 t2 t3 t4 t5 t6 hlen hasc hasi hn2 hb3 hx0 hp0 htl0 hT0 htx0 hx1 hp1 htl1 hT1 htx1 hx3 hp3 htl3 hT3 htx3 hx4 hp4 htl4 hT4 htx4
  go_wp2_with fail
  refine (HTX0.out w (Below.refl _ _) _).mono ?_
  rintro e v0 ⟨rfl, i0, rfl⟩
  go_wp2_with fail
  refine (HTX4.out w (Below.refl _ _) _).mono ?_
  rintro e v4 ⟨rfl, i4, rfl⟩
  go_wp2_with fail
  rw [HX.out]
  refine fileOf_any.mono ?_
  rintro e w9 ⟨rfl, rfl⟩
  have hbe : Below w.heap.size w ((w.drewN i4).alloc (.cells #[.string mainName, .string (mkS (incF l0 l4))] 49)) := (below_drewN (Below.refl _ _) _).alloc (Nat.le_refl _) _
  have hfil : ((w.drewN i4).alloc (.cells #[.string mainName, .string (mkS (incF l0 l4))] 49)).ownsRow w.heap.size 49 2 (.slice (some ⟨(w.drewN i4).heap.size, 0, none⟩) 1 1) 1 (cellsF [(mainBs, mkS (incF l0 l4))]) :=
    ⟨rfl, .inr ⟨(w.drewN i4).heap.size, 1, _, rfl, Nat.le_refl _, heap_alloc_new (w.drewN i4) _, Nat.le_refl _, by unfold maxLen; omega, rfl, rfl⟩⟩
  have Hbe := Lib.hid hbe
  have Hfil := Lib.hid hfil
  obtain ⟨g0, hg0⟩ : ∃ g, g = (w.drewN i4).heap.size := ⟨_, rfl⟩
  rw [← hg0] at Hfil
  rw [← hg0]
  clear hbe hfil hg0
  generalize (w.drewN i4).alloc (.cells #[.string mainName, .string (mkS (incF l0 l4))] 49) = w9 at Hfil Hbe ⊢
  go_wp2_with fail
  refine (HTX1.out w9 Hbe.out 0).mono ?_
  rintro e v1 ⟨rfl, i1, rfl⟩
  go_wp2_with fail
  refine (HTX3.out w9 Hbe.out _).mono ?_
  rintro e v3 ⟨rfl, i3, rfl⟩
  obtain ⟨if0, hi, hz0, hz1, hz2⟩ := info_parts infoFile
  have Hfil3 : Hid ((w9.drewN i3).ownsRow w.heap.size 49 2 (.slice (some ⟨g0, 0, none⟩) 1 1) 1 (cellsF [(mainBs, mkS (incF l0 l4))])) := Lib.hid (ownsRow_only Hfil.out (fun _ _ => rfl))
  have Hbe3 : Hid (Below w.heap.size w (w9.drewN i3)) := Lib.hid (below_drewN Hbe.out _)
  generalize w9.drewN i3 = w8 at Hfil3 Hbe3 ⊢
  go_wp2_with (at_builtin; rw [HY.out]; refine wpList_append_own _ rfl _ _ 28 rfl w.heap.size 49 if0 (.agg #[.string ⟨#[]⟩, .string ⟨#[]⟩]) 2 32 Tryz.underlying28 hi hz0 hz1 hz2 rfl (by decide) _ _ _ rfl (Hfil3.out.alloc _) ⟨w8.heap.size, 0, none⟩ 1 1 [.string insName, .string (mkS (insF l1 b2 l3))] rfl rfl ?c1 ?c2 ?c3 ?c4 ?c5 ?_)
  case c1 => exact cellTwo _ _ _ _
  case c2 => intro u hu; simp at hu; rcases hu with rfl | rfl <;> rfl
  case c3 => unfold maxLen; omega
  case c4 => omega
  case c5 => have := Hbe3.out.size; simp; omega
  intro v' wf hown hgrow _
  obtain ⟨g2, c2', rfl⟩ : ∃ g c, v' = .slice (some ⟨g, 0, none⟩) 2 c := by
    obtain ⟨_, ⟨e, h0⟩ | ⟨g, cap, cur, e, _⟩⟩ := hown
    · cases h0
    · exact ⟨g, cap, e⟩
  have hff : Files wf g2 c2' [(mainBs, mkS (incF l0 l4)), (insBs, mkS (insF l1 b2 l3))] := ownsRow_low hown (Nat.zero_le _)
  have hbf : Below w.heap.size w wf := (Hbe3.out.alloc Hbe3.out.size _).trans ⟨hgrow.os, hgrow.tape, hgrow.output, hgrow.size, fun k hk => hgrow.block k (by have := Hbe3.out.size; simp; omega) (fun e => by have := (ownBlock_row Hfil3.out k e.symm).1; omega)⟩
  have Hff := Lib.hid hff
  have Hbf := Lib.hid hbf
  clear hown hgrow hff hbf Hfil3 Hbe3 Hfil Hbe
  go_wp2_with (at_builtin; refine wpList_append_kd rfl _ _ rfl wf.heap.size _ A0 m0 c0 rfl rfl 0 [] (l0.map mkS) ?d1 ?d2 ?d3 ?d4 ?d5 ?d6 ?_)
  case d1 => exact ⟨rfl, .inr ⟨wf.heap.size, 0, _, rfl, Nat.le_refl _, heap_alloc_new wf _, Nat.le_refl _, by unfold maxLen; omega, rfl, rfl⟩⟩
  case d2 => exact (HK.out _ (Hbf.out.alloc Hbf.out.size _)).1
  case d3 => exact M0.out
  case d4 => exact q0
  case d5 => omega
  case d6 => simp
  intro v' w10 hown hgrow
  obtain ⟨a10, c10, rfl⟩ : ∃ a c, v' = .slice a m0 c := by
    obtain ⟨_, ⟨e, h0⟩ | ⟨g, cap, cur, e, _⟩⟩ := hown
    · exact ⟨none, 0, by rw [e]; congr 1; omega⟩
    · exact ⟨_, cap, by simpa using e⟩
  have hb9 : Below wf.heap.size wf w10 := ((Below.refl _ _).alloc (Nat.le_refl _) _).trans ⟨hgrow.os, hgrow.tape, hgrow.output, hgrow.size, fun k hk => hgrow.block k (by simp; omega) (fun e => by simp [Value.ownBlock] at e; omega)⟩
  have hrow10 : w10.ownsRow wf.heap.size 9 1 (.slice a10 m0 c10) m0 ((l0.map mkS).map Value.string) := by simpa using hown
  have Hb9 := Lib.hid hb9
  have Hrow10 := Lib.hid hrow10
  clear hown hgrow hb9 hrow10
  go_wp2_with (at_builtin; refine wpList_append_kd rfl _ _ rfl wf.heap.size _ A1 m1 c1 rfl rfl m0 ((l0.map mkS).map Value.string) (l1.map mkS) ?d1 ?d2 ?d3 ?d4 ?d5 ?d6 ?_)
  case d1 => exact Hrow10.out
  case d2 => exact (HK.out _ (Hbf.out.trans (Hb9.out.mono Hbf.out.size))).2
  case d3 => exact M1.out
  case d4 => exact q1
  case d5 => omega
  case d6 => exact Hb9.out.size
  intro v' w11 hown hgrow
  obtain ⟨a11, c11, rfl⟩ : ∃ a c, v' = .slice a (m0 + m1) c := by
    obtain ⟨_, ⟨e, h0⟩ | ⟨g, cap, cur, e, _⟩⟩ := hown
    · exact ⟨none, 0, by rw [e, h0]⟩
    · exact ⟨_, cap, e⟩
  have hrow11 : w11.ownsRow wf.heap.size 9 1 (.slice a11 (m0 + m1) c11) (m0 + m1) (((l0 ++ l1).map mkS).map Value.string) := by have h := hown; simp only [List.map_append, List.map_map] at h ⊢; exact h
  have ho11 := (Only.refl (fun q => (Value.slice a10 m0 c10).ownBlock = some q) w10).grown hgrow (fun k hk _ => hk)
  have hb11 : Below wf.heap.size wf w11 := Hb9.out.trans (ho11.below Hb9.out.size (fun k hk e => by have := (ownBlock_row Hrow10.out k e).1; omega))
  have Hrow11 := Lib.hid hrow11
  have Hb11 := Lib.hid hb11
  have Hbw11 := Lib.hid (Hbf.out.trans (hb11.mono Hbf.out.size))
  clear hown hgrow ho11 hrow11 hb11 Hrow10 Hb9
  obtain ⟨n4, hn4⟩ : ∃ n, n = ((l4.flatMap (repW b2 l3)).map mkS).length := ⟨_, rfl⟩
  have HN4 := Lib.hid hn4
  have hn4b : n4 ≤ 500 := by
    rw [hn4, List.length_map]
    have := HRL.out
    have := M4.out
    have := T4.out
    omega
  clear hn4
  have Hrep : Hid (Calls Tryz.prog 19 #[.slice A4 m4 c4, .string (mkS b2), .slice (some ad3) m3 c3] w11 fun e w' => ∃ A9 c9, e = .returned (.slice A9 n4 c9) ∧ n4 ≤ c9 ∧ Kd.C Kd.string w' A9 n4 ((l4.flatMap (repW b2 l3)).map mkS) ∧ Below w11.heap.size w11 w') := Lib.hid (by
    have h := laws_replaced.calls kr A4 c4 (l4.map mkS) (mkS b2) (some ad3) c3 (l3.map mkS) _ w11 (Kd.C_below R4.out Hbw11.out) C4.out (Kd.C_below R3.out Hbw11.out) C3.out HKR.out
    rw [← M4.out, ← M3.out] at h
    refine h.mono ?_
    rintro e w' ⟨v0, rfl, hR, hb2⟩
    obtain ⟨A2, c2, rfl, h1, h2⟩ := Kd.R_reads hR
    exact ⟨A2, c2, by rw [HN4.out], by rw [HN4.out]; exact h1, by rw [HN4.out]; exact h2, hb2⟩)
  go_wp2_with fail
  refine Hrep.out.mono ?_
  rintro e w12 ⟨A9, c9, rfl, hc9, hC9, hb12⟩
  have HC9 := Lib.hid hC9
  have hsz12 : wf.heap.size ≤ w12.heap.size := Nat.le_trans Hb11.out.size hb12.size
  have Hsz12 := Lib.hid hsz12
  have Hrow12 := Lib.hid (ownsRow_only Hrow11.out (fun k hk => hb12.block k (ownBlock_row Hrow11.out k hk).2.lt))
  have Hb12 := Lib.hid (Hb11.out.trans (hb12.mono Hb11.out.size))
  clear hC9 hb12 Hrep hsz12
  go_wp2_with (at_builtin; refine wpList_append_kd rfl _ _ rfl wf.heap.size _ A9 n4 c9 rfl rfl (m0 + m1) (((l0 ++ l1).map mkS).map Value.string) ((l4.flatMap (repW b2 l3)).map mkS) ?d1 ?d2 ?d3 ?d4 ?d5 ?d6 ?_)
  case d1 => exact Hrow12.out
  case d2 => exact HC9.out
  case d3 => exact HN4.out
  case d4 => exact hc9
  case d5 => omega
  case d6 => exact Hsz12.out
  intro v' w13 hown hgrow
  obtain ⟨a13, c13, rfl⟩ : ∃ a c, v' = .slice a (m0 + m1 + n4) c := by
    obtain ⟨_, ⟨e, h0⟩ | ⟨g, cap, cur, e, _⟩⟩ := hown
    · exact ⟨none, 0, by rw [e, h0]⟩
    · exact ⟨_, cap, e⟩
  have hlen13 : (((l0 ++ l1) ++ l4.flatMap (repW b2 l3)).map mkS).length = m0 + m1 + n4 := by rw [List.map_append, List.length_append, ← HN4.out, List.map_append, List.length_append, ← M0.out, ← M1.out]
  have hkd := kd_strs (b := wf.heap.size) (l := ((l0 ++ l1) ++ l4.flatMap (repW b2 l3)).map mkS) (a := a13) (n := m0 + m1 + n4) (c := c13) (w := w13) (by rw [hlen13]; have h := hown; simp only [List.map_append, List.map_map, List.append_assoc] at h ⊢; exact h)
  have ho13 := (Only.refl (fun q => (Value.slice a11 (m0 + m1) c11).ownBlock = some q) w12).grown hgrow (fun k hk _ => hk)
  have hb13 : Below wf.heap.size wf w13 := Hb12.out.trans (ho13.below Hsz12.out (fun k hk e => by have := (ownBlock_row Hrow12.out k e).1; omega))
  have hf13 : Files w13 g2 c2' [(mainBs, mkS (incF l0 l4)), (insBs, mkS (insF l1 b2 l3))] := ownsRow_only Hff.out (fun k hk => hb13.block k (ownBlock_row Hff.out k hk).2.lt)
  have hbw13 : Below w.heap.size w w13 := Hbf.out.trans (hb13.mono Hbf.out.size)
  have HGS := Lib.hid (GS.out w13 a13 (m0 + m1 + n4) c13 hbw13 (by have := hkd.2.2; rwa [hlen13] at this) hlen13.symm (by have := hkd.2.1; omega) g2 c2' hf13)
  have Hbw13 := Lib.hid hbw13
  clear hown hgrow hlen13 hkd ho13 hb13 hf13 hbw13 GS
  go_wp2_with fail
  refine HGS.out.mono ?_
  rintro e w14 ⟨rfl, hb14⟩
  have Hend : Hid (LawQ w (.returned (.bool true)) w14) := Lib.hid ⟨rfl, Hbw13.out.trans (hb14.mono Hbw13.out.size)⟩
  clear hb14
  go_wp2
  go_ret
  exact Hend.out
end
end Go.Proofs.YtmkehbjpnajilaaGreatDoor
