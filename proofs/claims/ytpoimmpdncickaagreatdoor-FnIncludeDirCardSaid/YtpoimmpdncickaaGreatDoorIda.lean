/- The law FnIncludeDir's walk: it returns true. -/
import Derived.Test.YtpoimmpdncickaaGreatDoorJ10
import Derived.Test.YtpoimmpdncickaaGreatDoorJ11
import Derived.Test.YtpoimmpdncickaaGreatDoorB8
import Derived.Test.YtpoimmpdncickaaGreatDoorJ9
/- What is told of a file that includes another; plain lists. -/
namespace Go.Proofs.YtpoimmpdncickaaGreatDoor
open Go Go.RowKit Lex Go.Proofs.YtpoimmpdncickaaGreatDoorW.PrintWords Go.Proofs.YtpoimmpdncickaaGreatDoor.PHelp
set_option linter.unusedVariables false
set_option linter.unusedSimpArgs false

def insBs : Bs := [105, 110, 115, 105, 100, 101, 46, 104]
/-- The line that includes a file. -/
def incB (q : Bs) (tail : Bs) : Bs := 35 :: (kwInclude ++ 32 :: 34 :: (q ++ 34 :: 10 :: tail))
/-- The two files. -/
def incF (before after : List Bs) : Bs := textB before ++ 10 :: incB insBs (textB after ++ 10 :: [])
def insF (inside : List Bs) (name : Bs) (body : List Bs) : Bs := textB inside ++ 10 :: defB name body []

theorem pn_include : PName kwInclude := ⟨105, [110, 99, 108, 117, 100, 101], by decide, by decide, by decide⟩
theorem pc_inc {q : Bs} (hq : ∀ b ∈ q, isStr b = true) (hl : q.length ≤ 62) {tail : Bs} {ts : List (Int × Bs)} (ht : Pc tail ts) : Pc (incB q tail) ((35, [35]) :: (-2, kwInclude) :: (-6, 34 :: (q ++ [34])) :: (10, [10]) :: ts) := by
  refine .cons (z := [35]) (.one (ws := []) (k := ((35 : UInt8).toNat : Int)) (x := [35]) (r' := kwInclude ++ 32 :: 34 :: (q ++ 34 :: 10 :: tail)) (by intro b h; cases h) (.char (by decide)) (by decide) (by simp) (by intro d n e; cases e)) (by decide) ?_
  refine pc_nm (p := []) pn_include (by decide) (by decide) (by intro b h; cases h) ?_
  have h1 : TNext ([32] ++ ((34 :: (q ++ [34])) ++ 10 :: tail)) (-6) (34 :: (q ++ [34])) ([32] ++ (34 :: (q ++ [34]))) (10 :: tail) := .one blanks_one (.str hq) (by decide) (by simp; omega) (by intro d n e; cases e)
  have e : [32] ++ ((34 :: (q ++ [34])) ++ 10 :: tail) = 32 :: 34 :: (q ++ 34 :: 10 :: tail) := by simp
  rw [e] at h1
  exact .cons h1 (by decide) (pc_nl (p := []) (by intro b h; cases h) ht)

theorem inc_told {before inside body after : List Bs} {name : Bs} (hn : PName name) (hnl : name.length ≤ 60) (hbe : ∀ w ∈ before, WordL w) (hin : ∀ w ∈ inside, WordL w) (hb : ∀ w ∈ body, WordL w) (haf : ∀ w ∈ after, WordL w) (hb0 : body ≠ []) (hbh : body.head? ≠ some [40]) (hb20 : body.length ≤ 20) (he20 : before.length ≤ 20) (hi20 : inside.length ≤ 20) (ha20 : after.length ≤ 20) (hno : name ∉ body)
    (hun : ∀ w, Calls Tryz.prog 92 #[.string (mkS (34 :: (insBs ++ [34])))] w (UnqQ insBs w)) (ha : ascii (insF inside name body)) :
    ∃ T l s' mac mn, TL (incF before after) 1 1 T ∧ StT (yFil (incF before after) [(insBs, mkS (insF inside name body))]) l ⟨[tzAb mainName T], 0, fun _ => none, [], true, []⟩ s' ∧ At s' mainName [] [] mac [] mn ∧ shown (l.map Fd.kx) = (before ++ inside) ++ after.flatMap (repW name body) ∧ l.length ≤ 1000 ∧ ∀ f ∈ l, -1000000 ≤ f.k ∧ f.k < 1000000 := by
  have hpc := pc_line hbe (tail := incB insBs (textB after ++ 10 :: [])) (pc_inc (q := insBs) (by decide) (by decide) (tail := textB after ++ 10 :: []) (by simpa using pc_line haf .nil [] (by intro b h; cases h))) [] (by intro b h; cases h)
  obtain ⟨T, h1, h2⟩ := hpc.tl 1 1
  have hpi := pc_line hin (tail := defB name body []) (by simpa using pc_def hn hnl hb .nil [] (by intro b h; cases h)) [] (by intro b h; cases h)
  obtain ⟨T2, i1, i2⟩ := hpi.tl 1 1
  have hlen : (insF inside name body).length < 900000 := by
    have e1 := textB_len inside (fun x hx => (hin x hx).len)
    have e2 := textB_len body (fun x hx => (hb x hx).len)
    have : kwDefine.length = 6 := rfl
    simp only [insF, defB, List.length_cons, List.length_append, List.length_nil]
    omega
  have hat := at_start (nm := mainName) h2
  obtain ⟨l1, s1, a1, a2, a3, _⟩ := st_ws (y := yFil (incF before after) [(insBs, mkS (insF inside name body))]) (by simp) (by simp) rfl before _ (fun w hw => ⟨hbe w hw, rfl⟩) hat
  obtain ⟨l2, s2, b1, b2, b3, b4, _⟩ := st_nl (y := yFil (incF before after) [(insBs, mkS (insF inside name body))]) a3 (by simp) (by simp) rfl
  obtain ⟨l3, s3, o, c1, c2, c3, c4, c5, c6, c7⟩ := st_incl (y := yFil (incF before after) [(insBs, mkS (insF inside name body))]) (T := T2) b3 b4 (by simp) (by simp) rfl hun (by rfl) (by decide) (by simpa [insF] using i1) ha hlen
  rw [i2] at c3
  obtain ⟨l4, s4, d1, d2, d3, _⟩ := st_ws (y := yFil (incF before after) [(insBs, mkS (insF inside name body))]) (by simp) (by simp) rfl inside _ (fun w hw => ⟨hin w hw, rfl⟩) c3
  obtain ⟨l5, s5, e1, e2, e3, e4, _⟩ := st_nl (y := yFil (incF before after) [(insBs, mkS (insF inside name body))]) d3 (by simp) (by simp) rfl
  obtain ⟨l6, s6, f1, f2, f3, f4, _⟩ := st_def (y := yFil (incF before after) [(insBs, mkS (insF inside name body))]) e3 e4 (fun q hq => by simp at hq; rw [hq]; exact c5) (by simp) (by simp) rfl (by decide) hnl hb hb0 hbh hb20 rfl
  have f3' := at_pop f3 c5 c6 c7
  obtain ⟨l7, s7, g1, g2, g3, _⟩ := st_words (y := yFil (incF before after) [(insBs, mkS (insF inside name body))]) (rep_one hb hb0 hb20 hno) (by simp) (by simp) rfl after _ (fun w hw => ⟨haf w hw, fun h => (haf w hw).name_kind (mac_one h ▸ hn)⟩) f3'
  obtain ⟨l8, s8, k1, k2, k3, _, _⟩ := st_nl (y := yFil (incF before after) [(insBs, mkS (insF inside name body))]) g3 (by simp) (by simp) rfl
  have hs := a1.app (b1.app (c1.app (d1.app (e1.app (f1.app (g1.app k1))))))
  refine ⟨T, _, s8, _, _, h1, hs, k3, ?_, ?_, hs.kinds⟩
  · simp only [List.map_append, shown_app]
    rw [a2, b2, c2, d2, e2, f2, g2, k2, shown_words hbe, shown_words hin, shown_words (fun w hw => ?_)]
    · simp [shown, isShown]
    · obtain ⟨x, hx, hw⟩ := List.mem_flatMap.1 hw
      unfold repW at hw
      split at hw
      · exact hb w hw
      · simp at hw; rw [hw]; exact haf x hx
  · have m1 := congrArg List.length a2
    have m2 := congrArg List.length b2
    have m3 := congrArg List.length c2
    have m4 := congrArg List.length d2
    have m5 := congrArg List.length e2
    have m6 := congrArg List.length f2
    have m7 := congrArg List.length g2
    have m8 := congrArg List.length k2
    have m9 := repW_len name body hb20 after
    simp at m1 m2 m3 m4 m5 m6 m7 m8
    simp only [List.length_append]
    have m0 : (after.flatMap (repW name body)).length = (List.map (fun a => (repW name body a).length) after).sum := by simp [List.length_flatMap]
    omega
end Go.Proofs.YtpoimmpdncickaaGreatDoor

/- Unquote: a text between its marks, where nothing in it is escaped. -/
namespace Go.Proofs.YtpoimmpdncickaaGreatDoor
open Go Go.RowKit Lex
set_option linter.unusedVariables false
set_option linter.unusedSimpArgs false

set_option maxRecDepth 100000 in
theorem sc_index (s : ByteArray) (c : Int) (w : World) :
    Calls Tryz.prog 134 #[.string s, .int .u8 c] w fun e w' => e = .returned (.int .i64 (Go.Lib.indexByte s.data.toList c.toNat.toUInt8)) ∧ w' = w := by
  go_enter Tryz.func134, Tryz.ntmps134
  go_wp2
  rw [run_callFunc_extern Tryz.func99 (by kernel_rfl) (by kernel_rfl) (by kernel_rfl) (e := Extern.BytealgIndexByte.indexByte) (by kernel_rfl), Go.Lib.run_indexByteString]
  simp only [Result.andThen]
  rw [Oper.upon_value]
  go_wp2
  go_ret
  exact ⟨rfl, rfl⟩
set_option maxRecDepth 100000 in
theorem sc_none (s : Bs) (c : UInt8) (h : c ∉ s) (w : World) :
    Calls Tryz.prog 135 #[.string (mkS s), .int .u8 (c.toNat : Int)] w fun e w' => e = .returned (.bool false) ∧ w' = w := by
  go_enter Tryz.func135, Tryz.ntmps135
  go_wp2_with fail
  refine (sc_index _ _ _).mono ?_
  rintro e w1 ⟨rfl, rfl⟩
  have hx : Go.Lib.indexByte (mkS s).data.toList ((c.toNat : Int).toNat.toUInt8) = -1 := by
    rw [show (mkS s).data.toList = s by simp [mkS], show ((c.toNat : Int).toNat.toUInt8) = c by simp]
    exact byteIdx_none h
  rw [hx]
  go_wp2
  go_ret
  exact ⟨rfl, rfl⟩

/-- Bytes below 128. -/
def VLoop (w : World) (n : Nat) (v : Value) (wr : World) : Prop := ∃ t : Bs, v = .string (mkS t) ∧ (∀ b ∈ t, b < 128) ∧ t.length < n ∧ t.length ≤ 9 ∧ ∃ m, wr = w.drewN m

set_option maxRecDepth 100000 in
set_option maxHeartbeats 2000000 in
theorem valid_short {x : Bs} (ha : ∀ b ∈ x, b < 128) (hl : x.length ≤ 9) (w : World) :
    Calls Tryz.prog 136 #[.string (mkS x)] w (fun e w' => e = .returned (.bool true) ∧ ∃ m, w' = w.drewN m) := by
  go_enter Tryz.func136, Tryz.ntmps136
  go_wp2
  go_loopg [0] (x.length + 1) (fun n v wr => VLoop w n v wr)
  case atStart => exact ⟨x, rfl, ha, by omega, hl, 0, rfl⟩
  case round =>
    obtain ⟨t, rfl, hta, htn, htl, m, rfl⟩ := hrel
    cases t with
    | nil =>
      go_wp2
      go_ret
      exact ⟨rfl, _, rfl⟩
    | cons c r =>
      have hc : c < 128 := hta c (by simp)
      have hs : (mkS (c :: r)).size = r.length + 1 := by rw [mkS_size]; rfl
      have h0 : (0 : Int) < ((r.length + 1 : Nat) : Int) := by omega
      have hr : r.length ≤ 8 := by simp at htl; omega
      have hx : (mkS (c :: r)).extract 1 (r.length + 1) = mkS r := by
        apply ByteArray.ext
        simp [mkS, ByteArray.data_extract]
      have hi : 0 < (mkS (c :: r)).size := by rw [hs]; omega
      have h128 : (((mkS (c :: r))[0]'hi).toNat : Int) < 128 := by
        have e : (mkS (c :: r))[0]'hi = c := rfl
        rw [e]
        have : c.toNat < 128 := hc
        omega
      have h8 : ¬ (8 : Int) < (r.length : Int) := by omega
      have hsr : (mkS r).size = r.length := mkS_size r
      have hta' : ∀ b ∈ r, b < 128 := fun b hb => hta b (by simp [hb])
      have hrel : ∀ k, VLoop w (gk - 1) (.string (mkS r)) (w.drewN k) := fun k => ⟨r, rfl, hta', by simp at htn; omega, by omega, k, rfl⟩
      have Hrel := Lib.hid hrel
      have hgk : gk - 1 < gk := by omega
      clear hta hta' hrel htn htl ha hl hc
      go_wp2
      go_roundg (gk - 1)
      case measure => exact hgk
      case rel => exact Hrel.out _

theorem str_no {x : Bs} (h : ∀ b ∈ x, isStr b = true) : (34 : UInt8) ∉ x ∧ (92 : UInt8) ∉ x ∧ (10 : UInt8) ∉ x ∧ ∀ b ∈ x, b < 128 := by
  refine ⟨fun hm => ?_, fun hm => ?_, fun hm => ?_, fun b hb => ?_⟩
  · have := h _ hm; revert this; decide
  · have := h _ hm; revert this; decide
  · have := h _ hm; revert this; decide
  · have := h b hb
    unfold isStr at this
    simp at this
    have h2 : b.toNat ≤ 126 := this.1.1.2
    show b.toNat < 128
    omega

set_option maxRecDepth 100000 in
set_option maxHeartbeats 2000000 in
theorem unquote_in {x : Bs} (hx : ∀ b ∈ x, isStr b = true) (hl : x.length ≤ 1000) (hv : ∀ w, Calls Tryz.prog 136 #[.string (mkS x)] w (fun e w' => e = .returned (.bool true) ∧ ∃ m, w' = w.drewN m)) (w : World) :
    Calls Tryz.prog 113 #[.string (mkS (34 :: (x ++ [34]))), .bool true] w (fun e w' => e = .returned (.tuple #[.string (mkS x), .string ⟨#[]⟩, .nilIface]) ∧ ∃ m, w' = w.drewN m) := by
  obtain ⟨n1, n2, n3, n4⟩ := str_no hx
  obtain ⟨d, hd⟩ : ∃ d, d = mkS (34 :: (x ++ [34])) := ⟨_, rfl⟩
  have hs : d.size = x.length + 2 := by rw [hd, mkS_size]; simp
  have hi : 0 < d.size := by rw [hs]; omega
  have h34 : (((d)[0]'hi).toNat : Int) = 34 := by subst hd; rfl
  have hk : (x ++ [(34 : UInt8)]).take (x.length + 1) = x ++ [34] := List.take_of_length_le (by simp)
  have e1 : d.extract 1 (x.length + 2) = mkS (x ++ [34]) := by
    rw [hd]
    apply ByteArray.ext
    simp [mkS, ByteArray.data_extract, hk]
  have e2 : d.extract 0 (x.length + 2) = d := by
    rw [hd]
    apply ByteArray.ext
    simp [mkS, ByteArray.data_extract, hk]
  have e3 : d.extract 1 (x.length + 1) = mkS x := by
    rw [hd]
    apply ByteArray.ext
    simp [mkS, ByteArray.data_extract]
  have e4 : d.extract (x.length + 2) (x.length + 2) = ⟨#[]⟩ := by
    apply ByteArray.ext
    simp [ByteArray.data_extract]
  have hidx : Go.Lib.indexByte (mkS (x ++ [34])).data.toList ((34 : Int).toNat.toUInt8) = ((x.length : Nat) : Int) := by
    rw [show (mkS (x ++ [34])).data.toList = x ++ 34 :: [] by simp [mkS]]
    exact index_at n1
  have h92 : ∀ w, Calls Tryz.prog 135 #[.string d, .int .u8 92] w fun e w' => e = .returned (.bool false) ∧ w' = w := fun w => hd ▸ sc_none (34 :: (x ++ [34])) 92 (by simp [n2]) w
  have h10 : ∀ w, Calls Tryz.prog 135 #[.string d, .int .u8 10] w fun e w' => e = .returned (.bool false) ∧ w' = w := fun w => hd ▸ sc_none (34 :: (x ++ [34])) 10 (by simp [n3]) w
  have H92 := Lib.hid h92
  have H10 := Lib.hid h10
  have Hv := Lib.hid hv
  obtain ⟨n, hn⟩ : ∃ n, n = x.length := ⟨_, rfl⟩
  rw [← hn] at hs e1 e2 e3 e4 hidx hl
  have ew : IntKind.i64.wrap ((n : Int) + 2) = (n : Int) + 2 := IntWalk.i64_in _ (by omega)
  have ew2 : IntKind.i64.wrap ((n : Int) + 2 - 1) = (n : Int) + 1 := by rw [IntWalk.i64_in _ (by omega)]; omega
  have hsx : (mkS x).size = n := by rw [mkS_size, hn]
  rw [← hd]
  clear hx n1 n2 n3 n4 hd hn hk h92 h10 hv
  go_enter Tryz.func113, Tryz.ntmps113
  change Code.wp _ _ _ _ (w.drewN 0)
  go_wp2_with fail
  refine (sc_index _ _ _).mono ?_
  rintro e w1 ⟨rfl, rfl⟩
  rw [hidx]
  go_wp2_with fail
  refine (H92.out _).mono ?_
  rintro e w2 ⟨rfl, rfl⟩
  go_wp2_with fail
  refine (H10.out _).mono ?_
  rintro e w3 ⟨rfl, rfl⟩
  go_wp2_with fail
  refine (Hv.out _).mono ?_
  rintro e w4 ⟨rfl, m4, rfl⟩
  go_wp2_with fail
  go_quiet (fail)
  rw [e4]
  go_wp2
  exact bodyPost_ret (v := .tuple #[.string (mkS x), .string ⟨#[]⟩, .nilIface]) (by simp [results, Tryz.results113, go_sem]) rfl ⟨rfl, m4 + nq, by simp [World.drewN, Nat.add_assoc]⟩

set_option maxRecDepth 100000 in
theorem unquote_of {x : Bs} (hx : ∀ b ∈ x, isStr b = true) (hl : x.length ≤ 1000) (hv : ∀ w, Calls Tryz.prog 136 #[.string (mkS x)] w (fun e w' => e = .returned (.bool true) ∧ ∃ m, w' = w.drewN m)) (w : World) :
    Calls Tryz.prog 92 #[.string (mkS (34 :: (x ++ [34])))] w (UnqQ x w) := by
  have H := Lib.hid (unquote_in hx hl hv w)
  clear hx hl hv
  go_enter Tryz.func92, Tryz.ntmps92
  go_wp2_with fail
  refine H.out.mono ?_
  rintro e w1 ⟨rfl, m, rfl⟩
  go_wp2
  go_ret2
  exact ⟨rfl, below_drewN (Below.refl _ _) _⟩
theorem unquote_any {x : Bs} (hx : ∀ b ∈ x, isStr b = true) (hl : x.length ≤ 9) (w : World) :
    Calls Tryz.prog 92 #[.string (mkS (34 :: (x ++ [34])))] w (UnqQ x w) :=
  unquote_of hx (by omega) (fun w => valid_short (str_no hx).2.2.2 hl w) w
end Go.Proofs.YtpoimmpdncickaaGreatDoor

/- What is told of a file that includes another one, of a folder; plain lists. -/
namespace Go.Proofs.YtpoimmpdncickaaGreatDoor
open Go Go.RowKit Lex Go.Proofs.YtpoimmpdncickaaGreatDoorW.PrintWords Go.Proofs.YtpoimmpdncickaaGreatDoor.PHelp
set_option linter.unusedVariables false
set_option linter.unusedSimpArgs false

/-- The first file. -/
def dirMain : Bs := incB insBs []
/-- The file's name in a folder. -/
def dirP (d : Bs) : Bs := d ++ 47 :: insBs
def dirI (inside : List Bs) : Bs := textB inside ++ 10 :: []
def othB : Bs := [111, 116, 104, 101, 114, 10]
/-- The files behind the first one. -/
def dirL (d : Bs) (inside : List Bs) : Option Bs → List (Bs × ByteArray)
  | none => [(dirP d, mkS (dirI inside))]
  | some e => [(dirP d, mkS (dirI inside)), (dirP e, mkS othB)]

theorem dirP_inj {x d : Bs} (h : dirP x = dirP d) : x = d := List.append_cancel_right h
theorem dirP_ins {x : Bs} : insBs ≠ dirP x := fun h => by
  have := congrArg List.length h
  simp [dirP, insBs] at this
theorem dirP_main {x : Bs} : dirP x ≠ mainBs := fun h => by
  have h1 : (47 : UInt8) ∈ dirP x := by simp [dirP]
  rw [h] at h1
  revert h1
  decide

section
variable {m : ByteArray} {d : Bs} {inside : List Bs} {e : Option Bs}
theorem tab_miss {y : Bs} (h0 : y ≠ mainBs) (h1 : y ≠ dirP d) (h2 : ∀ x, e = some x → y ≠ dirP x) : tab ((mainBs, m) :: dirL d inside e) (fun _ => none) y = none := by
  cases e with
  | none => simp [dirL, tab, h0, h1]
  | some x => simp [dirL, tab, h0, h1, h2 x rfl]
theorem tab_hit (h2 : ∀ x, e = some x → x ≠ d) : tab ((mainBs, m) :: dirL d inside e) (fun _ => none) (dirP d) = some (mkS (dirI inside)) := by
  cases e with
  | none => simp [dirL, tab]
  | some x =>
    have h : dirP d ≠ dirP x := fun q => h2 x rfl (dirP_inj q).symm
    simp [dirL, tab, h]
theorem tab_main : tab ((mainBs, m) :: dirL d inside e) (fun _ => none) mainBs = some m := by
  have h := fun x => (dirP_main (x := x)).symm
  cases e with
  | none => simp [dirL, tab, h]
  | some x => simp [dirL, tab, h]

theorem elem_name {x : Bs} (h : PName x) : Elem x := by
  obtain ⟨c, r, rfl, h1, h2⟩ := h
  have h47 : ∀ b ∈ (c :: r), b ≠ 47 := by
    intro b hb e
    subst e
    rcases List.mem_cons.1 hb with e | hb
    · rw [← e] at h1; revert h1; decide
    · have := h2 47 (by first | exact hb | simpa using hb); revert this; decide
  refine ⟨fun h => h47 _ h rfl, by simp, fun e => ?_, fun e => ?_⟩
  · injection e with e _; subst e; revert h1; decide
  · injection e with e _; subst e; revert h1; decide
theorem elem_ins : Elem insBs := ⟨by decide, by decide, by decide, by decide⟩

def dirJ (dirs : List Bs) : Nat → Bs
  | 0 => insBs
  | i + 1 => dirP (dirs.getD i [])
theorem dir_found {dirs : List Bs} {k : Nat} (hk : dirs[k]? = some d) (hp : ∀ x ∈ dirs, PName x ∧ x.length ≤ 60) (hno : ∀ i x, i < k → dirs[i]? = some x → x ≠ d) (he : ∀ x, e = some x → x ≠ d ∧ ∀ i y, i < k → dirs[i]? = some y → y ≠ x) (hl : dirs.length ≤ 5) :
    FoundAt (tab ((mainBs, m) :: dirL d inside e) (fun _ => none)) (dotName :: dirs.map mkS) insBs (dirI inside) ∧ tab ((mainBs, m) :: dirL d inside e) (fun _ => none) insBs = none := by
  have hkl := (List.getElem?_eq_some_iff.1 hk).1
  have hget : ∀ i, i < dirs.length → ∃ x, dirs[i]? = some x ∧ dirs.getD i [] = x := fun i hi => ⟨dirs[i], List.getElem?_eq_getElem hi, by rw [List.getD_eq_getElem?_getD, List.getElem?_eq_getElem hi]; rfl⟩
  have h0 : tab ((mainBs, m) :: dirL d inside e) (fun _ => none) insBs = none := tab_miss (by decide) dirP_ins (fun x _ => dirP_ins)
  refine ⟨⟨k + 1, dirJ dirs, fun i hi => ?_, fun i hi => ?_, ?_, by omega⟩, h0⟩
  · cases i with
    | zero => exact ⟨dotName, rfl, by decide, joinL_dot elem_ins, by show insBs.length ≤ 5000; decide⟩
    | succ i =>
      obtain ⟨x, h1, h2⟩ := hget i (by omega)
      have hx := hp x (List.mem_of_getElem? h1)
      refine ⟨mkS x, by rw [List.getElem?_cons_succ, List.getElem?_map, h1]; rfl, by rw [mkS_size]; omega, ?_, ?_⟩
      · show Go.Lib.Pa.joinL [(mkS x).data.toList, insBs] = dirP (dirs.getD i [])
        rw [h2, show (mkS x).data.toList = x by simp [mkS]]
        exact joinL_dir (elem_name hx.1) elem_ins
      · show (dirP (dirs.getD i [])).length ≤ 5000
        rw [h2]
        simp [dirP, insBs]
        omega
  · cases i with
    | zero => exact h0
    | succ i =>
      obtain ⟨x, h1, h2⟩ := hget i (by omega)
      show tab _ _ (dirP (dirs.getD i [])) = none
      rw [h2]
      exact tab_miss dirP_main (fun q => hno i x (by omega) h1 (dirP_inj q)) (fun z hz q => (he z hz).2 i x (by omega) h1 (dirP_inj q))
  · show tab _ _ (dirP (dirs.getD k [])) = _
    rw [List.getD_eq_getElem?_getD, hk]
    exact tab_hit (fun x hx => (he x hx).1)
end

theorem incd_told {y : Wy} {inside : List Bs} (hin : ∀ w ∈ inside, WordL w) (hi20 : inside.length ≤ 20) (hun : ∀ w, Calls Tryz.prog 92 #[.string (mkS (34 :: (insBs ++ [34])))] w (UnqQ insBs w)) (hF0 : y.F insBs = none) (hfa : FoundAt y.F y.inc insBs (dirI inside)) :
    ∃ T l s' mac mn, TL dirMain 1 1 T ∧ StT y l ⟨[tzAb mainName T], 0, fun _ => none, [], true, []⟩ s' ∧ At s' mainName [] [] mac [] mn ∧ shown (l.map Fd.kx) = inside ∧ l.length ≤ 1000 ∧ ∀ f ∈ l, -1000000 ≤ f.k ∧ f.k < 1000000 := by
  have hb : blanks [] := by intro b h; cases h
  have hpc := pc_inc (q := insBs) (by decide) (by decide) (tail := []) .nil
  obtain ⟨T, h1, h2⟩ := hpc.tl 1 1
  have hpi := pc_line hin (tail := []) .nil [] hb
  obtain ⟨T2, i1, i2⟩ := hpi.tl 1 1
  have e1 := textB_len inside (fun x hx => (hin x hx).len)
  have hlen : (dirI inside).length < 900000 := by
    simp only [dirI, List.length_cons, List.length_append, List.length_nil]
    omega
  have ha : ascii (dirI inside) := ascii_app (ascii_text hin) (ascii_cons (by decide) (by intro b h; cases h))
  have hat := at_start (nm := mainName) h2
  obtain ⟨l3, s3, o, c1, c2, c3, c4, c5, c6, c7⟩ := st_incd (y := y) (T := T2) hat rfl (by simp) (by simp) rfl hun hF0 hfa (by decide) (by simpa [dirI] using i1) ha hlen
  rw [i2] at c3
  obtain ⟨l4, s4, d1, d2, d3, _⟩ := st_ws (y := y) (by simp) (by simp) rfl inside _ (fun w hw => ⟨hin w hw, rfl⟩) c3
  obtain ⟨l5, s5, e1', e2, e3, e4, _⟩ := st_nl (y := y) d3 (by simp) (by simp) rfl
  have e3' := at_pop e3 c5 c6 c7
  have hs := c1.app (d1.app e1')
  refine ⟨T, _, s5, _, _, h1, hs, e3', ?_, ?_, hs.kinds⟩
  · simp only [List.map_append, shown_app]
    rw [c2, d2, e2, shown_words hin]
    simp [shown, isShown]
  · have m3 := congrArg List.length c2
    have m4 := congrArg List.length d2
    have m5 := congrArg List.length e2
    simp at m3 m4 m5
    simp only [List.length_append]
    omega
section
variable {w : World} {ev : Value}
set_option maxRecDepth 100000 in
set_option maxHeartbeats 2000000 in
theorem newInput_dirs {B fb n ic dl dc mn : Nat} {ia da : Option Addr} {bl : Bool} {F : Bs → Option ByteArray} {inc : List ByteArray} {mac : Bs → Option Mc} (hf : SMap w fb n (fun x => (F x).map Value.string)) (hi : Kd.C Kd.string w ia inc.length inc) (hic : inc.length ≤ ic) (hB : B ≤ w.heap.size) (hl : inc.length < 1000)
    (hpre : ∀ w1, Below w.heap.size w w1 → Calls Tryz.prog 44 #[.slice da dl dc] w1 (PreG mn mac w1)) :
    Calls Tryz.prog 30 #[.string mainName, .map (some fb), .slice ia inc.length ic, .slice da dl dc] w (NewIG B fb bl F inc mn mac w) := by
  have Hf := Lib.hid hf
  have Hi := Lib.hid hi
  have Hpre := Lib.hid hpre
  obtain ⟨ln, hln⟩ : ∃ q, q = inc.length := ⟨_, rfl⟩
  rw [← hln] at hic hl ⊢
  have Hln := Lib.hid hln
  clear hf hi hpre hln
  go_enter Tryz.func30, Tryz.ntmps30
  go_wp2_with fail
  refine dir_main.mono ?_
  rintro e w1 ⟨rfl, m, rfl⟩
  have hrow1 := row_one (w.drewN m) 9 (.string dotName)
  have hi2 : Kd.C Kd.string ((w.drewN m).alloc (.cells #[.string dotName] 9)) ia ln inc := by
    have := Kd.C_below Hi.out ((below_drewN (Below.refl _ _) m).alloc (Nat.le_refl _) (.cells #[.string dotName] 9) : Below w.heap.size w _)
    rwa [← Hln.out] at this
  have Hrow1 := Lib.hid hrow1
  have Hi2 := Lib.hid hi2
  clear hrow1 hi2
  go_wp2_with (at_builtin; refine wpList_append_kd rfl _ _ rfl w.heap.size _ ia ln ic rfl rfl 1 _ inc Hrow1.out Hi2.out ?c1 ?c2 ?c3 ?c4 ?_)
  case c1 => exact Hln.out
  case c2 => exact hic
  case c3 => omega
  case c4 => simp
  intro v' w1 hown' hgrow
  rw [Hln.out] at hown'
  obtain ⟨gi, ci, rfl⟩ : ∃ g cap, v' = .slice (some ⟨g, 0, none⟩) (1 + inc.length) cap := by
    obtain ⟨_, ⟨_, h0⟩ | ⟨g, cap, cur, e, _⟩⟩ := hown'
    · omega
    · exact ⟨g, cap, e⟩
  have hbel1 : Below w.heap.size w w1 := by
    have h0 : Below w.heap.size w (w.drewN m) := ⟨rfl, rfl, rfl, Nat.le_refl _, fun _ _ => rfl⟩
    have h1 : Below w.heap.size w ((w.drewN m).alloc (.cells #[.string dotName] 9)) := h0.alloc (Nat.le_refl _) _
    exact h1.trans ⟨hgrow.os, hgrow.tape, hgrow.output, hgrow.size, fun k hk => hgrow.block k (by simp; omega) (fun e => by simp [Value.ownBlock] at e; omega)⟩
  have Hown := Lib.hid hown'
  have Hbel1 := Lib.hid hbel1
  have Hpr := Lib.hid (Hpre.out w1 hbel1)
  clear hown' hgrow hbel1 Hrow1 Hi2 Hi Hpre
  go_wp2_with fail
  refine Hpr.out.mono ?_
  rintro e w2 ⟨mb, rfl, hm, hmb, hb2⟩
  have Hmb := Lib.hid hmb
  clear hmb
  have hfin : NewIG B fb bl F inc mn mac w (.returned (.pointer (some ⟨w2.heap.size, 0, none⟩))) (w2.alloc (.cells #[.slice none 0 0, .slice (some ⟨gi, 0, none⟩) (1 + inc.length) ci, .map (some fb), .bool true, .slice none 0 0, .map (some mb), .string ⟨#[]⟩, .bool false, .int .i32 0, .string ⟨#[]⟩] 73)) := by
    have hB1 := Blk.lit w2 #[.slice none 0 0, .slice (some ⟨gi, 0, none⟩) (1 + inc.length) ci, .map (some fb), .bool true, .slice none 0 0, .map (some mb), .string ⟨#[]⟩, .bool false, .int .i32 0, .string ⟨#[]⟩] 73
    have hs2 := hb2.size
    have hs1 := Hbel1.out.size
    have hfl := Hf.out.lt
    have hbel2 : Below w.heap.size w w2 := Hbel1.out.trans ⟨hb2.os, hb2.tape, hb2.output, hb2.size, fun k hk => hb2.block k (by omega)⟩
    have hbel3 := hbel2.alloc hbel2.size (.cells #[.slice none 0 0, .slice (some ⟨gi, 0, none⟩) (1 + inc.length) ci, .map (some fb), .bool true, .slice none 0 0, .map (some mb), .string ⟨#[]⟩, .bool false, .int .i32 0, .string ⟨#[]⟩] 73)
    have hgi := (ownBlock_row Hown.out gi rfl).2.lt
    have hmb := Hmb.out
    have hstr : Strs (w2.alloc (.cells #[.slice none 0 0, .slice (some ⟨gi, 0, none⟩) (1 + inc.length) ci, .map (some fb), .bool true, .slice none 0 0, .map (some mb), .string ⟨#[]⟩, .bool false, .int .i32 0, .string ⟨#[]⟩] 73)) (.slice (some ⟨gi, 0, none⟩) (1 + inc.length) ci) (dotName :: inc) := by
      have h1 : w1.ownsRow 0 9 1 (.slice (some ⟨gi, 0, none⟩) (1 + inc.length) ci) (1 + inc.length) ((dotName :: inc).map Value.string) := row_zero Hown.out
      have h2 : w2.ownsRow 0 9 1 (.slice (some ⟨gi, 0, none⟩) (1 + inc.length) ci) (1 + inc.length) ((dotName :: inc).map Value.string) := ownsRow_only h1 (fun k hk => by cases hk; exact hb2.block _ hgi)
      have h3 := ownsRow_only h2 (w' := w2.alloc (.cells #[.slice none 0 0, .slice (some ⟨gi, 0, none⟩) (1 + inc.length) ci, .map (some fb), .bool true, .slice none 0 0, .map (some mb), .string ⟨#[]⟩, .bool false, .int .i32 0, .string ⟨#[]⟩] 73)) (fun k hk => by cases hk; exact Below.heap_alloc w2 _ _ (by show gi < _; omega))
      unfold Strs
      rw [show (dotName :: inc).length = 1 + inc.length by simp; omega]
      exact h3
    have hmacs := hm.below ((Below.refl w2.heap.size w2).alloc (Nat.le_refl _) (.cells #[.slice none 0 0, .slice (some ⟨gi, 0, none⟩) (1 + inc.length) ci, .map (some fb), .bool true, .slice none 0 0, .map (some mb), .string ⟨#[]⟩, .bool false, .int .i32 0, .string ⟨#[]⟩] 73)) (L' := (w2.alloc (.cells #[.slice none 0 0, .slice (some ⟨gi, 0, none⟩) (1 + inc.length) ci, .map (some fb), .bool true, .slice none 0 0, .map (some mb), .string ⟨#[]⟩, .bool false, .int .i32 0, .string ⟨#[]⟩] 73)).heap.size) (by simp)
    refine ⟨_, mb, rfl, ⟨_, Nat.le_refl _, _, [], ⟨hB1, by omega, ⟨rfl, .inl ⟨rfl, rfl⟩⟩, by simp, .nil⟩, .nil, by simp, ?_, rfl, rfl, rfl, ⟨_, rfl⟩, ⟨_, rfl⟩⟩, hbel3, by omega⟩
    exact { ifr := ⟨rfl, .inl ⟨rfl, rfl⟩⟩, mcv := rfl, mcs := hmacs, mlow := (by show B ≤ mb; omega), fiv := rfl, fis := ⟨n, Hf.out.of_heap (hbel3.block _ hfl)⟩, ne := (by show mb ≠ fb; omega), inv := hstr, inl := fun k hk => (by cases hk; show gi < _; simp; omega) }
  have Hfin := Lib.hid hfin
  clear hfin hm hb2
  go_wp2
  go_ret
  exact Hfin.out

end
theorem kd_take {w : World} {A : Option Addr} {l : List ByteArray} (h : Kd.C Kd.string w A l.length l) (n : Nat) : Kd.C Kd.string w A (l.take n).length (l.take n) := by
  have h1 := Kd.reads_of_C (d := ByteArray.empty) h
  refine Kd.C_of_reads (enc := Value.string) (d := ByteArray.empty) (h1 := fun _ => rfl) ⟨rfl, Nat.le_trans (by rw [List.length_take]; omega) h1.2.1, fun hp => ?_⟩
  rw [List.length_take] at hp
  obtain ⟨ad, hA, hc⟩ := h1.2.2 (by omega)
  refine ⟨ad, hA, fun j hj => ?_⟩
  rw [List.length_take] at hj
  have := hc j (by omega)
  rw [this, List.getD_eq_getElem?_getD, List.getD_eq_getElem?_getD, List.getElem?_take, if_pos (by omega)]

section
variable {w : World} {ev : Value}
theorem expand_dirs {g mn' cap ic : Nat} {ia : Option Addr} {inc : List ByteArray} {mac' : Bs → Option Mc} {nm' : ByteArray} {text : Bs} {l : List (Bs × ByteArray)} {ts : List Tok} {fl : List Fd} {s' : Sg} (hr : Files w g cap ((mainBs, mkS text) :: l)) (hnm : ∀ p ∈ l, p.1.length ≤ 1000000) (hl9 : l.length < 900) (hF : tab ((mainBs, mkS text) :: l) (fun _ => none) mainBs = some (mkS text)) (htl : TL text 1 1 ts) (ha : ascii text) (hlen : text.length < 900000)
    (hi : Kd.C Kd.string w ia inc.length inc) (hic : inc.length ≤ ic) (hil : inc.length < 1000)
    (hst : StT ⟨true, tab ((mainBs, mkS text) :: l) (fun _ => none), dotName :: inc⟩ fl ⟨[tzAb mainName ts], 0, fun _ => none, [], true, []⟩ s') (hend : At s' nm' [] [] mac' [] mn') (hfl : fl.length < 100000) (hfk : ∀ f ∈ fl, -1000000 ≤ f.k ∧ f.k < 1000000) (hg : Glob w ev) (hB : 21 ≤ w.heap.size) :
    Calls Tryz.prog 18 #[.slice (some ⟨g, 0, none⟩) (l.length + 1 : Nat) cap, .slice ia inc.length ic, .slice none 0 0] w (ExQ fl w) :=
  expand_ok (l := l) (inc := inc) hr hnm hl9 hF htl ha hlen (fun w0 w1 fb nf hb0 hm hb1 => by
    refine (newInput_dirs (B := w0.heap.size) (bl := true) (inc := inc) (F := tab ((mainBs, mkS text) :: l) (fun _ => none)) (hm.of_heap (hb1.block _ hm.lt)) (Kd.C_below hi (hb0.trans (hb1.mono hb0.size))) hic hb1.size hil (fun w2 h2 => predefine_none)).mono ?_
    rintro e w' ⟨ib, mb, rfl, h1, h2, h3⟩
    exact ⟨ib, mb, rfl, h1, h2, h3⟩) hst hend hfl hfk hg hB

/-- What is told of the files with folders. -/
theorem expand_dir {g cap k ic : Nat} {ia : Option Addr} {dirs inside : List Bs} {d : Bs} {e : Option Bs} (hr : Files w g cap ((mainBs, mkS dirMain) :: dirL d inside e)) (hi : Kd.C Kd.string w ia (dirs.map mkS).length (dirs.map mkS)) (hic : (dirs.map mkS).length ≤ ic) (hl : dirs.length ≤ 5)
    (hk : dirs[k]? = some d) (hp : ∀ x ∈ dirs, PName x ∧ x.length ≤ 60) (hno : ∀ i x, i < k → dirs[i]? = some x → x ≠ d) (he : ∀ x, e = some x → x ∈ dirs ∧ x ≠ d ∧ ∀ i y, i < k → dirs[i]? = some y → y ≠ x) (hin : ∀ w ∈ inside, WordL w) (hi20 : inside.length ≤ 20) (hg : Glob w ev) (hB : 21 ≤ w.heap.size) :
    ∃ fl, Calls Tryz.prog 18 #[.slice (some ⟨g, 0, none⟩) ((dirL d inside e).length + 1 : Nat) cap, .slice ia (dirs.map mkS).length ic, .slice none 0 0] w (ExQ fl w) ∧ fl.length ≤ 1000 ∧ shown (fl.map Fd.kx) = inside := by
  obtain ⟨hfa, h0⟩ := dir_found (m := mkS dirMain) (d := d) (inside := inside) (e := e) hk hp hno (fun x hx => (he x hx).2) hl
  obtain ⟨T, fl, s', mac, mn, t1, t2, t3, t4, t5, t6⟩ := incd_told (y := ⟨true, tab ((mainBs, mkS dirMain) :: dirL d inside e) (fun _ => none), dotName :: dirs.map mkS⟩) hin hi20 (unquote_any (by decide) (by decide)) h0 hfa
  have hd := hp d (List.mem_of_getElem? hk)
  have hnm : ∀ p ∈ dirL d inside e, p.1.length ≤ 1000000 := by
    have hq : ∀ x : Bs, x.length ≤ 60 → (dirP x).length ≤ 1000000 := fun x hx => by simp [dirP, insBs]; omega
    cases e with
    | none => intro p hp; simp [dirL] at hp; subst hp; exact hq _ hd.2
    | some x =>
      have hx := hp x (he x rfl).1
      intro p hp
      simp [dirL] at hp
      rcases hp with rfl | rfl
      · exact hq _ hd.2
      · exact hq _ hx.2
  exact ⟨fl, expand_dirs hr hnm (by cases e <;> simp [dirL]) tab_main t1 (by unfold ascii dirMain; decide) (by decide) hi hic (by simp; omega) t2 t3 (by omega) t6 hg hB, t5, t4⟩
end
theorem infoFile : (Tryz.prog.info? 33).map (fun i => (i.zero, i.size, i.bytes)) = some (some (.agg #[.string ⟨#[]⟩, .string ⟨#[]⟩]), 2, 32) := by kernel_rfl
def IDLoop (l0 : List Bs) (k : Nat) (w : World) (n : Nat) (vi : Value) (wr : World) : Prop :=
  ∃ i m, vi = .int .i64 (i : Nat) ∧ i + n = l0.length ∧ wr = w.drewN m ∧ ∀ j x, j < i → l0[j]? = some x → PName x ∧ x.length ≤ 60 ∧ (j < k → l0[k]? ≠ some x)

section
variable {w : World} {ev : Value} {l0 : List Bs} {A0 : Option Addr} {c0 : Nat} {i1 : Int} {l2 : List Bs} {A2 : Option Addr} {c2 : Nat}
set_option maxRecDepth 100000 in
set_option maxHeartbeats 4000000 in
theorem incdir_law (hr0 : Kd.C Kd.string w A0 (l0.map mkS).length (l0.map mkS)) (hc0 : (l0.map mkS).length ≤ c0) (hi1 : IntKind.i64.wrap i1 = i1) (hr2 : Kd.C Kd.string w A2 (l2.map mkS).length (l2.map mkS)) (hc2 : (l2.map mkS).length ≤ c2) (hg : Glob w ev) (hB : 21 ≤ w.heap.size) :
    Calls Tryz.prog 4 #[.slice A0 (l0.map mkS).length c0, .int .i64 i1, .slice A2 (l2.map mkS).length c2] w (LawQ w) := by
  have Hfin := Lib.hid (lawq_drewN w)
  have Hg := Lib.hid hg
  obtain ⟨m0, e0⟩ : ∃ m, m = (l0.map mkS).length := ⟨_, rfl⟩
  have M0 := Lib.hid e0
  have R0 := Lib.hid hr0
  have C0 := Lib.hid hc0
  have q0 : m0 ≤ c0 := by rw [e0]; exact hc0
  rw [← e0]
  obtain ⟨m2, e2⟩ : ∃ m, m = (l2.map mkS).length := ⟨_, rfl⟩
  have M2 := Lib.hid e2
  have R2 := Lib.hid hr2
  have C2 := Lib.hid hc2
  have q2 : m2 ≤ c2 := by rw [e2]; exact hc2
  rw [← e2]
  clear hg e0 e2 hr0 hc0 hr2 hc2
  go_enter Tryz.func4, Tryz.ntmps4
  change Code.wp _ _ _ _ (w.drewN 0)
  obtain ⟨t0, z0, y0⟩ := fits_f (ws := l0)
  have g0 := gd_fits R0.out C0.out z0
  rw [← M0.out] at g0
  have G := Lib.hid g0
  have F0 := Lib.hid y0
  clear g0 z0 y0
  go_wp2_with fail
  refine (G.out _).mono ?_
  rintro e u1 ⟨rfl, j1, rfl⟩
  clear G
  cases t0 with
  | false => go_wp2; go_ret; exact Hfin.out _
  | true =>
  obtain ⟨t2, z2, y2⟩ := fits_f (ws := l2)
  have g2 := gd_fits R2.out C2.out z2
  rw [← M2.out] at g2
  have G := Lib.hid g2
  have F2 := Lib.hid y2
  clear g2 z2 y2
  go_wp2_with fail
  refine (G.out _).mono ?_
  rintro e u2 ⟨rfl, j2, rfl⟩
  clear G
  cases t2 with
  | false => go_wp2; go_ret; exact Hfin.out _
  | true =>
  rcases Nat.lt_or_ge 5 m0 with h5 | h5
  · go_wp2
    go_ret
    exact Hfin.out _
  rcases Int.lt_or_le i1 0 with hlo | hlo
  · go_wp2
    go_ret
    exact Hfin.out _
  obtain ⟨k, rfl⟩ : ∃ k : Nat, i1 = k := ⟨i1.toNat, by omega⟩
  rcases Nat.lt_or_ge k m0 with hkm | hkm
  rotate_left
  · have hge1 : (m0 : Int) ≤ (k : Int) := by omega
    go_wp2
    go_ret
    exact Hfin.out _
  have hlp1 : ¬ (k : Int) < 0 := by omega
  have hlp2 : (k : Int) < (m0 : Int) := by omega
  have hge1 : ¬ (m0 : Int) ≤ (k : Int) := by omega
  clear hi1 hlo
  obtain ⟨t2, z2, y2⟩ := line_f (F2.out (by first | rfl | trivial)).2 (F2.out (by first | rfl | trivial)).1
  have g2 := gd_line R2.out C2.out z2
  rw [← M2.out] at g2
  have G := Lib.hid g2
  have Y := Lib.hid y2
  clear g2 z2 y2
  go_wp2_with fail
  refine (G.out _).mono ?_
  rintro e u3 ⟨rfl, j3, rfl⟩
  clear G
  cases t2 with
  | false => go_wp2; go_ret; exact Hfin.out _
  | true =>
  have W2 : Hid (∀ x ∈ l2, WordL x) := Lib.hid (fun x hx => ((Y.out (by first | rfl | trivial)).1 x hx).word)
  have T2 : Hid (l2.length ≤ 20) := Lib.hid (Y.out (by first | rfl | trivial)).2
  clear Y
  have hm0 : m0 = l0.length := by have := M0.out; simpa using this
  obtain ⟨dk, hdk⟩ : ∃ x, l0[k]? = some x := ⟨l0[k]'(by omega), List.getElem?_eq_getElem _⟩
  have hcw : ∀ w', Below w.heap.size w w' → ∃ ad, A0 = some ad ∧ ∀ i x, l0[i]? = some x → w'.cell? (ad.add i) = some (.string (mkS x)) := fun w' hb => by
    obtain ⟨ad, hA, hcell⟩ := (Kd.reads_of_C (d := ByteArray.empty) (Kd.C_below R0.out hb)).2.2 (by rw [← M0.out]; omega)
    refine ⟨ad, hA, fun i x hx => ?_⟩
    have hlt := (List.getElem?_eq_some_iff.1 hx).1
    have := hcell i (by rw [← M0.out, hm0]; exact hlt)
    rw [List.getD_eq_getElem?_getD, at_map hx] at this
    exact this
  obtain ⟨ad0, hA0, _⟩ := hcw w (Below.refl _ _)
  subst hA0
  have hcd : ∀ w', Below w.heap.size w w' → ∀ i x, l0[i]? = some x → w'.cell? (ad0.add i) = some (.string (mkS x)) := fun w' hb i x hx => by
    obtain ⟨ad, hA, h⟩ := hcw w' hb
    cases hA
    exact h i x hx
  have HCD := Lib.hid hcd
  have HM := Lib.hid hm0
  have HDK := Lib.hid hdk
  have HFZ := Lib.hid (F0.out (by first | rfl | trivial)).1
  have hst : IDLoop l0 k w m0 (.int .i64 0) (w.drewN j3) := ⟨0, j3, rfl, by omega, rfl, fun j x h => by omega⟩
  have Hst := Lib.hid hst
  have sd := mkS_size dk
  obtain ⟨dn, hdn⟩ : ∃ q, q = dk.length := ⟨_, rfl⟩
  rw [← hdn] at sd
  have HDN := Lib.hid hdn
  have wk1 : IntKind.i64.wrap ((k : Int) + 1) = (k : Int) + 1 := IntWalk.i64_in _ (by omega)
  clear hm0 hdk hcw hcd hst hdn
  go_wp2
  have hdk2 : decide (m0 ≤ k) = false := decide_eq_false (by omega)
  simp only [hdk2, Bool.or_false]
  clear hdk2
  go_loopg [40] m0 (fun n vi wr => IDLoop l0 k w n vi wr)
  case atStart => exact Hst.out
  case round =>
    clear Hst
    obtain ⟨i, m, rfl, hin, rfl, hall⟩ := hrel
    have hm := HM.out
    have Hall := Lib.hid hall
    have Hin := Lib.hid hin
    rcases Nat.lt_or_ge i m0 with hlt | hge
    · obtain ⟨x, hx⟩ : ∃ x, l0[i]? = some x := ⟨l0[i]'(by omega), List.getElem?_eq_getElem _⟩
      have ci := HCD.out w (Below.refl _ _) i x hx
      have ck := HCD.out w (Below.refl _ _) k dk HDK.out
      have hxz := HFZ.out x (List.mem_of_getElem? hx)
      have hlt2 : (i : Int) < (m0 : Int) := by omega
      have w1 : IntKind.i64.wrap ((i : Int) + 1) = (i : Int) + 1 := IntWalk.i64_in _ (by omega)
      obtain ⟨t, z, y⟩ := plain_f x hxz
      have G := Lib.hid (gd_plain (w := w) z)
      have Y := Lib.hid y
      have sx := mkS_size x
      obtain ⟨xn, hxn⟩ : ∃ q, q = x.length := ⟨_, rfl⟩
      rw [← hxn] at sx hxz
      have HXN := Lib.hid hxn
      have Hx := Lib.hid hx
      clear hall hin hx z y hxn hm
      go_wp2_with fail
      refine (G.out _).mono ?_
      rintro e u9 ⟨rfl, j9, rfl⟩
      clear G
      cases t with
      | false => go_wp2; go_ret; exact Hfin.out _
      | true =>
      have HP := Lib.hid (Y.out (by first | rfl | trivial)).2
      clear Y
      rcases Nat.lt_or_ge 60 xn with h60 | h60
      · go_wp2
        go_ret
        exact Hfin.out _
      have hrel : (i < k → x ≠ dk) → ∀ q, IDLoop l0 k w (gk - 1) (.int .i64 ((i + 1 : Nat) : Int)) (w.drewN q) := fun hne q => by
        have hin := Hin.out
        have hm := HM.out
        refine ⟨i + 1, q, rfl, by omega, rfl, fun j y hj hy => ?_⟩
        by_cases e : j = i
        · subst e
          rw [Hx.out] at hy
          obtain rfl := Option.some.inj hy
          exact ⟨HP.out, by rw [← HXN.out]; exact h60, fun h e => hne h (by rw [HDK.out] at e; exact (Option.some.inj e).symm)⟩
        · exact Hall.out j y (by omega) hy
      have hgk : gk - 1 < gk := by have := Hin.out; have := HM.out; omega
      rcases Nat.lt_or_ge i k with hik | hik
      · have hik2 : (i : Int) < (k : Int) := by omega
        obtain ⟨te, heq⟩ : ∃ r, ((mkS x).toList == (mkS dk).toList) = r := ⟨_, rfl⟩
        cases te with
        | true => go_wp2; go_ret; exact Hfin.out _
        | false =>
        have Hrel := Lib.hid (hrel (fun _ e => by rw [e] at heq; simp at heq))
        clear hrel
        go_wp2
        go_roundg (gk - 1)
        case measure => exact hgk
        case rel => exact Hrel.out _
      · have hik2 : ¬ (i : Int) < (k : Int) := by omega
        have Hrel := Lib.hid (hrel (fun h => by omega))
        clear hrel
        go_wp2
        go_roundg (gk - 1)
        case measure => exact hgk
        case rel => exact Hrel.out _
    have hlt2 : ¬ (i : Int) < (m0 : Int) := by omega
    have hp : ∀ x ∈ l0, PName x ∧ x.length ≤ 60 := fun x hx => by
      obtain ⟨j, hj⟩ := List.getElem?_of_mem hx
      have := (List.getElem?_eq_some_iff.1 hj).1
      exact ⟨(hall j x (by omega) hj).1, (hall j x (by omega) hj).2.1⟩
    have hno : ∀ j x, j < k → l0[j]? = some x → x ≠ dk := fun j x hj hx e => by
      have := (List.getElem?_eq_some_iff.1 hx).1
      exact (hall j x (by omega) hx).2.2 hj (by rw [e]; exact HDK.out)
    have hd60 : dn ≤ 60 := by rw [HDN.out]; exact (hp dk (List.mem_of_getElem? HDK.out)).2
    have hm5 : l0.length ≤ 5 := by omega
    have htl2 := textB_len l2 (fun x hx => (W2.out x hx).len)
    have hT2 := T2.out
    have htx : ∀ w', Below w.heap.size w w' → Gd w' 14 #[.slice A2 m2 c2] (.string (mkS (textB l2))) := fun w' hb => by
      have h := gd_text (Kd.C_below R2.out hb) C2.out (text_f (by omega) (fun x hx => (W2.out x hx).len))
      rwa [← M2.out] at h
    have hz : (mkS (textB l2) ++ ⟨#[10]⟩ : ByteArray) = mkS (dirI l2) := by
      have e1 : (⟨#[10]⟩ : ByteArray) = mkS [10] := rfl
      rw [e1]
      simp only [mkS_app]
      congr 1
    have hy : ∀ x : Bs, (mkS x ++ ⟨#[47, 105, 110, 115, 105, 100, 101, 46, 104]⟩ : ByteArray) = mkS (dirP x) := fun x => by
      have e1 : (⟨#[47, 105, 110, 115, 105, 100, 101, 46, 104]⟩ : ByteArray) = mkS (47 :: insBs) := rfl
      rw [e1]
      simp only [mkS_app]
      rfl
    have hx : (⟨#[35, 105, 110, 99, 108, 117, 100, 101, 32, 34, 105, 110, 115, 105, 100, 101, 46, 104, 34, 10]⟩ : ByteArray) = mkS dirMain := by rfl
    have hox : (⟨#[111, 116, 104, 101, 114, 10]⟩ : ByteArray) = mkS othB := rfl
    have HEX : Hid (∀ (w' : World) (e : Option Bs) (g cap : Nat), Below w.heap.size w w' → Files w' g cap ((mainBs, mkS dirMain) :: dirL dk l2 e) → (∀ x, e = some x → x ∈ l0 ∧ x ≠ dk ∧ ∀ i y, i < k → l0[i]? = some y → y ≠ x) →
        ∃ fl, Calls Tryz.prog 18 #[.slice (some ⟨g, 0, none⟩) ((dirL dk l2 e).length + 1 : Nat) cap, .slice (some ad0) m0 c0, .slice none 0 0] w' (ExQ fl w') ∧ fl.length ≤ 1000 ∧ shown (fl.map Fd.kx) = l2) := Lib.hid (fun w' e g cap hb hr he => by
      have h := expand_dir (e := e) hr (Kd.C_below R0.out hb) C0.out hm5 HDK.out hp hno he W2.out hT2 (Hg.out.only (Only.ofBelow hb) (fun k hk e => by omega)) (Nat.le_trans hB hb.size)
      rwa [← M0.out] at h)
    have HP := Lib.hid hp
    have HNO := Lib.hid hno
    obtain ⟨x2', hx2⟩ : ∃ x, x = mkS (textB l2) := ⟨_, rfl⟩
    have z2 : x2'.size = (textB l2).length := by rw [hx2, mkS_size]
    rw [← hx2] at htx hz
    obtain ⟨p2, hp2⟩ : ∃ p, p = (textB l2).length := ⟨_, rfl⟩
    rw [← hp2] at z2 htl2
    have hp2' : p2 ≤ 1300 := by omega
    have HTX := Lib.hid htx
    have HX := Lib.hid hx
    have HY := Lib.hid hy
    have HZ := Lib.hid hz
    have HO := Lib.hid hox
    have hm2 : m2 ≤ 20 := by have := M2.out; simp at this; omega
    have Hm2 := Lib.hid hm2
    clear hall hin hm hp hno htl2 hT2 htx hz hy hx hox hx2 hp2 hm5 hge Hall Hin
    obtain ⟨if0, hi, hz0, hz1, hz2⟩ := info_parts infoFile
    have HFO : Hid (∀ j, Calls Tryz.prog 16 #[.string ⟨#[35, 105, 110, 99, 108, 117, 100, 101, 32, 34, 105, 110, 115, 105, 100, 101, 46, 104, 34, 10]⟩] (w.drewN j) fun e w' => ∃ g, e = .returned (.slice (some ⟨g, 0, none⟩) 1 1) ∧ w'.ownsRow w.heap.size 33 2 (.slice (some ⟨g, 0, none⟩) 1 1) 1 (cellsF [(mainBs, mkS dirMain)]) ∧ Below w.heap.size w w') := Lib.hid (fun j => by
      rw [HX.out]
      refine fileOf_any.mono ?_
      rintro e w' ⟨rfl, rfl⟩
      exact ⟨_, rfl, ⟨rfl, .inr ⟨(w.drewN j).heap.size, 1, _, rfl, Nat.le_refl _, heap_alloc_new (w.drewN j) _, Nat.le_refl _, by unfold maxLen; omega, rfl, rfl⟩⟩, (below_drewN (Below.refl _ _) _).alloc (Nat.le_refl _) _⟩)
    have ck := HCD.out w (Below.refl _ _) k dk HDK.out
    have hc1 : ¬ 9223372036854775798 < dn := by omega
    have hc2 : ¬ 9223372036854775806 < p2 := by omega
    have hc3 : ¬ 9223372036854775807 < dn + 9 := by omega
    have hc4 : ¬ 9223372036854775807 < p2 + 1 := by omega
    go_upto_region 11 with (fail)
    go_region_held3 (fun w' => w'.cell? (ad0.add k) = some (.string (mkS dk))) (first | exact ck | exact ck9 | exact cf | exact HK9.out _ _ | assumption)
      (first
        | (go_at_call 16; refine (HFO.out _).mono ?_; rintro e w9 ⟨g0, rfl, hfil, hbe⟩; have ck9 : w9.cell? (ad0.add k) = some (.string (mkS dk)) := HCD.out w9 hbe k dk HDK.out; have hbs9 := hbe.size; have HK9 : Hid (∀ j o, ((w9.drewN j).alloc o).cell? (ad0.add k) = some (.string (mkS dk))) := Lib.hid (fun j o => HCD.out _ ((below_drewN hbe j).alloc (below_drewN hbe j).size o) k dk HDK.out); have HTX9 : Hid (Calls Tryz.prog 14 #[.slice A2 m2 c2] w9 fun e w' => e = .returned (.string x2') ∧ ∃ j, w' = w9.drewN j) := Lib.hid (HTX.out w9 hbe 0); have Hbe := Lib.hid hbe; have Hfil : Hid (∀ j, (w9.drewN j).ownsRow w.heap.size 33 2 (.slice (some ⟨g0, 0, none⟩) 1 1) 1 (cellsF [(mainBs, mkS dirMain)])) := Lib.hid (fun j => ownsRow_only hfil (fun _ _ => rfl)); clear hfil hbe)
        | (go_at_call 14; refine HTX9.out.mono ?_; rintro e v3 ⟨rfl, i3, rfl⟩)
        | (refine step_append_lies _ (by rfl) _ _ _ (by rfl) w.heap.size 33 if0 _ 2 32 Tryz.underlying28 hi hz0 hz1 hz2 rfl (by omega) (.slice (some ⟨g0, 0, none⟩) 1 1) 1 (cellsF [(mainBs, mkS dirMain)]) (by rfl) ((Hfil.out _).alloc _) ⟨w9.heap.size, 0, none⟩ 1 1 [.string (mkS dk ++ ⟨#[47, 105, 110, 115, 105, 100, 101, 46, 104]⟩), .string (x2' ++ ⟨#[10]⟩)] (by rfl) (by rfl) (cellTwo (w9.drewN _) _ _ _) (by simp [Value.oneCell']) (by omega) (by unfold maxLen; omega) (by omega) (by simp; omega) (w9.heap.size + 1) (by simp) ?_; intro g2 c2' wf hown hgrow hat9 hlt9; have hbf : Below w.heap.size w wf := ((below_drewN Hbe.out _).alloc (below_drewN Hbe.out _).size _).trans ⟨hgrow.os, hgrow.tape, hgrow.output, hgrow.size, fun q hq => hgrow.block q (by simp; omega) (fun e => by have := (ownBlock_row (Hfil.out 0) q e.symm).1; omega)⟩; have cf : wf.cell? (ad0.add k) = some (.string (mkS dk)) := HCD.out wf hbf k dk HDK.out; have HOWN := Lib.hid hown; have Hbf0 := Lib.hid hbf; clear hown hgrow hat9 hlt9 hbf)
        | fail)
    have hown2 : wf.ownsRow w.heap.size 33 2 (.slice (some ⟨g2, 0, none⟩) 2 c2') 2 (cellsF [(mainBs, mkS dirMain), (dirP dk, mkS (dirI l2))]) := by
      have h := HOWN.out
      rw [HY.out, HZ.out] at h
      exact h
    have Hown0 := Lib.hid hown2
    clear hown2 HOWN Hfil Hbe hbs9 ck9 ck cf HK9 HTX9
    rcases Nat.lt_or_ge (k + 1) m0 with hk1 | hk1
    rotate_left
    · have hk2 : decide ((k : Int) + 1 < (m0 : Int)) = false := decide_eq_false (by omega)
      have hk2' : ¬ (k : Int) + 1 < (m0 : Int) := by omega
      go_wp2_with fail
      go_quiet (fail)
      have Hbf : Hid (Below w.heap.size w (wf.drewN nq)) := Lib.hid (below_drewN Hbf0.out nq)
      have Hown : Hid ((wf.drewN nq).ownsRow w.heap.size 33 2 (.slice (some ⟨g2, 0, none⟩) 2 c2') 2 (cellsF [(mainBs, mkS dirMain), (dirP dk, mkS (dirI l2))])) := Lib.hid (ownsRow_only Hown0.out (fun _ _ => rfl))
      have Hff : Hid (Files (wf.drewN nq) g2 c2' ((mainBs, mkS dirMain) :: dirL dk l2 none)) := Lib.hid (ownsRow_low Hown.out (Nat.zero_le _))
      clear Hbf0 Hown0
      generalize wf.drewN nq = wh at Hbf Hff Hown ⊢
      have hC2 : Hid (∀ w', Below w.heap.size w w' → Kd.C Kd.string w' A2 m2 (l2.map mkS)) := Lib.hid (fun w' hb => by have := Kd.C_below R2.out hb; rwa [← M2.out] at this)
      obtain ⟨fl, hex, hfl, hsh⟩ := HEX.out wh none g2 c2' Hbf.out Hff.out (fun x hx => by cases hx)
      have Hex : Hid (Calls Tryz.prog 18 #[.slice (some ⟨g2, 0, none⟩) 2 c2', .slice (some ad0) m0 c0, .slice none 0 0] wh (ExQ fl wh)) := Lib.hid hex
      obtain ⟨ks, hks⟩ := (shown_f fl (by omega)).rounds
      rw [hsh] at hks
      obtain ⟨kt, hkt⟩ := (texts_f (ws := l2) (by have := M2.out; simp at this; omega)).rounds
      have Hks := Lib.hid hks
      have Hkt := Lib.hid hkt
      have HM2 := M2
      clear hex hks hkt hsh
      go_wp2_with fail
      refine Hex.out.mono ?_
      rintro e w21 ⟨a, fn, fc, rfl, hfn, hrow, hb⟩
      subst hfn
      obtain ⟨y1, y2, y3⟩ := kd_found hrow
      have hlm : (fl.map sFd).length = fl.length := by simp
      rw [hlm] at y2 y3
      have Hb21 := Lib.hid (Hbf.out.trans (hb.mono Hbf.out.size))
      have GSH : Hid (∀ k, Calls Tryz.prog 20 #[.slice a fl.length fc] (w21.drewN k) fun e w' => ∃ A9 c9, e = .returned (.slice A9 m2 c9) ∧ m2 ≤ c9 ∧ Kd.C Kd.string w' A9 m2 (l2.map mkS) ∧ Below w.heap.size w w') := Lib.hid (fun k => by
        have h := spec_Shown.calls ks a fc (fl.map sFd) _ (w21.drewN k) (by rw [hlm]; exact Kd.C_drewN y3 k) (by rw [hlm]; exact y2) Hks.out
        rw [hlm] at h
        refine h.mono ?_
        rintro e w' ⟨v0, rfl, hR, hb2⟩
        obtain ⟨A9, c9, rfl, h1, h2⟩ := Kd.R_reads hR
        rw [← HM2.out] at h1 h2
        exact ⟨A9, c9, by rw [HM2.out], h1, h2, (below_drewN Hb21.out k).trans (hb2.mono Hb21.out.size)⟩)
      obtain ⟨fnl, hfnl⟩ : ∃ q, q = fl.length := ⟨_, rfl⟩
      rw [← hfnl] at GSH ⊢
      clear y1 y2 y3 hrow hb hlm hfl hfnl
      go_wp2_with fail
      refine (GSH.out 0).mono ?_
      rintro e w22 ⟨A9, c9, rfl, hc9, hC9, hb22⟩
      have GT : Hid (Calls Tryz.prog 19 #[.slice A9 m2 c9, .slice A2 m2 c2] w22 fun e w' => e = .returned (.bool true) ∧ Drawn0 w22 w') := Lib.hid (by
        have h := spec_SameTexts.calls kt A9 c9 (l2.map mkS) A2 c2 (l2.map mkS) true w22 (by rw [← HM2.out]; exact hC9) (by rw [← HM2.out]; exact hc9) (by rw [← HM2.out]; exact hC2.out _ hb22) (by rw [← HM2.out]; exact q2) Hkt.out
        rw [← HM2.out] at h
        exact h)
      have Hb22 := Lib.hid hb22
      clear hC9 hb22
      go_wp2_with fail
      refine GT.out.mono ?_
      rintro e w23 ⟨rfl, ⟨j23, rfl⟩⟩
      have Hend : Hid (LawQ w (.returned (.bool true)) (w22.drewN j23)) := Lib.hid ⟨rfl, below_drewN Hb22.out j23⟩
      go_wp2
      go_ret
      exact Hend.out
    obtain ⟨k1, hk1e⟩ : ∃ q, q = k + 1 := ⟨_, rfl⟩
    have wk2 : IntKind.i64.wrap ((k : Int) + 1) = (k1 : Int) := by rw [wk1]; omega
    clear wk1
    rw [← hk1e] at hk1
    have HK1 := Lib.hid hk1e
    clear hk1e
    have hk2 : decide ((k1 : Int) < (m0 : Int)) = true := decide_eq_true (by omega)
    have hk2' : (k1 : Int) < (m0 : Int) := by omega
    have hk3 : (0 : Int) ≤ (k1 : Int) := by omega
    have hk4 : k1 < c0 := by omega
    have hk5 : (k1 : Int) ≤ (c0 : Int) := by omega
    obtain ⟨de, hde⟩ : ∃ x, l0[k1]? = some x := ⟨l0[k1]'(by have := HM.out; omega), List.getElem?_eq_getElem _⟩
    have HDE0 := Lib.hid hde
    have hde60 : de.length ≤ 60 := (HP.out de (List.mem_of_getElem? hde)).2
    have se := mkS_size de
    obtain ⟨en, hen⟩ : ∃ q, q = de.length := ⟨_, rfl⟩
    rw [← hen] at se hde60
    have ce := HCD.out _ Hbf0.out k1 de hde
    have hlt5 : ((l0.take k1).map mkS).length = k1 := by have := HM.out; rw [List.length_map, List.length_take]; omega
    obtain ⟨th, hth⟩ : ∃ r, ((l0.take k1).any fun w => w == de) = r := ⟨_, rfl⟩
    have gh : ∀ j, Calls Tryz.prog 13 #[.slice (some ad0) k1 c0, .string (mkS de)] (wf.drewN j) fun e w' => e = .returned (.bool th) ∧ ∃ q, w' = (wf.drewN j).drewN q := fun j => by
      have hC : Kd.C Kd.string wf (some ad0) ((l0.take k1).map mkS).length ((l0.take k1).map mkS) := by
        have := kd_take (Kd.C_below R0.out Hbf0.out) k1
        rwa [← List.map_take] at this
      obtain ⟨kh, hkh⟩ := (has_f (ws := l0.take k1) de (by rw [List.length_take]; omega)).rounds
      have h := laws_has.calls kh (some ad0) c0 _ _ _ (wf.drewN j) (Kd.C_drewN hC j) (by rw [hlt5]; omega) hkh
      rw [hth, hlt5] at h
      refine h.mono ?_
      rintro e w' ⟨rfl, ⟨q, rfl⟩⟩
      exact ⟨rfl, q, rfl⟩
    have GH := Lib.hid gh
    have HTH := Lib.hid hth
    clear hde hlt5 gh hth hen
    go_wp2_with fail
    go_quiet ((go_at_call 13; refine Calls.quiet_of (GH.out _)))
    clear GH ce
    have Hbf : Hid (Below w.heap.size w (wf.drewN nq)) := Lib.hid (below_drewN Hbf0.out nq)
    have Hown : Hid ((wf.drewN nq).ownsRow w.heap.size 33 2 (.slice (some ⟨g2, 0, none⟩) 2 c2') 2 (cellsF [(mainBs, mkS dirMain), (dirP dk, mkS (dirI l2))])) := Lib.hid (ownsRow_only Hown0.out (fun _ _ => rfl))
    have Hff : Hid (Files (wf.drewN nq) g2 c2' ((mainBs, mkS dirMain) :: dirL dk l2 none)) := Lib.hid (ownsRow_low Hown.out (Nat.zero_le _))
    clear Hbf0 Hown0
    generalize wf.drewN nq = wh at Hbf Hff Hown ⊢
    cases th with
    | true =>
      have hC2 : Hid (∀ w', Below w.heap.size w w' → Kd.C Kd.string w' A2 m2 (l2.map mkS)) := Lib.hid (fun w' hb => by have := Kd.C_below R2.out hb; rwa [← M2.out] at this)
      obtain ⟨fl, hex, hfl, hsh⟩ := HEX.out wh none g2 c2' Hbf.out Hff.out (fun x hx => by cases hx)
      have Hex : Hid (Calls Tryz.prog 18 #[.slice (some ⟨g2, 0, none⟩) 2 c2', .slice (some ad0) m0 c0, .slice none 0 0] wh (ExQ fl wh)) := Lib.hid hex
      obtain ⟨ks, hks⟩ := (shown_f fl (by omega)).rounds
      rw [hsh] at hks
      obtain ⟨kt, hkt⟩ := (texts_f (ws := l2) (by have := M2.out; simp at this; omega)).rounds
      have Hks := Lib.hid hks
      have Hkt := Lib.hid hkt
      have HM2 := M2
      clear hex hks hkt hsh
      go_wp2_with fail
      refine Hex.out.mono ?_
      rintro e w21 ⟨a, fn, fc, rfl, hfn, hrow, hb⟩
      subst hfn
      obtain ⟨y1, y2, y3⟩ := kd_found hrow
      have hlm : (fl.map sFd).length = fl.length := by simp
      rw [hlm] at y2 y3
      have Hb21 := Lib.hid (Hbf.out.trans (hb.mono Hbf.out.size))
      have GSH : Hid (∀ k, Calls Tryz.prog 20 #[.slice a fl.length fc] (w21.drewN k) fun e w' => ∃ A9 c9, e = .returned (.slice A9 m2 c9) ∧ m2 ≤ c9 ∧ Kd.C Kd.string w' A9 m2 (l2.map mkS) ∧ Below w.heap.size w w') := Lib.hid (fun k => by
        have h := spec_Shown.calls ks a fc (fl.map sFd) _ (w21.drewN k) (by rw [hlm]; exact Kd.C_drewN y3 k) (by rw [hlm]; exact y2) Hks.out
        rw [hlm] at h
        refine h.mono ?_
        rintro e w' ⟨v0, rfl, hR, hb2⟩
        obtain ⟨A9, c9, rfl, h1, h2⟩ := Kd.R_reads hR
        rw [← HM2.out] at h1 h2
        exact ⟨A9, c9, by rw [HM2.out], h1, h2, (below_drewN Hb21.out k).trans (hb2.mono Hb21.out.size)⟩)
      obtain ⟨fnl, hfnl⟩ : ∃ q, q = fl.length := ⟨_, rfl⟩
      rw [← hfnl] at GSH ⊢
      clear y1 y2 y3 hrow hb hlm hfl hfnl
      go_wp2_with fail
      refine (GSH.out 0).mono ?_
      rintro e w22 ⟨A9, c9, rfl, hc9, hC9, hb22⟩
      have GT : Hid (Calls Tryz.prog 19 #[.slice A9 m2 c9, .slice A2 m2 c2] w22 fun e w' => e = .returned (.bool true) ∧ Drawn0 w22 w') := Lib.hid (by
        have h := spec_SameTexts.calls kt A9 c9 (l2.map mkS) A2 c2 (l2.map mkS) true w22 (by rw [← HM2.out]; exact hC9) (by rw [← HM2.out]; exact hc9) (by rw [← HM2.out]; exact hC2.out _ hb22) (by rw [← HM2.out]; exact q2) Hkt.out
        rw [← HM2.out] at h
        exact h)
      have Hb22 := Lib.hid hb22
      clear hC9 hb22
      go_wp2_with fail
      refine GT.out.mono ?_
      rintro e w23 ⟨rfl, ⟨j23, rfl⟩⟩
      have Hend : Hid (LawQ w (.returned (.bool true)) (w22.drewN j23)) := Lib.hid ⟨rfl, below_drewN Hb22.out j23⟩
      go_wp2
      go_ret
      exact Hend.out
    | false =>
      have HDE : Hid (de ∈ l0 ∧ de ≠ dk ∧ ∀ i y, i < k → l0[i]? = some y → y ≠ de) := Lib.hid (by
        have hn : ∀ i y, i < k1 → l0[i]? = some y → y ≠ de := fun i y hi hy e => by
          have h2 : ((l0.take k1).any fun w => w == de) = true := List.any_eq_true.2 ⟨y, List.mem_of_getElem? (i := i) (by rw [List.getElem?_take, if_pos hi]; exact hy), by simp [e]⟩
          rw [HTH.out] at h2
          cases h2
        exact ⟨List.mem_of_getElem? HDE0.out, fun e => hn k dk (by have := HK1.out; omega) HDK.out e.symm, fun i y hi hy => hn i y (by have := HK1.out; omega) hy⟩)
      have ce := HCD.out _ Hbf.out k1 de HDE0.out
      go_wp2_with (at_builtin; rw [HY.out, HO.out]; refine wpList_append_own _ rfl _ _ 28 rfl w.heap.size 33 if0 (.agg #[.string ⟨#[]⟩, .string ⟨#[]⟩]) 2 32 Tryz.underlying28 hi hz0 hz1 hz2 rfl (by decide) _ _ _ rfl (Hown.out.alloc _) ⟨wh.heap.size, 0, none⟩ 1 1 [.string (mkS (dirP de)), .string (mkS othB)] rfl rfl ?c1 ?c2 ?c3 ?c4 ?c5 ?_)
      case c1 => exact cellTwo _ _ _ _
      case c2 => intro u hu; simp at hu; rcases hu with rfl | rfl <;> rfl
      case c3 => unfold maxLen; omega
      case c4 => omega
      case c5 => have := Hbf.out.size; simp; omega
      intro v' w3f hown hgrow _
      obtain ⟨g3, c3', rfl⟩ : ∃ g c, v' = .slice (some ⟨g, 0, none⟩) 3 c := by
        obtain ⟨_, ⟨e, h0⟩ | ⟨g, cap, cur, e, _⟩⟩ := hown
        · cases h0
        · exact ⟨g, cap, e⟩
      have hff : Files w3f g3 c3' ((mainBs, mkS dirMain) :: dirL dk l2 (some de)) := ownsRow_low hown (Nat.zero_le _)
      have hbf : Below w.heap.size w w3f := (Hbf.out.alloc Hbf.out.size _).trans ⟨hgrow.os, hgrow.tape, hgrow.output, hgrow.size, fun k hk => hgrow.block k (by have := Hbf.out.size; simp; omega) (fun e => by have := (ownBlock_row Hown.out k e.symm).1; omega)⟩
      have Hff3 := Lib.hid hff
      have Hbf3 := Lib.hid hbf
      clear hown hgrow hff hbf ce
      have hC2 : Hid (∀ w', Below w.heap.size w w' → Kd.C Kd.string w' A2 m2 (l2.map mkS)) := Lib.hid (fun w' hb => by have := Kd.C_below R2.out hb; rwa [← M2.out] at this)
      obtain ⟨fl, hex, hfl, hsh⟩ := HEX.out w3f (some de) g3 c3' Hbf3.out Hff3.out (fun x hx => by cases hx; exact HDE.out)
      have Hex : Hid (Calls Tryz.prog 18 #[.slice (some ⟨g3, 0, none⟩) 3 c3', .slice (some ad0) m0 c0, .slice none 0 0] w3f (ExQ fl w3f)) := Lib.hid hex
      obtain ⟨ks, hks⟩ := (shown_f fl (by omega)).rounds
      rw [hsh] at hks
      obtain ⟨kt, hkt⟩ := (texts_f (ws := l2) (by have := M2.out; simp at this; omega)).rounds
      have Hks := Lib.hid hks
      have Hkt := Lib.hid hkt
      have HM2 := M2
      clear hex hks hkt hsh
      go_wp2_with fail
      refine Hex.out.mono ?_
      rintro e w21 ⟨a, fn, fc, rfl, hfn, hrow, hb⟩
      subst hfn
      obtain ⟨y1, y2, y3⟩ := kd_found hrow
      have hlm : (fl.map sFd).length = fl.length := by simp
      rw [hlm] at y2 y3
      have Hb21 := Lib.hid (Hbf3.out.trans (hb.mono Hbf3.out.size))
      have GSH : Hid (∀ k, Calls Tryz.prog 20 #[.slice a fl.length fc] (w21.drewN k) fun e w' => ∃ A9 c9, e = .returned (.slice A9 m2 c9) ∧ m2 ≤ c9 ∧ Kd.C Kd.string w' A9 m2 (l2.map mkS) ∧ Below w.heap.size w w') := Lib.hid (fun k => by
        have h := spec_Shown.calls ks a fc (fl.map sFd) _ (w21.drewN k) (by rw [hlm]; exact Kd.C_drewN y3 k) (by rw [hlm]; exact y2) Hks.out
        rw [hlm] at h
        refine h.mono ?_
        rintro e w' ⟨v0, rfl, hR, hb2⟩
        obtain ⟨A9, c9, rfl, h1, h2⟩ := Kd.R_reads hR
        rw [← HM2.out] at h1 h2
        exact ⟨A9, c9, by rw [HM2.out], h1, h2, (below_drewN Hb21.out k).trans (hb2.mono Hb21.out.size)⟩)
      obtain ⟨fnl, hfnl⟩ : ∃ q, q = fl.length := ⟨_, rfl⟩
      rw [← hfnl] at GSH ⊢
      clear y1 y2 y3 hrow hb hlm hfl hfnl
      go_wp2_with fail
      refine (GSH.out 0).mono ?_
      rintro e w22 ⟨A9, c9, rfl, hc9, hC9, hb22⟩
      have GT : Hid (Calls Tryz.prog 19 #[.slice A9 m2 c9, .slice A2 m2 c2] w22 fun e w' => e = .returned (.bool true) ∧ Drawn0 w22 w') := Lib.hid (by
        have h := spec_SameTexts.calls kt A9 c9 (l2.map mkS) A2 c2 (l2.map mkS) true w22 (by rw [← HM2.out]; exact hC9) (by rw [← HM2.out]; exact hc9) (by rw [← HM2.out]; exact hC2.out _ hb22) (by rw [← HM2.out]; exact q2) Hkt.out
        rw [← HM2.out] at h
        exact h)
      have Hb22 := Lib.hid hb22
      clear hC9 hb22
      go_wp2_with fail
      refine GT.out.mono ?_
      rintro e w23 ⟨rfl, ⟨j23, rfl⟩⟩
      have Hend : Hid (LawQ w (.returned (.bool true)) (w22.drewN j23)) := Lib.hid ⟨rfl, below_drewN Hb22.out j23⟩
      go_wp2
      go_ret
      exact Hend.out
end
end Go.Proofs.YtpoimmpdncickaaGreatDoor
