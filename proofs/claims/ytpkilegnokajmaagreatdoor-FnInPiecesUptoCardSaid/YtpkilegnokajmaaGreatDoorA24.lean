/- The specification's functions over strings. The specification's functions over numbers and texts: verdicts. The specification's functions: verdicts joined, owners, times, records, promoted. The specification's functions: a record. -/
import Derived.Test.YtpkilegnokajmaaGreatDoorA00
import Derived.BigQuiet
set_option linter.unusedVariables false
set_option linter.unusedSimpArgs false
set_option linter.unnecessarySimpa false
set_option linter.unusedSectionVars false
namespace Go.Proofs.YtpkilegnokajmaaGreatDoor
open Go.RowKit
theorem hasB_no {s : ByteArray} {c : UInt8} (h : ∀ j (hj : j < s.size), (s[j]'hj) ≠ c) : hasB s c = false := by
  unfold hasB
  rw [Bool.eq_false_iff]
  intro hc
  rw [List.contains_iff_mem] at hc
  obtain ⟨j, hj, he⟩ := List.mem_iff_getElem.1 hc
  exact h j (by simpa using hj) (by rw [← he]; rfl)
theorem hasB_at {s : ByteArray} {c : UInt8} {k : Nat} (hk : k < s.size) (h : s[k]'hk = c) : hasB s c = true := by
  unfold hasB
  rw [List.contains_iff_mem, ← h]
  have : k < s.data.toList.length := by simpa using hk
  exact List.mem_iff_getElem.2 ⟨k, this, rfl⟩
theorem sHasNUL_any (s : ByteArray) (w : World) (hs : s.size ≤ 140737488351232) :
    Calls Tryz.prog 113 #[.string s] w fun e w' => e = .returned (.bool (hasB s 0)) ∧ w = w' := by
  go_enter Tryz.func113, Tryz.ntmps113
  go_wp2
  go_loop [6] (fun i => ∃ k : Nat, k ≤ s.size ∧ i = .int .i64 k ∧ ∀ j (hj : j < s.size), j < k → (s[j]'hj) ≠ 0) (fun i => s.size - (intOf i).toNat)
  case atStart => exact ⟨0, Nat.zero_le _, rfl, by intro j _ hj; omega⟩
  case round =>
    obtain ⟨k, hk, rfl, hno⟩ := hrel
    by_cases hlt : k < s.size
    · by_cases hc : s[k]'hlt = 0
      · have HI := Asd.mk (hasB_at hlt hc)
        have hb : (((s[k]'hlt).toNat : Int) == 0) = true := by rw [hc]; rfl
        clear hc hno
        go_wp2
        go_ret
        exact ⟨ret_bool HI.out.symm, rfl⟩
      · have hb : (((s[k]'hlt).toNat : Int) == 0) = false := by
          rw [beq_eq_false_iff_ne]; intro e; exact hc (by apply UInt8.toNat_inj.1; simpa using e)
        have HC := Asd.mk hc
        have HN := Asd.mk hno
        clear hc hno
        go_wp2
        go_round
        case rel => exact ⟨k + 1, by omega, by go_num, fun j hj hl => by rcases Nat.lt_or_ge j k with h | h; exact HN.out j hj h; (have e : j = k := by omega); subst e; exact HC.out⟩
        case measure => simp [intOf]; omega
    · have HI := Asd.mk (hasB_no (s := s) (c := 0) (fun j hj => hno j hj (by omega)))
      clear hno
      go_wp2
      go_ret
      exact ⟨ret_bool HI.out.symm, rfl⟩
theorem z8 {c : UInt8} {n : Nat} (hn : n < 256) (h : ¬ c = UInt8.ofNat n) : ((c.toNat : Int) == (n : Int)) = false := by
  rw [beq_eq_false_iff_ne]
  intro e
  apply h
  apply UInt8.toNat_inj.1
  have : c.toNat = n := by omega
  rw [this, UInt8.toNat_ofNat']
  omega

set_option maxRecDepth 100000 in
theorem sASCII_any (s : ByteArray) (w : World) (hs : s.size ≤ 140737488351232) :
    Calls Tryz.prog 114 #[.string s] w fun e w' => e = .returned (.bool (asc s)) ∧ w = w' := by
  go_enter Tryz.func114, Tryz.ntmps114
  go_wp2
  go_loop [6] (fun i => ∃ k : Nat, k ≤ s.size ∧ i = .int .i64 k ∧ ∀ j (hj : j < s.size), j < k → ascB (s[j]'hj) = true) (fun i => s.size - (intOf i).toNat)
  case atStart => exact ⟨0, Nat.zero_le _, rfl, by intro j _ hj; omega⟩
  case round =>
    obtain ⟨k, hk, rfl, hno⟩ := hrel
    by_cases hlt : k < s.size
    · by_cases h128 : 128 ≤ (s[k]'hlt).toNat
      · have HI := Asd.mk (asc_no hlt (by unfold ascB; rw [Bool.and_eq_false_iff]; right; rw [decide_eq_false_iff_not, UInt8.lt_iff_toNat_lt]; exact Nat.not_lt.2 h128))
        have hge : (128 : Int) ≤ ((s[k]'hlt).toNat : Int) := by omega
        clear h128 hno
        go_wp2
        go_ret
        exact ⟨ret_bool HI.out.symm, rfl⟩
      · have hl1 : ((s[k]'hlt).toNat : Int) < 128 := by omega
        by_cases hc : s[k]'hlt = 0
        · have HI := Asd.mk (asc_no hlt (by rw [hc]; rfl))
          have hb : (((s[k]'hlt).toNat : Int) == 0) = true := by rw [hc]; rfl
          clear hc hno h128
          go_wp2
          go_ret
          exact ⟨ret_bool HI.out.symm, rfl⟩
        · have hb : (((s[k]'hlt).toNat : Int) == 0) = false := z8 (n := 0) (by omega) hc
          have HC : Asd (ascB (s[k]'hlt) = true) := ⟨by unfold ascB; rw [Bool.and_eq_true]; exact ⟨by simpa using hc, by rw [decide_eq_true_eq, UInt8.lt_iff_toNat_lt]; exact Nat.not_le.1 h128⟩⟩
          have HN := Asd.mk hno
          clear hc hno h128
          go_wp2
          go_round
          case rel => exact ⟨k + 1, by omega, by go_num, fun j hj hl => by rcases Nat.lt_or_ge j k with h | h; exact HN.out j hj h; (have e : j = k := by omega); subst e; exact HC.out⟩
          case measure => simp [intOf]; omega
    · have HI := Asd.mk (asc_yes (s := s) (fun j hj => hno j hj (by omega)))
      clear hno
      go_wp2
      go_ret
      exact ⟨ret_bool HI.out.symm, rfl⟩
/-- Does a name end with a slash? -/
def slB (s : ByteArray) : Bool := Lib.hasSuffix s.data.toList [47]
theorem slB_at {s : ByteArray} (h : 0 < s.size) : slB s = (((s[s.size - 1]'(by omega)).toNat : Int) == 47) := by
  unfold slB
  rw [← Lib.hasSuffix_of_drop]
  have hl : s.data.toList.length = s.size := by simp
  have hd : s.data.toList.drop (s.data.toList.length - [(47 : UInt8)].length) = [s[s.size - 1]'(by omega)] := by
    rw [hl]
    have hlt : s.size - 1 < s.data.toList.length := by omega
    rw [show s.size - [(47 : UInt8)].length = s.size - 1 from rfl, List.drop_eq_getElem_cons hlt, List.drop_of_length_le (by omega)]
    rfl
  rw [hd, hl]
  have h1 : decide ([(47 : UInt8)].length ≤ s.size) = true := by simp; omega
  rw [h1, Bool.true_and, Bool.eq_iff_iff]
  simp only [beq_iff_eq, List.cons.injEq, and_true]
  rw [← UInt8.toNat_inj]
  show _ = 47 ↔ _
  omega
theorem slB_0 {s : ByteArray} (h : s.size = 0) : slB s = false := by
  have : s.data.toList = [] := List.eq_nil_of_length_eq_zero (by simpa using h)
  unfold slB
  rw [this]
  rfl
theorem size_toL (s : ByteArray) : s.toList.length = s.size := by rw [Lib.toList_data]; simp
theorem emp_iff (s : ByteArray) : s.toList.isEmpty = decide (s.size = 0) := by
  rw [Bool.eq_iff_iff, List.isEmpty_iff, decide_eq_true_eq, ← size_toL, List.length_eq_zero_iff]
set_option maxRecDepth 100000 in
theorem sSlashed_any (s : ByteArray) (w : World) (hs : s.size ≤ 140737488351232) :
    Calls Tryz.prog 44 #[.string s] w fun e w' => e = .returned (.bool (slB s)) ∧ w = w' := by
  by_cases h0 : 0 < s.size
  · have HI := Asd.mk (slB_at h0)
    have hne : s.toList.isEmpty = false := by rw [emp_iff]; exact decide_eq_false (by omega)
    have hne2 : ¬ s.toList = [] := by rw [← List.isEmpty_iff]; simp [hne]
    go_enter Tryz.func44, Tryz.ntmps44
    go_wp2
    go_ret
    exact ⟨ret_bool HI.out.symm, rfl⟩
  · have HI := Asd.mk (slB_0 (s := s) (by omega))
    have hne : s.toList = [] := by rw [← List.length_eq_zero_iff, size_toL]; omega
    clear h0
    go_enter Tryz.func44, Tryz.ntmps44
    go_wp2
    go_ret
    exact ⟨ret_bool HI.out.symm, rfl⟩
/-- Can a path be parted at a place? -/
def splAt (s : ByteArray) (i : Nat) : Bool := decide (1 ≤ i) && decide (i ≤ 155) && decide (s.data[i]? = some 47) && decide (i + 2 ≤ s.size) && decide (s.size ≤ i + 101)
def splB (s : ByteArray) : Bool := (List.range s.size).any (splAt s)
theorem splB_no {s : ByteArray} (h : ∀ i, i < s.size → splAt s i = false) : splB s = false := by
  unfold splB
  rw [List.any_eq_false]
  intro i hi
  simp [h i (List.mem_range.1 hi)]
theorem splB_yes {s : ByteArray} {i : Nat} (hi : i < s.size) (h : splAt s i = true) : splB s = true := by
  unfold splB
  rw [List.any_eq_true]
  exact ⟨i, List.mem_range.2 hi, h⟩
theorem get_some {s : ByteArray} {i : Nat} (hi : i < s.size) : s.data[i]? = some (s[i]'hi) := Array.getElem?_eq_getElem _
set_option maxRecDepth 100000 in
theorem sSplit_any (s : ByteArray) (i : Nat) (w : World) (hs : s.size ≤ 140737488351232) (hi : i < s.size) :
    Calls Tryz.prog 116 #[.string s, .int .i64 i] w fun e w' => e = .returned (.bool (splAt s i)) ∧ w = w' := by
  by_cases h1 : 1 ≤ i
  · by_cases h2 : i ≤ 155
    · by_cases h3 : s[i]'hi = 47
      · have b3 : (((s[i]'hi).toNat : Int) == 47) = true := by rw [h3]; rfl
        have HI : Asd (splAt s i = (decide (i + 2 ≤ s.size) && decide (s.size ≤ i + 101))) := ⟨by unfold splAt; rw [get_some hi, h3]; simp [h1, h2]⟩
        clear h3
        by_cases h4 : i + 2 ≤ s.size
        · have e : Asd (splAt s i = decide (s.size ≤ i + 101)) := ⟨by rw [HI.out]; simp [h4]⟩
          go_enter Tryz.func116, Tryz.ntmps116
          go_wp2
          go_ret
          exact ⟨ret_bool (by rw [e.out, decide_eq_decide]; omega), rfl⟩
        · have e : Asd (splAt s i = false) := ⟨by rw [HI.out]; simp [h4]⟩
          go_enter Tryz.func116, Tryz.ntmps116
          go_wp2
          go_ret
          exact ⟨ret_bool e.out.symm, rfl⟩
      · have b3 : (((s[i]'hi).toNat : Int) == 47) = false := z8 (n := 47) (by omega) h3
        have e : Asd (splAt s i = false) := ⟨by unfold splAt; rw [get_some hi]; simp [h3]⟩
        clear h3
        go_enter Tryz.func116, Tryz.ntmps116
        go_wp2
        go_ret
        exact ⟨ret_bool e.out.symm, rfl⟩
    · have e : Asd (splAt s i = false) := ⟨by unfold splAt; simp [h2]⟩
      go_enter Tryz.func116, Tryz.ntmps116
      go_wp2
      go_ret
      exact ⟨ret_bool e.out.symm, rfl⟩
  · have e : Asd (splAt s i = false) := ⟨by unfold splAt; simp [h1]⟩
    go_enter Tryz.func116, Tryz.ntmps116
    go_wp2
    go_ret
    exact ⟨ret_bool e.out.symm, rfl⟩
theorem sSplits_any (s : ByteArray) (w : World) (hs : s.size ≤ 140737488351232) :
    Calls Tryz.prog 47 #[.string s] w fun e w' => e = .returned (.bool (splB s)) ∧ w = w' := by
  go_enter Tryz.func47, Tryz.ntmps47
  go_wp2
  go_loop [6] (fun i => ∃ k : Nat, k ≤ s.size ∧ i = .int .i64 k ∧ ∀ j, j < k → splAt s j = false) (fun i => s.size - (intOf i).toNat)
  case atStart => exact ⟨0, Nat.zero_le _, rfl, by intro j hj; omega⟩
  case round =>
    obtain ⟨k, hk, rfl, hno⟩ := hrel
    replace hno := Asd.mk hno
    by_cases hlt : k < s.size
    · rcases (Bool.eq_false_or_eq_true (splAt s k)).symm with hc | hc
      · have HC := Asd.mk hc
        have hw := Asd.mk (sSplit_any s k w hs hlt)
        rw [hc] at hw
        clear hc
        go_wp2_with (go_at_call 116; refine hw.out.mono ?_; rintro e w' ⟨rfl, rfl⟩)
        go_round
        case rel => exact ⟨k + 1, by omega, by go_num, fun j hj => by rcases Nat.lt_or_ge j k with h | h; exact hno.out j h; (have e : j = k := by omega); subst e; exact HC.out⟩
        case measure => simp [intOf]; omega
      · have HI := Asd.mk (splB_yes hlt hc)
        have hw := Asd.mk (sSplit_any s k w hs hlt)
        rw [hc] at hw
        clear hc
        go_wp2_with (go_at_call 116; refine hw.out.mono ?_; rintro e w' ⟨rfl, rfl⟩)
        go_ret
        exact ⟨ret_bool HI.out.symm, rfl⟩
    · have HI := Asd.mk (splB_no (s := s) (fun j hj => hno.out j (by omega)))
      go_wp2
      go_ret
      exact ⟨ret_bool HI.out.symm, rfl⟩
/-- Does a key begin with GNU.sparse.? -/
def spkB (s : ByteArray) : Bool := Lib.hasPrefix s.data.toList [71, 78, 85, 46, 115, 112, 97, 114, 115, 101, 46]
set_option maxRecDepth 100000 in
theorem sSparse_any (s : ByteArray) (w : World) (hs : s.size ≤ 140737488351232) :
    Calls Tryz.prog 117 #[.string s] w fun e w' => e = .returned (.bool (spkB s)) ∧ w = w' := by
  have hr := Lib.hasPrefix_raw s ⟨#[71, 78, 85, 46, 115, 112, 97, 114, 115, 101, 46]⟩
  by_cases h : 11 ≤ s.size
  · have HI : Asd (spkB s = ((s.extract 0 11).toList == [71, 78, 85, 46, 115, 112, 97, 114, 115, 101, 46])) := ⟨by
      unfold spkB
      have e : decide ((⟨#[71, 78, 85, 46, 115, 112, 97, 114, 115, 101, 46]⟩ : ByteArray).size ≤ s.size) = true := by rw [decide_eq_true_eq]; exact h
      have e2 : (⟨#[71, 78, 85, 46, 115, 112, 97, 114, 115, 101, 46]⟩ : ByteArray).toList = [71, 78, 85, 46, 115, 112, 97, 114, 115, 101, 46] := Lib.toList_data _
      rw [e, Bool.true_and, e2] at hr
      exact hr.symm⟩
    clear hr
    go_enter Tryz.func117, Tryz.ntmps117
    go_wp2
    go_ret
    exact ⟨ret_bool HI.out.symm, rfl⟩
  · have HI : Asd (spkB s = false) := ⟨by
      unfold spkB
      have e : decide ((⟨#[71, 78, 85, 46, 115, 112, 97, 114, 115, 101, 46]⟩ : ByteArray).size ≤ s.size) = false := by rw [decide_eq_false_iff_not]; exact h
      rw [e, Bool.false_and] at hr
      exact hr.symm⟩
    clear hr
    go_enter Tryz.func117, Tryz.ntmps117
    go_wp2
    go_ret
    exact ⟨ret_bool HI.out.symm, rfl⟩
/-- Where a byte stands first. -/
def cutAt (s : ByteArray) (c : UInt8) (k : Nat) : Prop := s.data[k]? = some c ∧ ∀ j, j < k → s.data[j]? ≠ some c
def CutPost (s : ByteArray) (c : UInt8) (w : World) (e : Ending) (w' : World) : Prop :=
  (∃ n, w' = w.drewN n) ∧ ((hasB s c = false ∧ e = .returned (.tuple #[.string s, .string ⟨#[]⟩, .bool false])) ∨
       ∃ k, cutAt s c k ∧ k < s.size ∧ e = .returned (.tuple #[.string (s.extract 0 k), .string (s.extract (k + 1) s.size), .bool true]))
set_option maxRecDepth 100000 in
theorem sCut_any (s : ByteArray) (c : UInt8) (w : World) (hs : s.size ≤ 140737488351232) :
    Calls Tryz.prog 118 #[.string s, .int .u8 c.toNat] w (CutPost s c w) := by
  go_enter Tryz.func118, Tryz.ntmps118
  go_wp2
  go_loop [10] (fun i => ∃ k : Nat, k ≤ s.size ∧ i = .int .i64 k ∧ ∀ j, j < k → s.data[j]? ≠ some c) (fun i => s.size - (intOf i).toNat)
  case atStart => exact ⟨0, Nat.zero_le _, rfl, by intro j hj; omega⟩
  case round =>
    obtain ⟨k, hk, rfl, hno⟩ := hrel
    by_cases hlt : k < s.size
    · by_cases hc : s[k]'hlt = c
      · have hb : (((s[k]'hlt).toNat : Int) == (c.toNat : Int)) = true := by rw [hc]; simp
        have HC : Asd (cutAt s c k) := ⟨by rw [get_some hlt, hc], hno⟩
        clear hc hno
        go_wp2_with fail
        go_quiet (fail)
        go_wp2
        go_ret3
        exact ⟨⟨_, rfl⟩, .inr ⟨k, HC.out, hlt, rfl⟩⟩
      · have hb : (((s[k]'hlt).toNat : Int) == (c.toNat : Int)) = false := by
          rw [beq_eq_false_iff_ne]; intro e; exact hc (by apply UInt8.toNat_inj.1; omega)
        have HC := Asd.mk hc
        have HN := Asd.mk hno
        clear hc hno
        go_wp2
        go_round
        case rel => exact ⟨k + 1, by omega, by go_num, fun j hl => by rcases Nat.lt_or_ge j k with h | h; exact HN.out j h; (have e : j = k := by omega); subst e; rw [get_some hlt]; intro e; exact HC.out (Option.some.inj e)⟩
        case measure => simp [intOf]; omega
    · have HI := Asd.mk (show hasB s c = false from hasB_no (fun j hj e => hno j (by omega) (by rw [get_some hj, e])))
      clear hno
      go_wp2
      go_ret3
      exact ⟨⟨0, rfl⟩, .inl ⟨HI.out, rfl⟩⟩
def WidPost (s : ByteArray) (w : World) (e : Ending) (w' : World) : Prop :=
  w = w' ∧ ∃ n : Nat, n ≤ s.size ∧ e = .returned (.int .i64 n) ∧ ∀ j, 1 ≤ j → j < n → s.data[j]? ≠ some 0
theorem cont_nz {s : ByteArray} {k : Nat} (hk : k < s.size) (h : (bits BinOp.and IntKind.u8 ((s[k]'hk).toNat : Int) 192 != 128) = false) : s.data[k]? ≠ some 0 := by
  rw [get_some hk]
  intro e
  rw [Option.some.inj e] at h
  exact absurd h (by decide +kernel)
set_option maxRecDepth 100000 in
set_option maxHeartbeats 1000000 in
theorem sWidth_2 (s : ByteArray) (w : World) (hs : s.size ≤ 140737488351232) (h0 : 0 < s.size) (c3 : (194 : Int) ≤ ((s[0]'h0).toNat : Int)) (c4 : ((s[0]'h0).toNat : Int) < 224) :
    Calls Tryz.prog 152 #[.string s] w (WidPost s w) := by
  have hb := (s[0]'h0).toNat_lt
  by_cases hl : s.size < 2
  · go_enter Tryz.func152, Tryz.ntmps152
    go_wp2
    go_ret
    exact ⟨rfl, 0, by omega, rfl, fun j h1 h2 => by omega⟩
  · go_enter Tryz.func152, Tryz.ntmps152
    go_wp2
    go_loop [5, 7] (fun v i => ∃ k : Nat, 1 ≤ k ∧ k ≤ 2 ∧ i = .int .i64 k ∧ (∃ x, v = .int .i64 x) ∧ ∀ j, 1 ≤ j → j < k → s.data[j]? ≠ some 0) (fun v i => 2 - (intOf i).toNat)
    case atStart => exact ⟨1, by omega, by omega, rfl, ⟨_, rfl⟩, fun j h1 h2 => by omega⟩
    case round =>
      obtain ⟨k, hk1, hk, rfl, ⟨x, rfl⟩, hno⟩ := hrel
      replace hno := Asd.mk hno
      by_cases hlt : k < 2
      · have hks : k < s.size := by omega
        rcases (Bool.eq_false_or_eq_true (bits BinOp.and IntKind.u8 ((s[k]'hks).toNat : Int) 192 != 128)).symm with hq | hq
        · have HN := Asd.mk (cont_nz hks hq)
          go_wp2
          go_round
          case rel => exact ⟨k + 1, by omega, by omega, by go_num, ⟨_, rfl⟩, fun j h1 h2 => by rcases Nat.lt_or_ge j k with h | h; exact hno.out j h1 h; (have e : j = k := by omega); subst e; exact HN.out⟩
          case measure => simp [intOf]; omega
        · go_wp2
          go_ret
          exact ⟨rfl, 0, by omega, rfl, fun j h1 h2 => by omega⟩
      · have HF : Asd (∀ j, 1 ≤ j → j < 2 → s.data[j]? ≠ some 0) := ⟨fun j h1 h2 => hno.out j h1 (by omega)⟩
        go_wp2
        all_goals first
          | (go_ret; exact ⟨rfl, 0, by omega, rfl, fun j h1 h2 => by omega⟩)
          | (go_ret; exact ⟨rfl, 2, by omega, rfl, HF.out⟩)
set_option maxRecDepth 100000 in
set_option maxHeartbeats 1000000 in
theorem sWidth_3 (s : ByteArray) (w : World) (hs : s.size ≤ 140737488351232) (h0 : 0 < s.size) (c3 : (224 : Int) ≤ ((s[0]'h0).toNat : Int)) (c4 : ((s[0]'h0).toNat : Int) < 240) :
    Calls Tryz.prog 152 #[.string s] w (WidPost s w) := by
  have hb := (s[0]'h0).toNat_lt
  by_cases hl : s.size < 3
  · go_enter Tryz.func152, Tryz.ntmps152
    go_wp2
    go_ret
    exact ⟨rfl, 0, by omega, rfl, fun j h1 h2 => by omega⟩
  · go_enter Tryz.func152, Tryz.ntmps152
    go_wp2
    go_loop [5, 7] (fun v i => ∃ k : Nat, 1 ≤ k ∧ k ≤ 3 ∧ i = .int .i64 k ∧ (∃ x, v = .int .i64 x) ∧ ∀ j, 1 ≤ j → j < k → s.data[j]? ≠ some 0) (fun v i => 3 - (intOf i).toNat)
    case atStart => exact ⟨1, by omega, by omega, rfl, ⟨_, rfl⟩, fun j h1 h2 => by omega⟩
    case round =>
      obtain ⟨k, hk1, hk, rfl, ⟨x, rfl⟩, hno⟩ := hrel
      replace hno := Asd.mk hno
      by_cases hlt : k < 3
      · have hks : k < s.size := by omega
        rcases (Bool.eq_false_or_eq_true (bits BinOp.and IntKind.u8 ((s[k]'hks).toNat : Int) 192 != 128)).symm with hq | hq
        · have HN := Asd.mk (cont_nz hks hq)
          go_wp2
          go_round
          case rel => exact ⟨k + 1, by omega, by omega, by go_num, ⟨_, rfl⟩, fun j h1 h2 => by rcases Nat.lt_or_ge j k with h | h; exact hno.out j h1 h; (have e : j = k := by omega); subst e; exact HN.out⟩
          case measure => simp [intOf]; omega
        · go_wp2
          go_ret
          exact ⟨rfl, 0, by omega, rfl, fun j h1 h2 => by omega⟩
      · have HF : Asd (∀ j, 1 ≤ j → j < 3 → s.data[j]? ≠ some 0) := ⟨fun j h1 h2 => hno.out j h1 (by omega)⟩
        go_wp2
        all_goals first
          | (go_ret; exact ⟨rfl, 0, by omega, rfl, fun j h1 h2 => by omega⟩)
          | (go_ret; exact ⟨rfl, 3, by omega, rfl, HF.out⟩)
set_option maxRecDepth 100000 in
set_option maxHeartbeats 1000000 in
theorem sWidth_4 (s : ByteArray) (w : World) (hs : s.size ≤ 140737488351232) (h0 : 0 < s.size) (c3 : (240 : Int) ≤ ((s[0]'h0).toNat : Int)) (c4 : ((s[0]'h0).toNat : Int) < 245) :
    Calls Tryz.prog 152 #[.string s] w (WidPost s w) := by
  have hb := (s[0]'h0).toNat_lt
  by_cases hl : s.size < 4
  · go_enter Tryz.func152, Tryz.ntmps152
    go_wp2
    go_ret
    exact ⟨rfl, 0, by omega, rfl, fun j h1 h2 => by omega⟩
  · go_enter Tryz.func152, Tryz.ntmps152
    go_wp2
    go_loop [5, 7] (fun v i => ∃ k : Nat, 1 ≤ k ∧ k ≤ 4 ∧ i = .int .i64 k ∧ (∃ x, v = .int .i64 x) ∧ ∀ j, 1 ≤ j → j < k → s.data[j]? ≠ some 0) (fun v i => 4 - (intOf i).toNat)
    case atStart => exact ⟨1, by omega, by omega, rfl, ⟨_, rfl⟩, fun j h1 h2 => by omega⟩
    case round =>
      obtain ⟨k, hk1, hk, rfl, ⟨x, rfl⟩, hno⟩ := hrel
      replace hno := Asd.mk hno
      by_cases hlt : k < 4
      · have hks : k < s.size := by omega
        rcases (Bool.eq_false_or_eq_true (bits BinOp.and IntKind.u8 ((s[k]'hks).toNat : Int) 192 != 128)).symm with hq | hq
        · have HN := Asd.mk (cont_nz hks hq)
          go_wp2
          go_round
          case rel => exact ⟨k + 1, by omega, by omega, by go_num, ⟨_, rfl⟩, fun j h1 h2 => by rcases Nat.lt_or_ge j k with h | h; exact hno.out j h1 h; (have e : j = k := by omega); subst e; exact HN.out⟩
          case measure => simp [intOf]; omega
        · go_wp2
          go_ret
          exact ⟨rfl, 0, by omega, rfl, fun j h1 h2 => by omega⟩
      · have HF : Asd (∀ j, 1 ≤ j → j < 4 → s.data[j]? ≠ some 0) := ⟨fun j h1 h2 => hno.out j h1 (by omega)⟩
        go_wp2
        all_goals first
          | (go_ret; exact ⟨rfl, 0, by omega, rfl, fun j h1 h2 => by omega⟩)
          | (go_ret; exact ⟨rfl, 4, by omega, rfl, HF.out⟩)
set_option maxRecDepth 100000 in
set_option maxHeartbeats 1000000 in
theorem sWidth_any (s : ByteArray) (w : World) (hs : s.size ≤ 140737488351232) (h0 : 0 < s.size) :
    Calls Tryz.prog 152 #[.string s] w (WidPost s w) := by
  have hb := (s[0]'h0).toNat_lt
  by_cases c1 : (s[0]'h0).toNat < 128
  · go_enter Tryz.func152, Tryz.ntmps152
    go_wp2
    go_ret
    exact ⟨rfl, 1, by omega, rfl, fun j h1 h2 => by omega⟩
  by_cases d2 : 194 ≤ (s[0]'h0).toNat ∧ (s[0]'h0).toNat < 224
  · exact sWidth_2 s w hs h0 (by omega) (by omega)
  by_cases d3 : 224 ≤ (s[0]'h0).toNat ∧ (s[0]'h0).toNat < 240
  · exact sWidth_3 s w hs h0 (by omega) (by omega)
  by_cases d4 : 240 ≤ (s[0]'h0).toNat ∧ (s[0]'h0).toNat < 245
  · exact sWidth_4 s w hs h0 (by omega) (by omega)
  rcases Nat.lt_or_ge (s[0]'h0).toNat 194 with h | h
  · have e1 : ((s[0]'h0).toNat : Int) < 194 := by omega
    clear d2 d3 d4
    go_enter Tryz.func152, Tryz.ntmps152
    go_wp2
    go_ret
    exact ⟨rfl, 0, by omega, rfl, fun j h1 h2 => by omega⟩
  · have e1 : (245 : Int) ≤ ((s[0]'h0).toNat : Int) := by omega
    clear d2 d3 d4
    go_enter Tryz.func152, Tryz.ntmps152
    go_wp2
    go_ret
    exact ⟨rfl, 0, by omega, rfl, fun j h1 h2 => by omega⟩
/-- UTF-8: what is, has no byte 0. -/
def Utf8Post (s : ByteArray) (w : World) (e : Ending) (w' : World) : Prop :=
  w = w' ∧ ∃ b, e = .returned (.bool b) ∧ (b = true → hasB s 0 = false)
theorem data_ext (s : ByteArray) (k j : Nat) (h : k + j < s.size) : (s.extract k s.size).data[j]? = s.data[k + j]? := by
  have hl : (s.extract k s.size).size = s.size - k := by simp
  have h1 : j < (s.extract k s.size).size := by omega
  rw [get_some h1, get_some h]
  congr 1
  rw [ByteArray.getElem_extract]
set_option maxRecDepth 100000 in
set_option maxHeartbeats 1000000 in
theorem sUTF8_any (s : ByteArray) (w : World) (hs : s.size ≤ 140737488351232) :
    Calls Tryz.prog 115 #[.string s] w (Utf8Post s w) := by
  go_enter Tryz.func115, Tryz.ntmps115
  go_wp2
  go_loop [3] (fun i => ∃ k : Nat, k ≤ s.size ∧ i = .int .i64 k ∧ ∀ j, j < k → s.data[j]? ≠ some 0) (fun i => s.size - (intOf i).toNat)
  case atStart => exact ⟨0, by omega, rfl, fun j h1 => by omega⟩
  case round =>
    obtain ⟨k, hk, rfl, hno⟩ := hrel
    replace hno := Asd.mk hno
    by_cases hlt : k < s.size
    · have hz : (s.extract k s.size).size = s.size - k := by simp
      have hwd := Asd.mk (sWidth_any (s.extract k s.size) w (by omega) (by omega))
      replace hz := Asd.mk hz
      go_wp2_with fail
      refine hwd.out.mono ?_
      rintro e w' ⟨rfl, n, hn, rfl, hnz⟩
      rw [hz.out] at hn
      have hn2 : n + k ≤ s.size := by omega
      clear hn hwd
      by_cases h0 : n = 0
      · subst h0
        go_wp2
        go_ret
        exact ⟨rfl, false, rfl, fun h => by cases h⟩
      · have hn1 : 1 ≤ n := by omega
        by_cases hc : s[k]'hlt = 0
        · have hb : (((s[k]'hlt).toNat : Int) == 0) = true := by rw [hc]; rfl
          clear hc hnz h0
          go_wp2
          go_ret
          exact ⟨rfl, false, rfl, fun h => by cases h⟩
        · have hb : (((s[k]'hlt).toNat : Int) == 0) = false := z8 (n := 0) (by omega) hc
          have hb2 : ((n : Int) == 0) = false := by rw [beq_eq_false_iff_ne]; omega
          have HN : Asd (∀ j, j < n + k → s.data[j]? ≠ some 0) := ⟨by
            intro j hj
            rcases Nat.lt_or_ge j k with h | h
            · exact hno.out j h
            · rcases Nat.lt_or_ge k j with h' | h'
              · have h2 := hnz (j - k) (by omega) (by omega)
                rw [data_ext s k (j - k) (by omega)] at h2
                rw [show k + (j - k) = j by omega] at h2
                exact h2
              · have e : j = k := by omega
                subst e
                rw [get_some hlt]
                intro e
                exact hc (Option.some.inj e)⟩
          clear hc hnz h0
          go_wp2
          go_round
          case rel => exact ⟨n + k, by omega, by congr 1; omega, HN.out⟩
          case measure => simp [intOf]; omega
    · have HI := Asd.mk (show hasB s 0 = false from hasB_no (fun j hj e => hno.out j (by omega) (by rw [get_some hj, e])))
      go_wp2
      go_ret
      exact ⟨rfl, true, rfl, fun _ => HI.out⟩
/-- A verdict: 0 open, 1 right, 2 wrong; what is known if it is right, and if it is wrong. -/
def V3 (P Q : Prop) (v : Int) : Prop := (v = 0 ∨ v = 1 ∨ v = 2) ∧ (v = 1 → P) ∧ (v = 2 → Q)
theorem V3.open_ (P Q : Prop) : V3 P Q 0 := ⟨.inl rfl, (fun h => absurd h (by decide)), (fun h => absurd h (by decide))⟩
theorem V3.right {P Q : Prop} (h : P) : V3 P Q 1 := ⟨.inr (.inl rfl), (fun _ => h), (fun h => absurd h (by decide))⟩
theorem V3.wrong {P Q : Prop} (h : Q) : V3 P Q 2 := ⟨.inr (.inr rfl), (fun h => absurd h (by decide)), (fun _ => h)⟩
theorem V3.mono {P Q P' Q' : Prop} {v : Int} (h : V3 P Q v) (h1 : P → P') (h2 : Q → Q') : V3 P' Q' v := ⟨h.1, fun e => h1 (h.2.1 e), fun e => h2 (h.2.2 e)⟩
/-- A call that hands back a verdict and leaves the world. -/
def VPost (P Q : Prop) (w : World) (e : Ending) (w' : World) : Prop := w = w' ∧ ∃ v, V3 P Q v ∧ e = .returned (.int .i64 v)
/-- .. and may make memory. -/
def VBPost (P Q : Prop) (w : World) (e : Ending) (w' : World) : Prop := Below w.heap.size w w' ∧ ∃ v, V3 P Q v ∧ e = .returned (.int .i64 v)
def whV (b : Bool) : Int := if b then 1 else 2
theorem whV_V3 (b : Bool) : V3 (b = true) (b = false) (whV b) := by cases b; exact V3.wrong rfl; exact V3.right rfl
theorem when_det (b : Bool) (w : World) : Calls Tryz.prog 46 #[.bool b] w fun e w' => e = .returned (.int .i64 (whV b)) ∧ w' = w := by
  cases b
  · go_enter Tryz.func46, Tryz.ntmps46
    go_wp2
    go_ret
    exact ⟨rfl, rfl⟩
  · go_enter Tryz.func46, Tryz.ntmps46
    go_wp2
    go_ret
    exact ⟨rfl, rfl⟩
theorem when_any (b : Bool) (w : World) : Calls Tryz.prog 46 #[.bool b] w (VPost (b = true) (b = false) w) := by
  refine (when_det b w).mono ?_
  rintro e w' ⟨rfl, rfl⟩
  exact ⟨rfl, _, whV_V3 b, rfl⟩
theorem hasData_any (t : UInt8) (w : World) : Calls Tryz.prog 9 #[.int .u8 t.toNat] w fun e w' => e = .returned (.bool (decide (t.toNat < 49) || decide (54 < t.toNat))) ∧ w = w' := by
  have ht := t.toNat_lt
  by_cases h : t.toNat < 49
  · go_enter Tryz.func9, Tryz.ntmps9
    go_wp2
    go_ret
    exact ⟨ret_bool (by simp [h]), rfl⟩
  · have h2 : (49 : Int) ≤ (t.toNat : Int) := by omega
    go_enter Tryz.func9, Tryz.ntmps9
    go_wp2
    go_ret
    exact ⟨ret_bool (by rw [Bool.eq_iff_iff]; simp; omega), rfl⟩
/-- A number's place in a format. -/
def SmOk (F : Int) (pax : Bool) (n : Int) : Prop := if F = 3 then 0 ≤ n ∧ n < 72057594037927936 else if F = 2 ∧ pax = true then 0 ≤ n else 0 ≤ n ∧ n < 2097152
def SmBad (F : Int) (pax : Bool) (n : Int) : Prop := if F = 3 then 144115188075855872 ≤ n else if F = 2 ∧ pax = true then False else n < 0 ∨ 2097152 ≤ n
def smV (F : Int) (pax : Bool) (n : Int) : Int :=
  if F = 3 then (if n < 0 then 0 else if n < 72057594037927936 then 1 else if n < 144115188075855872 then 0 else 2)
  else if F = 2 ∧ pax = true then (if n < 0 then 0 else 1) else (if 0 ≤ n ∧ n < 2097152 then 1 else 2)
theorem smV_V3 (F : Int) (pax : Bool) (n : Int) : V3 (SmOk F pax n) (SmBad F pax n) (smV F pax n) := by
  unfold smV SmOk SmBad V3
  split
  · split
    · omega
    · split
      · omega
      · split <;> omega
  · split
    · split <;> simp <;> omega
    · split <;> omega
set_option maxRecDepth 100000 in
theorem small_3 (n : Int) (pax : Bool) (w : World) : Calls Tryz.prog 50 #[.int .i64 n, .int .i64 3, .bool pax] w fun e w' => e = .returned (.int .i64 (smV 3 pax n)) ∧ w' = w := by
  by_cases h1 : n < 0
  · have hv : Asd (smV 3 pax n = 0) := ⟨by unfold smV; rw [if_pos rfl, if_pos h1]⟩
    go_enter Tryz.func50, Tryz.ntmps50
    go_wp2
    go_ret
    exact ⟨ret_int hv.out.symm, rfl⟩
  by_cases h2 : n < 72057594037927936
  · have hv : Asd (smV 3 pax n = 1) := ⟨by unfold smV; rw [if_pos rfl, if_neg h1, if_pos h2]⟩
    go_enter Tryz.func50, Tryz.ntmps50
    go_wp2_with (go_at_call 46; refine (when_det _ _).mono ?_; rintro e w' ⟨rfl, rfl⟩)
    go_ret
    exact ⟨ret_int (by rw [hv.out]; simp [whV]), rfl⟩
  by_cases h3 : n < 144115188075855872
  · have hv : Asd (smV 3 pax n = 0) := ⟨by unfold smV; rw [if_pos rfl, if_neg h1, if_neg h2, if_pos h3]⟩
    go_enter Tryz.func50, Tryz.ntmps50
    go_wp2
    go_ret
    exact ⟨ret_int hv.out.symm, rfl⟩
  · have hv : Asd (smV 3 pax n = 2) := ⟨by unfold smV; rw [if_pos rfl, if_neg h1, if_neg h2, if_neg h3]⟩
    go_enter Tryz.func50, Tryz.ntmps50
    go_wp2_with (go_at_call 46; refine (when_det _ _).mono ?_; rintro e w' ⟨rfl, rfl⟩)
    go_ret
    exact ⟨ret_int (by rw [hv.out]; simp [whV]; try omega), rfl⟩
set_option maxRecDepth 100000 in
theorem small_p (n : Int) (w : World) : Calls Tryz.prog 50 #[.int .i64 n, .int .i64 2, .bool true] w fun e w' => e = .returned (.int .i64 (smV 2 true n)) ∧ w' = w := by
  by_cases h1 : n < 0
  · have hv : Asd (smV 2 true n = 0) := ⟨by unfold smV; rw [if_neg (by omega), if_pos ⟨rfl, rfl⟩, if_pos h1]⟩
    go_enter Tryz.func50, Tryz.ntmps50
    go_wp2
    go_ret
    exact ⟨ret_int hv.out.symm, rfl⟩
  · have hv : Asd (smV 2 true n = 1) := ⟨by unfold smV; rw [if_neg (by omega), if_pos ⟨rfl, rfl⟩, if_neg h1]⟩
    go_enter Tryz.func50, Tryz.ntmps50
    go_wp2
    go_ret
    exact ⟨ret_int hv.out.symm, rfl⟩
set_option maxRecDepth 100000 in
theorem small_o1 (n : Int) (pax : Bool) (w : World) : Calls Tryz.prog 50 #[.int .i64 n, .int .i64 1, .bool pax] w fun e w' => e = .returned (.int .i64 (smV 1 pax n)) ∧ w' = w := by
  have hv : Asd (smV 1 pax n = if 0 ≤ n ∧ n < 2097152 then 1 else 2) := ⟨by unfold smV; simp⟩
  by_cases h1 : 0 ≤ n
  · by_cases h2 : n < 2097152
    · have hv2 : Asd (smV 1 pax n = 1) := ⟨by rw [hv.out, if_pos ⟨h1, h2⟩]⟩
      go_enter Tryz.func50, Tryz.ntmps50
      go_wp2_with (go_at_call 46; refine (when_det _ _).mono ?_; rintro e w' ⟨rfl, rfl⟩)
      go_ret
      exact ⟨ret_int (by rw [hv2.out]; simp [whV]), rfl⟩
    · have hv2 : Asd (smV 1 pax n = 2) := ⟨by rw [hv.out, if_neg (by omega)]⟩
      go_enter Tryz.func50, Tryz.ntmps50
      go_wp2_with (go_at_call 46; refine (when_det _ _).mono ?_; rintro e w' ⟨rfl, rfl⟩)
      go_ret
      exact ⟨ret_int (by rw [hv2.out]; simp [whV]; try omega), rfl⟩
  · have hv2 : Asd (smV 1 pax n = 2) := ⟨by rw [hv.out, if_neg (by omega)]⟩
    go_enter Tryz.func50, Tryz.ntmps50
    go_wp2_with (go_at_call 46; refine (when_det _ _).mono ?_; rintro e w' ⟨rfl, rfl⟩)
    go_ret
    exact ⟨ret_int (by rw [hv2.out]; simp [whV]), rfl⟩
set_option maxRecDepth 100000 in
theorem small_o2 (n : Int) (w : World) : Calls Tryz.prog 50 #[.int .i64 n, .int .i64 2, .bool false] w fun e w' => e = .returned (.int .i64 (smV 2 false n)) ∧ w' = w := by
  have hv : Asd (smV 2 false n = if 0 ≤ n ∧ n < 2097152 then 1 else 2) := ⟨by unfold smV; simp⟩
  by_cases h1 : 0 ≤ n
  · by_cases h2 : n < 2097152
    · have hv2 : Asd (smV 2 false n = 1) := ⟨by rw [hv.out, if_pos ⟨h1, h2⟩]⟩
      go_enter Tryz.func50, Tryz.ntmps50
      go_wp2_with (go_at_call 46; refine (when_det _ _).mono ?_; rintro e w' ⟨rfl, rfl⟩)
      go_ret
      exact ⟨ret_int (by rw [hv2.out]; simp [whV]), rfl⟩
    · have hv2 : Asd (smV 2 false n = 2) := ⟨by rw [hv.out, if_neg (by omega)]⟩
      go_enter Tryz.func50, Tryz.ntmps50
      go_wp2_with (go_at_call 46; refine (when_det _ _).mono ?_; rintro e w' ⟨rfl, rfl⟩)
      go_ret
      exact ⟨ret_int (by rw [hv2.out]; simp [whV]; try omega), rfl⟩
  · have hv2 : Asd (smV 2 false n = 2) := ⟨by rw [hv.out, if_neg (by omega)]⟩
    go_enter Tryz.func50, Tryz.ntmps50
    go_wp2_with (go_at_call 46; refine (when_det _ _).mono ?_; rintro e w' ⟨rfl, rfl⟩)
    go_ret
    exact ⟨ret_int (by rw [hv2.out]; simp [whV]), rfl⟩
theorem small_any (n F : Int) (pax : Bool) (w : World) (hF : F = 1 ∨ F = 2 ∨ F = 3) : Calls Tryz.prog 50 #[.int .i64 n, .int .i64 F, .bool pax] w fun e w' => e = .returned (.int .i64 (smV F pax n)) ∧ w' = w := by
  rcases hF with rfl | rfl | rfl
  · exact small_o1 n pax w
  · cases pax
    · exact small_o2 n w
    · exact small_p n w
  · exact small_3 n pax w
/-- A text's place in a format. -/
def TxOk (s : ByteArray) (n F : Int) : Prop := hasB s 0 = false ∧ (F = 1 → asc s = true ∧ (s.size : Int) ≤ n)
def TxBad (s : ByteArray) (n F : Int) : Prop := F = 1 ∧ (asc s = false ∨ n < (s.size : Int))
set_option maxRecDepth 100000 in
theorem text_nul (s : ByteArray) (n F : Int) (w : World) (hs : s.size ≤ 140737488351232) (h : hasB s 0 = true) : Calls Tryz.prog 45 #[.string s, .int .i64 n, .int .i64 F] w (VPost (TxOk s n F) (TxBad s n F) w) := by
  have hw := Asd.mk (sHasNUL_any s w hs)
  rw [h] at hw
  clear h
  go_enter Tryz.func45, Tryz.ntmps45
  go_wp2_with (go_at_call 113; refine hw.out.mono ?_; rintro e w' ⟨rfl, rfl⟩)
  go_ret
  exact ⟨rfl, 0, V3.open_ _ _, rfl⟩
set_option maxRecDepth 100000 in
theorem text_1 (s : ByteArray) (n : Int) (w : World) (hs : s.size ≤ 140737488351232) (h : hasB s 0 = false) : Calls Tryz.prog 45 #[.string s, .int .i64 n, .int .i64 1] w (VPost (TxOk s n 1) (TxBad s n 1) w) := by
  have hw := Asd.mk (sHasNUL_any s w hs)
  have hN := Asd.mk h
  rw [h] at hw
  clear h
  have ha := Asd.mk (sASCII_any s w hs)
  rcases (Bool.eq_false_or_eq_true (asc s)).symm with hc | hc
  · have HC := Asd.mk hc
    rw [hc] at ha
    clear hc
    go_enter Tryz.func45, Tryz.ntmps45
    go_wp2_with (first | (go_at_call 113; refine hw.out.mono ?_; rintro e w' ⟨rfl, rfl⟩) | (go_at_call 114; refine ha.out.mono ?_; rintro e w' ⟨rfl, rfl⟩) | (go_at_call 46; refine (when_any _ _).mono ?_; rintro e w' ⟨rfl, v, hv, rfl⟩))
    go_ret
    exact ⟨rfl, v, hv.mono (fun h => by simp at h) (fun _ => ⟨rfl, .inl HC.out⟩), rfl⟩
  · have HC := Asd.mk hc
    rw [hc] at ha
    clear hc
    go_enter Tryz.func45, Tryz.ntmps45
    go_wp2_with (first | (go_at_call 113; refine hw.out.mono ?_; rintro e w' ⟨rfl, rfl⟩) | (go_at_call 114; refine ha.out.mono ?_; rintro e w' ⟨rfl, rfl⟩) | (go_at_call 46; refine (when_any _ _).mono ?_; rintro e w' ⟨rfl, v, hv, rfl⟩))
    go_ret
    exact ⟨rfl, v, hv.mono (fun h => ⟨hN.out, fun _ => ⟨HC.out, by simpa using h⟩⟩) (fun h => ⟨rfl, .inr (by simpa using h)⟩), rfl⟩
set_option maxRecDepth 100000 in
theorem text_2 (s : ByteArray) (n : Int) (w : World) (hs : s.size ≤ 140737488351232) (h : hasB s 0 = false) : Calls Tryz.prog 45 #[.string s, .int .i64 n, .int .i64 2] w (VPost (TxOk s n 2) (TxBad s n 2) w) := by
  have hw := Asd.mk (sHasNUL_any s w hs)
  have hN := Asd.mk h
  rw [h] at hw
  clear h
  have ha := Asd.mk (sUTF8_any s w hs)
  go_enter Tryz.func45, Tryz.ntmps45
  go_wp2_with (first | (go_at_call 113; refine hw.out.mono ?_; rintro e w' ⟨rfl, rfl⟩) | (go_at_call 115; refine ha.out.mono ?_; rintro e w' ⟨rfl, b, rfl, hb⟩; clear hb))
  all_goals go_ret
  all_goals first
    | exact ⟨rfl, 0, V3.open_ _ _, rfl⟩
    | exact ⟨rfl, 1, V3.right ⟨hN.out, fun h => by cases h⟩, rfl⟩
set_option maxRecDepth 100000 in
theorem text_3 (s : ByteArray) (n : Int) (w : World) (hs : s.size ≤ 140737488351232) (h : hasB s 0 = false) : Calls Tryz.prog 45 #[.string s, .int .i64 n, .int .i64 3] w (VPost (TxOk s n 3) (TxBad s n 3) w) := by
  have hw := Asd.mk (sHasNUL_any s w hs)
  have hN := Asd.mk h
  rw [h] at hw
  clear h
  go_enter Tryz.func45, Tryz.ntmps45
  go_wp2_with (go_at_call 113; refine hw.out.mono ?_; rintro e w' ⟨rfl, rfl⟩)
  go_ret
  exact ⟨rfl, 1, V3.right ⟨hN.out, fun h => by cases h⟩, rfl⟩
theorem text_any (s : ByteArray) (n F : Int) (w : World) (hs : s.size ≤ 140737488351232) (hF : F = 1 ∨ F = 2 ∨ F = 3) : Calls Tryz.prog 45 #[.string s, .int .i64 n, .int .i64 F] w (VPost (TxOk s n F) (TxBad s n F) w) := by
  rcases (Bool.eq_false_or_eq_true (hasB s 0)).symm with h | h
  · rcases hF with rfl | rfl | rfl
    · exact text_1 s n w hs h
    · exact text_2 s n w hs h
    · exact text_3 s n w hs h
  · exact text_nul s n F w hs h
def AllR (l : List Int) (v : Int) : Prop := (v = 0 ∨ v = 1 ∨ v = 2) ∧ (v = 1 → ∀ x ∈ l, x = 1) ∧ (v = 2 → ∃ x ∈ l, x = 2)
def vStep (v x : Int) : Int := if x = 2 ∨ (x = 0 ∧ v = 1) then x else v
theorem AllR.step {l : List Int} {v x : Int} (h : AllR l v) (hx : x = 0 ∨ x = 1 ∨ x = 2) : AllR (l ++ [x]) (vStep v x) := by
  obtain ⟨h1, h2, h3⟩ := h
  unfold vStep
  refine ⟨by split <;> assumption, ?_, ?_⟩
  · intro e y hy
    rw [List.mem_append, List.mem_singleton] at hy
    split at e
    · rename_i hc; rcases hc with rfl | ⟨rfl, _⟩ <;> cases e
    · rename_i hc
      rcases hy with hy | rfl
      · exact h2 e y hy
      · rcases hx with rfl | rfl | rfl
        · exact absurd (.inr ⟨rfl, e⟩) hc
        · rfl
        · exact absurd (.inl rfl) hc
  · intro e
    split at e
    · exact ⟨x, by simp, e⟩
    · obtain ⟨y, hy, hy2⟩ := h3 e
      exact ⟨y, by simp [hy], hy2⟩
def AllPost (l : List Int) (w : World) (e : Ending) (w' : World) : Prop := w = w' ∧ ∃ v, AllR l v ∧ e = .returned (.int .i64 v)
set_option maxRecDepth 100000 in
theorem all_any (b n c : Nat) (l : List Int) (w : World) (hl : l.length = n) (hn : n ≤ 8) (hv : ∀ x ∈ l, x = 0 ∨ x = 1 ∨ x = 2) (hc : ∀ (j : Nat) x, l[j]? = some x → w.cell? ⟨b, j, none⟩ = some (.int .i64 x)) :
    Calls Tryz.prog 48 #[.slice (some ⟨b, 0, none⟩) n c] w (AllPost l w) := by
  replace hl := Asd.mk hl
  replace hv := Asd.mk hv
  replace hc := Asd.mk hc
  go_enter Tryz.func48, Tryz.ntmps48
  go_wp2
  go_loop [3, 8] (fun v i => ∃ k : Nat, ∃ x, k ≤ n ∧ i = .int .i64 k ∧ v = .int .i64 x ∧ AllR (l.take k) x) (fun _ i => n - (intOf i).toNat)
  case atStart => exact ⟨0, 1, by omega, rfl, rfl, .inr (.inl rfl), fun _ x hx => (by simp at hx), fun h => absurd h (by decide)⟩
  case round =>
    obtain ⟨k, v, hk, rfl, rfl, hA⟩ := hrel
    replace hA := Asd.mk hA
    by_cases hlt : k < n
    · have hkl : k < l.length := by rw [hl.out]; exact hlt
      have hx := hv.out (l[k]'hkl) (List.getElem_mem hkl)
      have hcell := hc.out k _ (List.getElem?_eq_getElem hkl)
      have hS : Asd (AllR (l.take (k + 1)) (vStep v (l[k]'hkl))) := ⟨by
        rw [List.take_succ_eq_append_getElem hkl]
        exact hA.out.step hx⟩
      have hv3 := hA.out.1
      generalize l[k]'hkl = x at *
      rcases hx with rfl | rfl | rfl <;> rcases hv3 with rfl | rfl | rfl
      all_goals
        go_wp2
        go_round
        case rel => exact ⟨k + 1, _, by omega, by go_num, rfl, hS.out⟩
        case measure => simp [intOf]; omega
    · have hF : Asd (AllR l v) := ⟨by have := hA.out; rw [List.take_of_length_le (by rw [hl.out]; omega)] at this; exact this⟩
      go_wp2
      go_ret
      exact ⟨rfl, v, hF.out, rfl⟩
/-- At a call of the joining function over a new array. -/
theorem all_new (w : World) (l : List Int) (n : Nat) (vs : Array Value) (T : TypeId) (he : vs = (l.map fun x => Value.int .i64 x).toArray) (hl : l.length = n) (hn : n ≤ 8) (hv : ∀ x ∈ l, x = 0 ∨ x = 1 ∨ x = 2) :
    Calls Tryz.prog 48 #[.slice (some ⟨w.heap.size, 0, none⟩) n n] (w.alloc (.cells vs T (0, 0))) (AllPost l (w.alloc (.cells vs T (0, 0)))) := by
  refine all_any w.heap.size n n l _ hl hn hv ?_
  intro j x hx
  have h1 := heap_alloc_new w (.cells vs T (0, 0))
  rw [he] at h1 ⊢
  refine cell_blk h1 ?_
  rw [List.getElem?_map, hx]
  rfl
/-- The name of an owner. -/
def OwOk (s : ByteArray) (F : Int) : Prop := TxOk s 32 F ∧ (F = 3 → s.size ≤ 32)
def OwBad (s : ByteArray) (F : Int) : Prop := TxBad s 32 F ∨ (F = 3 ∧ 32 < s.size)
set_option maxRecDepth 100000 in
theorem owner_1 (s : ByteArray) (w : World) (hs : s.size ≤ 140737488351232) : Calls Tryz.prog 49 #[.string s, .int .i64 1] w (VBPost (OwOk s 1) (OwBad s 1) w) := by
  have ht := Asd.mk (text_any s 32 1 w hs (by omega))
  by_cases h32 : s.size = 32
  · have g1 : ((s.size : Int) == 32) = true := by rw [h32]; rfl
    clear h32
    go_enter Tryz.func49, Tryz.ntmps49
    go_wp2_with (first | (go_at_call 45; refine ht.out.mono ?_; rintro e w' ⟨rfl, v, hv, rfl⟩) | (go_at_call 48; refine (all_new _ [v, 0] 2 _ _ rfl rfl (by omega) (by intro x hx; simp at hx; rcases hx with rfl | rfl; exact hv.1; exact .inl rfl)).mono ?_; rintro e w' ⟨rfl, v2, hv2, rfl⟩))
    go_ret
    refine ⟨(Below.refl _ _).alloc (Nat.le_refl _) _, v2, ⟨hv2.1, ?_, ?_⟩, rfl⟩
    · intro e; exact absurd (hv2.2.1 e 0 (by simp)) (by decide)
    · intro e
      obtain ⟨x, hx, hx2⟩ := hv2.2.2 e
      simp at hx
      rcases hx with rfl | rfl
      · exact .inl (hv.2.2 hx2)
      · cases hx2
  · have g1 : ((s.size : Int) == 32) = false := by rw [beq_eq_false_iff_ne]; omega
    clear h32
    go_enter Tryz.func49, Tryz.ntmps49
    go_wp2_with (go_at_call 45; refine ht.out.mono ?_; rintro e w' ⟨rfl, v, hv, rfl⟩)
    go_ret
    exact ⟨Below.refl _ _, v, hv.mono (fun h => ⟨h, fun e => absurd e (by decide)⟩) (fun h => .inl h), rfl⟩
set_option maxRecDepth 100000 in
theorem owner_3 (s : ByteArray) (w : World) (hs : s.size ≤ 140737488351232) : Calls Tryz.prog 49 #[.string s, .int .i64 3] w (VBPost (OwOk s 3) (OwBad s 3) w) := by
  have ht := Asd.mk (text_any s 32 3 w hs (by omega))
  by_cases h3 : 32 < s.size
  · have h4 : (32 : Int) < s.size := by omega
    go_enter Tryz.func49, Tryz.ntmps49
    go_wp2_with (go_at_call 45; refine ht.out.mono ?_; rintro e w' ⟨rfl, v, hv, rfl⟩)
    go_ret
    exact ⟨Below.refl _ _, 2, V3.wrong (.inr ⟨by trivial, by omega⟩), rfl⟩
  by_cases h32 : s.size = 32
  · have g1 : ((s.size : Int) == 32) = true := by rw [h32]; rfl
    have g2 : (s.size : Int) ≤ 32 := by omega
    clear h32
    go_enter Tryz.func49, Tryz.ntmps49
    go_wp2_with (first | (go_at_call 45; refine ht.out.mono ?_; rintro e w' ⟨rfl, v, hv, rfl⟩) | (go_at_call 48; refine (all_new _ [v, 0] 2 _ _ rfl rfl (by omega) (by intro x hx; simp at hx; rcases hx with rfl | rfl; exact hv.1; exact .inl rfl)).mono ?_; rintro e w' ⟨rfl, v2, hv2, rfl⟩))
    go_ret
    refine ⟨(Below.refl _ _).alloc (Nat.le_refl _) _, v2, ⟨hv2.1, ?_, ?_⟩, rfl⟩
    · intro e; exact absurd (hv2.2.1 e 0 (by simp)) (by decide)
    · intro e
      obtain ⟨x, hx, hx2⟩ := hv2.2.2 e
      simp at hx
      rcases hx with rfl | rfl
      · exact .inl (hv.2.2 hx2)
      · cases hx2
  · have g1 : ((s.size : Int) == 32) = false := by rw [beq_eq_false_iff_ne]; omega
    have g2 : (s.size : Int) ≤ 32 := by omega
    clear h32
    go_enter Tryz.func49, Tryz.ntmps49
    go_wp2_with (go_at_call 45; refine ht.out.mono ?_; rintro e w' ⟨rfl, v, hv, rfl⟩)
    go_ret
    exact ⟨Below.refl _ _, v, hv.mono (fun h => ⟨h, fun _ => by omega⟩) (fun h => .inl h), rfl⟩
set_option maxRecDepth 100000 in
theorem owner_2 (s : ByteArray) (w : World) (hs : s.size ≤ 140737488351232) : Calls Tryz.prog 49 #[.string s, .int .i64 2] w (VBPost (OwOk s 2) (OwBad s 2) w) := by
  have ht := Asd.mk (text_any s 32 2 w hs (by omega))
  go_enter Tryz.func49, Tryz.ntmps49
  go_wp2_with (go_at_call 45; refine ht.out.mono ?_; rintro e w' ⟨rfl, v, hv, rfl⟩)
  go_ret
  exact ⟨Below.refl _ _, v, hv.mono (fun h => ⟨h, fun e => absurd e (by decide)⟩) (fun h => .inl h), rfl⟩
theorem owner_any (s : ByteArray) (F : Int) (w : World) (hs : s.size ≤ 140737488351232) (hF : F = 1 ∨ F = 2 ∨ F = 3) : Calls Tryz.prog 49 #[.string s, .int .i64 F] w (VBPost (OwOk s F) (OwBad s F) w) := by
  rcases hF with rfl | rfl | rfl
  · exact owner_1 s w hs
  · exact owner_2 s w hs
  · exact owner_3 s w hs
/-- A time's place in a format. -/
def MoOk (s n F : Int) : Prop := -100000000000000000 ≤ s ∧ s ≤ 100000000000000000 ∧ (F ≠ 2 → n = 0)
set_option maxRecDepth 100000 in
theorem moment_any (s n F : Int) (w : World) (hF : F = 1 ∨ F = 2 ∨ F = 3) : Calls Tryz.prog 51 #[.agg #[.int .i64 s, .int .i64 n], .int .i64 F] w (VBPost (MoOk s n F) False w) := by
  have hb := Asd.mk ((Below.refl w.heap.size w).alloc (Nat.le_refl _) (.cells #[.int .i64 s, .int .i64 n] 37 (0, 0)))
  by_cases h1 : 100000000000000000 < s
  · go_enter Tryz.func51, Tryz.ntmps51
    go_wp2
    go_ret
    exact ⟨hb.out, 0, V3.open_ _ _, rfl⟩
  by_cases h2 : s < -100000000000000000
  · go_enter Tryz.func51, Tryz.ntmps51
    go_wp2
    go_ret
    exact ⟨hb.out, 0, V3.open_ _ _, rfl⟩
  by_cases h3 : F = 2
  · subst h3
    go_enter Tryz.func51, Tryz.ntmps51
    go_wp2
    go_ret
    exact ⟨hb.out, 1, V3.right ⟨by omega, by omega, fun e => absurd rfl e⟩, rfl⟩
  · have f2 : (F != 2) = true := by simpa using h3
    clear h3 hF
    by_cases h4 : n = 0
    · subst h4
      go_enter Tryz.func51, Tryz.ntmps51
      go_wp2
      go_ret
      exact ⟨hb.out, 1, V3.right ⟨by omega, by omega, fun _ => rfl⟩, rfl⟩
    · have f4 : (n != 0) = true := by simpa using h4
      clear h4
      go_enter Tryz.func51, Tryz.ntmps51
      go_wp2
      go_ret
      exact ⟨hb.out, 0, V3.open_ _ _, rfl⟩
/-- Is a time odd? -/
def oddB (s n : Int) : Bool := (s == -62135596800 && n == 0) || decide (n < 0) || decide (999999999 < n)
set_option maxRecDepth 100000 in
theorem odd_any (s n : Int) (w : World) : Calls Tryz.prog 43 #[.agg #[.int .i64 s, .int .i64 n]] w fun e w' => e = .returned (.bool (oddB s n)) ∧ Below w.heap.size w w' := by
  have hb := Asd.mk ((Below.refl w.heap.size w).alloc (Nat.le_refl _) (.cells #[.int .i64 s, .int .i64 n] 37 (0, 0)))
  rcases (Bool.eq_false_or_eq_true (s == -62135596800)).symm with h1 | h1
  · have e : Asd (oddB s n = (decide (n < 0) || decide (999999999 < n))) := ⟨by unfold oddB; rw [h1]; simp⟩
    by_cases h2 : n < 0
    · have e2 : Asd (oddB s n = true) := ⟨by rw [e.out]; simp [h2]⟩
      go_enter Tryz.func43, Tryz.ntmps43
      go_wp2
      go_ret
      exact ⟨ret_bool e2.out.symm, hb.out⟩
    · have e2 : Asd (oddB s n = decide (999999999 < n)) := ⟨by rw [e.out]; simp [h2]⟩
      go_enter Tryz.func43, Tryz.ntmps43
      go_wp2
      go_ret
      exact ⟨ret_bool e2.out.symm, hb.out⟩
  · by_cases h3 : n = 0
    · have e2 : Asd (oddB s n = true) := ⟨by unfold oddB; rw [h1, h3]; rfl⟩
      subst h3
      go_enter Tryz.func43, Tryz.ntmps43
      go_wp2
      go_ret
      exact ⟨ret_bool e2.out.symm, hb.out⟩
    · have h4 : (n == 0) = false := by simpa using h3
      have e : Asd (oddB s n = (decide (n < 0) || decide (999999999 < n))) := ⟨by unfold oddB; rw [h4]; simp⟩
      clear h3
      by_cases h2 : n < 0
      · have e2 : Asd (oddB s n = true) := ⟨by rw [e.out]; simp [h2]⟩
        go_enter Tryz.func43, Tryz.ntmps43
        go_wp2
        go_ret
        exact ⟨ret_bool e2.out.symm, hb.out⟩
      · have e2 : Asd (oddB s n = decide (999999999 < n)) := ⟨by rw [e.out]; simp [h2]⟩
        go_enter Tryz.func43, Tryz.ntmps43
        go_wp2
        go_ret
        exact ⟨ret_bool e2.out.symm, hb.out⟩
def RecOk (k : ByteArray) : Prop := hasB k 61 = false ∧ k.size ≠ 0 ∧ hasB k 0 = false ∧ hasB k 46 = true ∧ spkB k = false
def RecBad (k : ByteArray) : Prop := (hasB k 61 = true ∨ k.size = 0) ∧ spkB k = false
theorem cut_has {s : ByteArray} {c : UInt8} {k : Nat} (h : cutAt s c k) : hasB s c = true := by
  obtain ⟨h1, _⟩ := h
  obtain ⟨hk, he⟩ := Array.getElem?_eq_some_iff.1 h1
  exact hasB_at (k := k) hk he
set_option maxRecDepth 100000 in
set_option maxHeartbeats 1000000 in
theorem record_any (k v : ByteArray) (w : World) (hk : k.size ≤ 140737488351232) (hv : v.size ≤ 140737488351232) : Calls Tryz.prog 52 #[.agg #[.string k, .string v]] w (VBPost (RecOk k) (RecBad k) w) := by
  have hb := Asd.mk ((Below.refl w.heap.size w).alloc (Nat.le_refl _) (.cells #[.string k, .string v] 119 (0, 0)))
  have hsp := Asd.mk (fun W => sSparse_any k W hk)
  have hun := Asd.mk (fun W => sUTF8_any k W hk)
  have huv := Asd.mk (fun W => sUTF8_any v W hv)
  have hcu : Asd (∀ W, Calls Tryz.prog 118 #[.string k, .int .u8 46] W (CutPost k 46 W)) := ⟨fun W => sCut_any k 46 W hk⟩
  rcases (Bool.eq_false_or_eq_true (spkB k)).symm with h0 | h0
  · have H0 := Asd.mk h0
    rw [h0] at hsp
    clear h0
    obtain ⟨W, hW⟩ : ∃ W, Asd (W = w.alloc (.cells #[.string k, .string v] 119 (0, 0))) := ⟨_, ⟨rfl⟩⟩
    go_enter Tryz.func52, Tryz.ntmps52
    go_wp2_with (go_at_call 117; (with_reducible refine (hsp.out _).mono ?_); rintro e w' ⟨rfl, rfl⟩)
    have hb1 := heap_alloc_new w (.cells #[.string k, .string v] 119 (0, 0))
    rw [← hW.out] at hb1 ⊢
    have hbw : Below w.heap.size w W := by rw [hW.out]; exact hb.out
    obtain ⟨N, hN⟩ : ∃ N, Asd (w.heap.size = N) := ⟨_, ⟨rfl⟩⟩
    rw [hN.out] at hb1 ⊢
    have c0 : W.cell? ⟨N, 0, none⟩ = some (.string k) := cell_blk (C := [_, _]) hb1 rfl
    have c1 : W.cell? ⟨N, 1, none⟩ = some (.string v) := cell_blk (C := [_, _]) hb1 rfl
    clear hb1 hW hb
    replace hbw := Asd.mk hbw
    go_loop [14] (fun i => ∃ j : Nat, j ≤ k.size ∧ i = .int .i64 j ∧ ∀ a (ha : a < k.size), a < j → (k[a]'ha) ≠ 61) (fun i => k.size - (intOf i).toNat)
    case atStart => exact ⟨0, Nat.zero_le _, rfl, by intro a _ h; omega⟩
    case round =>
      obtain ⟨j, hj, rfl, hno⟩ := hrel
      by_cases hlt : j < k.size
      · by_cases hc : k[j]'hlt = 61
        · have HI := Asd.mk (hasB_at hlt hc)
          have hb : (((k[j]'hlt).toNat : Int) == 61) = true := by rw [hc]; rfl
          clear hc hno
          go_wp2
          go_ret
          exact ⟨hbw.out, 2, V3.wrong ⟨.inl HI.out, H0.out⟩, rfl⟩
        · have hb : (((k[j]'hlt).toNat : Int) == 61) = false := z8 (n := 61) (by omega) hc
          have HC := Asd.mk hc
          have HN := Asd.mk hno
          clear hc hno
          go_wp2
          go_round
          case rel => exact ⟨j + 1, by omega, by go_num, fun a ha hl => by rcases Nat.lt_or_ge a j with h | h; exact HN.out a ha h; (have e : a = j := by omega); subst e; exact HC.out⟩
          case measure => simp [intOf]; omega
      · have HI := Asd.mk (hasB_no (s := k) (c := 61) (fun a ha => hno a ha (by omega)))
        clear hno
        by_cases hz : k.size = 0
        · have hne : k.toList = [] := by rw [← List.length_eq_zero_iff, size_toL]; omega
          have HZ := Asd.mk hz
          clear hz
          go_wp2
          go_ret
          exact ⟨hbw.out, 2, V3.wrong ⟨.inr HZ.out, H0.out⟩, rfl⟩
        · have hne : ¬ k.toList = [] := by rw [← List.length_eq_zero_iff, size_toL]; omega
          have hne2 : k.toList.isEmpty = false := by rw [emp_iff]; exact decide_eq_false hz
          have HZ := Asd.mk hz
          clear hz
          go_wp2_with (first
            | (go_at_call 115; (with_reducible refine (hun.out _).mono ?_); rintro e w' ⟨rfl, bk, rfl, hbk⟩; replace hbk := Asd.mk hbk)
            | (go_at_call 115; (with_reducible refine (huv.out _).mono ?_); rintro e w' ⟨rfl, bv, rfl, hbv⟩; clear hbv))
          all_goals first
            | (go_ret; exact ⟨hbw.out, 0, V3.open_ _ _, rfl⟩)
            | skip
          all_goals
            refine (hcu.out _).mono ?_
            rintro e w2 ⟨⟨nd, rfl⟩, hcc⟩
            have hbd : Asd (Below w.heap.size w (W.drewN nd)) := ⟨hbw.out.trans ⟨rfl, rfl, rfl, Nat.le_refl _, fun _ _ => rfl⟩⟩
            rcases hcc with ⟨h46, rfl⟩ | ⟨q, hq, hq2, rfl⟩
            · clear h46
              go_wp2
              go_ret
              exact ⟨hbd.out, 0, V3.open_ _ _, rfl⟩
            · have HQ := Asd.mk (cut_has hq)
              clear hq
              have hvs : (k.extract 0 q).size ≤ 140737488351232 := by rw [ByteArray.size_extract]; omega
              generalize k.extract 0 q = vd at *
              generalize k.extract (q + 1) k.size = kw at *
              have HOK : Asd (RecOk k) := ⟨HI.out, HZ.out, hbk.out (by assumption), HQ.out, H0.out⟩
              by_cases e1 : vd.toList = []
              · go_wp2
                go_ret
                exact ⟨hbd.out, 0, V3.open_ _ _, rfl⟩
              by_cases e2 : kw.toList = []
              · go_wp2
                go_ret
                exact ⟨hbd.out, 0, V3.open_ _ _, rfl⟩
              have e3 : vd.toList.isEmpty = false := by rw [Bool.eq_false_iff]; intro h; exact e1 (List.isEmpty_iff.1 h)
              have e4 : kw.toList.isEmpty = false := by rw [Bool.eq_false_iff]; intro h; exact e2 (List.isEmpty_iff.1 h)
              go_wp2
              go_loop [72] (fun i => ∃ j : Nat, j ≤ vd.size ∧ i = .int .i64 j) (fun i => vd.size - (intOf i).toNat)
              case atStart => exact ⟨0, Nat.zero_le _, rfl⟩
              case round =>
                obtain ⟨j, hj, rfl⟩ := hrel
                by_cases hlt : j < vd.size
                · go_wp2
                  all_goals first
                    | (go_ret; exact ⟨hbd.out, 0, V3.open_ _ _, rfl⟩)
                    | (go_round
                       case rel => exact ⟨j + 1, by omega, by go_num⟩
                       case measure => simp [intOf]; omega)
                · go_wp2
                  go_ret
                  exact ⟨hbd.out, 1, V3.right HOK.out, rfl⟩
  · rw [h0] at hsp
    clear h0
    go_enter Tryz.func52, Tryz.ntmps52
    go_wp2_with (go_at_call 117; (with_reducible refine (hsp.out _).mono ?_); rintro e w' ⟨rfl, rfl⟩)
    go_ret
    exact ⟨hb.out, 0, V3.open_ _ _, rfl⟩
end Go.Proofs.YtpkilegnokajmaaGreatDoor
