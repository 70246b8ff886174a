/- Contract: splitUSTARPath: where a path is parted. allowedFormats: what it asks of a text. allowedFormats: what it asks of a number. allowedFormats: what it asks of a time. -/
import Derived.Test.YtpkilegnokajmaaGreatDoorA00
import Derived.Test.YtpkilegnokajmaaGreatDoorA03
import Derived.Test.YtpkilegnokajmaaGreatDoorA01
import Derived.Test.YtpkilegnokajmaaGreatDoorA07
import Derived.Deep.QuietTactic
import Derived.Deep.DeepCutAuto
set_option linter.unusedVariables false
set_option linter.unusedSimpArgs false
set_option linter.unnecessarySimpa false
set_option linter.unusedSectionVars false
namespace Go.Proofs.YtpkilegnokajmaaGreatDoor
open Go.RowKit

theorem lastOcc_bd (s sub : List UInt8) : ∀ n, -1 ≤ Lib.lastOcc s sub n ∧ Lib.lastOcc s sub n < n
  | 0 => by simp [Lib.lastOcc]
  | n + 1 => by
    unfold Lib.lastOcc
    have := lastOcc_bd s sub n
    split <;> omega
def spLen (s : ByteArray) : Nat := if 156 < s.size then 156 else if s.data[s.size - 1]? = some 47 then s.size - 1 else s.size
def spIdx (s : ByteArray) : Int := Lib.lastIndex (s.data.toList.take (spLen s)) [47]
theorem spIdx_bd (s : ByteArray) : -1 ≤ spIdx s ∧ spIdx s < s.size := by
  unfold spIdx Lib.lastIndex
  have hz : s.size = s.data.toList.length := by simp
  have hl : (s.data.toList.take (spLen s)).length ≤ s.size := by rw [hz]; exact List.length_take_le' _ _
  split
  · rename_i h
    have h1 : [(47 : UInt8)].length = 1 := rfl
    rw [h1] at h ⊢
    have := lastOcc_bd (s.data.toList.take (spLen s)) [47] ((s.data.toList.take (spLen s)).length - 1 + 1)
    generalize (s.data.toList.take (spLen s)).length = n at *
    generalize Lib.lastOcc (s.data.toList.take (spLen s)) [47] (n - 1 + 1) = r at *
    omega
  · omega
def splitOk (s : ByteArray) : Bool := decide (100 < s.size) && asc s && (decide (0 < spIdx s) && decide ((s.size : Int) - spIdx s - 1 ≤ 100) && !((s.size : Int) - spIdx s - 1 == 0) && decide (spIdx s ≤ 155))
def spPre (s : ByteArray) : ByteArray := if splitOk s then s.extract 0 (spIdx s).toNat else ⟨#[]⟩
def spSuf (s : ByteArray) : ByteArray := if splitOk s then s.extract ((spIdx s).toNat + 1) s.size else ⟨#[]⟩
set_option maxRecDepth 100000 in
set_option maxHeartbeats 1000000 in
theorem split_no1 (s : ByteArray) (w : World) (hs : s.size ≤ 140737488351232) (h : s.size ≤ 100) :
    Calls Tryz.prog 63 #[.string s] w fun e w' => e = .returned (.tuple #[.string (spPre s), .string (spSuf s), .bool (splitOk s)]) ∧ Below w.heap.size w w' := by
  have h1 : splitOk s = false := by unfold splitOk; rw [decide_eq_false (by omega)]; rfl
  have H1 := Asd.mk h1
  clear h1
  go_enter Tryz.func63, Tryz.ntmps63
  go_wp2
  go_ret3
  exact ⟨by unfold spPre spSuf; rw [H1.out]; rfl, Below.refl _ _⟩
theorem lastIdx_call (s : ByteArray) (L : Nat) (w : World) (hL : spLen s = L) (hs : s.size ≤ 140737488351232) :
    Calls Tryz.prog 124 #[.string (s.extract 0 L), .string ⟨#[47]⟩] w fun e w' => e = .returned (.int .i64 (spIdx s)) ∧ w = w' := by
  have hz : (s.extract 0 L).size < 4611686018427387904 := by
    rw [Lib.size_eq, Lib.extract_data]; simp; omega
  refine (Tryz.strings_LastIndex (s.extract 0 L) ⟨#[47]⟩ hz w).mono ?_
  rintro e w' ⟨rfl, rfl⟩
  refine ⟨ret_int ?_, rfl⟩
  unfold spIdx
  rw [hL, Lib.extract_data]
  simp
set_option maxRecDepth 100000 in
set_option maxHeartbeats 1000000 in
theorem split_no2 (s : ByteArray) (w : World) (hs : s.size ≤ 140737488351232) (h : 100 < s.size) (hA : asc s = false) :
    Calls Tryz.prog 63 #[.string s] w fun e w' => e = .returned (.tuple #[.string (spPre s), .string (spSuf s), .bool (splitOk s)]) ∧ Below w.heap.size w w' := by
  have h1 : splitOk s = false := by unfold splitOk; rw [hA]; simp
  have H1 := Asd.mk h1
  clear h1
  go_enter Tryz.func63, Tryz.ntmps63
  go_wp2_with (go_at_call 62; refine (isASCII_any _ _ hs).mono ?_; rintro e w1 ⟨rfl, hb1⟩)
  go_ret3
  exact ⟨by unfold spPre spSuf; rw [H1.out]; rfl, hb1⟩
theorem splitOk_false (s : ByteArray) (h : spIdx s ≤ 0 ∨ 100 < (s.size : Int) - spIdx s - 1 ∨ (s.size : Int) - spIdx s - 1 = 0 ∨ 155 < spIdx s) : splitOk s = false := by
  unfold splitOk
  rw [Bool.and_eq_false_iff]; right
  rw [Bool.eq_false_iff]
  intro hh
  simp at hh
  omega
set_option maxRecDepth 100000 in
set_option maxHeartbeats 2000000 in
theorem split_long (s : ByteArray) (w : World) (hs : s.size ≤ 140737488351232) (h156 : 156 < s.size) (hA : asc s = true) :
    Calls Tryz.prog 63 #[.string s] w fun e w' => e = .returned (.tuple #[.string (spPre s), .string (spSuf s), .bool (splitOk s)]) ∧ Below w.heap.size w w' := by
  have hbd := spIdx_bd s
  have hL : spLen s = 156 := by unfold spLen; rw [if_pos h156]
  have HL := Asd.mk hL
  clear hL
  have h100 : 100 < s.size := by omega
  by_cases hok : splitOk s = true
  · have hok2 := hok
    unfold splitOk at hok2
    simp at hok2
    obtain ⟨_, ⟨⟨h1, h2⟩, h3⟩, h4⟩ := hok2
    obtain ⟨i, hi⟩ : ∃ i : Nat, spIdx s = i := ⟨(spIdx s).toNat, by omega⟩
    have HOK : Asd (spPre s = s.extract 0 i ∧ spSuf s = s.extract (i + 1) s.size ∧ splitOk s = true) := ⟨by unfold spPre; rw [if_pos hok, hi]; simp, by unfold spSuf; rw [if_pos hok, hi]; simp, hok⟩
    rw [hi] at h1 h2 h3 h4 hbd
    have h3b : ((s.size : Int) - (i : Int) - 1 == 0) = false := by rw [beq_eq_false_iff_ne]; exact h3
    have h5 : (i : Int) + 1 ≤ s.size := by omega
    have h6 : IntKind.i64.wrap ((i : Int) + 1) = (i : Int) + 1 := by rw [IntKind.wrap_i64]; omega
    have HI := Asd.mk hi
    clear hok hi h3
    go_enter Tryz.func63, Tryz.ntmps63
    go_wp2_with (first | (go_at_call 62; refine (isASCII_any _ _ hs).mono ?_; rintro e w1 ⟨rfl, hb1⟩) | (go_at_call 124; refine (lastIdx_call s _ _ HL.out hs).mono ?_; rintro e w2 ⟨rfl, rfl⟩; rw [HI.out]))
    go_quiet (fail)
    clear h6
    go_wp2
    go_ret3
    refine ⟨?_, hb1.trans ⟨rfl, rfl, rfl, Nat.le_refl _, fun _ _ => rfl⟩⟩
    rw [HOK.out.1, HOK.out.2.1, HOK.out.2.2]
    rfl
  · have hok' : splitOk s = false := by simpa using hok
    have H1 := Asd.mk hok'
    clear hok hok'
    have H2 : spIdx s ≤ 0 ∨ 100 < (s.size : Int) - spIdx s - 1 ∨ (s.size : Int) - spIdx s - 1 = 0 ∨ 155 < spIdx s := by
      have := H1.out
      unfold splitOk at this
      simp [h100, hA] at this
      omega
    rcases H2 with h | h | h | h
    all_goals
      go_enter Tryz.func63, Tryz.ntmps63
      go_wp2_with (first | (go_at_call 62; refine (isASCII_any _ _ hs).mono ?_; rintro e w1 ⟨rfl, hb1⟩) | (go_at_call 124; refine (lastIdx_call s _ _ HL.out hs).mono ?_; rintro e w2 ⟨rfl, rfl⟩))
      all_goals (go_ret3; exact ⟨by unfold spPre spSuf; rw [H1.out]; rfl, hb1⟩)
set_option maxRecDepth 100000 in
set_option maxHeartbeats 2000000 in
theorem split_slash (s : ByteArray) (w : World) (hs : s.size ≤ 140737488351232) (h100 : 100 < s.size) (h156 : s.size ≤ 156) (b : UInt8) (hb : s.data[s.size - 1]? = some b) (hb47 : b = 47) (hA : asc s = true) :
    Calls Tryz.prog 63 #[.string s] w fun e w' => e = .returned (.tuple #[.string (spPre s), .string (spSuf s), .bool (splitOk s)]) ∧ Below w.heap.size w w' := by
  have hbd := spIdx_bd s
  have hL : spLen s = s.size - 1 := by unfold spLen; rw [if_neg (by omega), if_pos (by rw [hb, hb47])]
  have HL := Asd.mk hL
  clear hL
  have p1b := eq_true (show (1 : Int) ≤ (s.size : Int) by omega)
  have p1c := eq_true (show 1 ≤ s.size by omega)
  have p4 : ∀ h : s.size - 1 < s.size, ((s[s.size - 1]'h).toNat : Int) = (b.toNat : Int) := by
    intro h
    have hb2 := (Array.getElem?_eq_some_iff.1 hb).2
    rw [ByteArray.getElem_eq_getElem_data, hb2]
  have p5 : ((b.toNat : Int) == 47) = true := by rw [hb47]; rfl
  clear hb hb47
  by_cases hok : splitOk s = true
  · have hok2 := hok
    unfold splitOk at hok2
    simp at hok2
    obtain ⟨_, ⟨⟨h1, h2⟩, h3⟩, h4⟩ := hok2
    obtain ⟨i, hi⟩ : ∃ i : Nat, spIdx s = i := ⟨(spIdx s).toNat, by omega⟩
    have HOK : Asd (spPre s = s.extract 0 i ∧ spSuf s = s.extract (i + 1) s.size ∧ splitOk s = true) := ⟨by unfold spPre; rw [if_pos hok, hi]; simp, by unfold spSuf; rw [if_pos hok, hi]; simp, hok⟩
    rw [hi] at h1 h2 h3 h4 hbd
    have h3b : ((s.size : Int) - (i : Int) - 1 == 0) = false := by rw [beq_eq_false_iff_ne]; exact h3
    have h5 : (i : Int) + 1 ≤ s.size := by omega
    have h6 : IntKind.i64.wrap ((i : Int) + 1) = (i : Int) + 1 := by rw [IntKind.wrap_i64]; omega
    have HI := Asd.mk hi
    clear hok hi h3
    go_enter Tryz.func63, Tryz.ntmps63
    go_wp2_with (first | (go_at_call 62; refine (isASCII_any _ _ hs).mono ?_; rintro e w1 ⟨rfl, hb1⟩) | (go_at_call 124; refine (lastIdx_call s _ _ HL.out hs).mono ?_; rintro e w2 ⟨rfl, rfl⟩; rw [HI.out]))
    go_quiet (fail)
    clear h6
    go_wp2
    go_ret3
    refine ⟨?_, hb1.trans ⟨rfl, rfl, rfl, Nat.le_refl _, fun _ _ => rfl⟩⟩
    rw [HOK.out.1, HOK.out.2.1, HOK.out.2.2]
    rfl
  · have hok' : splitOk s = false := by simpa using hok
    have H1 := Asd.mk hok'
    clear hok hok'
    have H2 : spIdx s ≤ 0 ∨ 100 < (s.size : Int) - spIdx s - 1 ∨ (s.size : Int) - spIdx s - 1 = 0 ∨ 155 < spIdx s := by
      have := H1.out
      unfold splitOk at this
      simp [h100, hA] at this
      omega
    rcases H2 with h | h | h | h
    all_goals
      go_enter Tryz.func63, Tryz.ntmps63
      go_wp2_with (first | (go_at_call 62; refine (isASCII_any _ _ hs).mono ?_; rintro e w1 ⟨rfl, hb1⟩) | (go_at_call 124; refine (lastIdx_call s _ _ HL.out hs).mono ?_; rintro e w2 ⟨rfl, rfl⟩))
      all_goals (go_ret3; exact ⟨by unfold spPre spSuf; rw [H1.out]; rfl, hb1⟩)
theorem lastIdx_whole (s : ByteArray) (w : World) (hL : spLen s = s.size) (hs : s.size ≤ 140737488351232) :
    Calls Tryz.prog 124 #[.string s, .string ⟨#[47]⟩] w fun e w' => e = .returned (.int .i64 (spIdx s)) ∧ w = w' := by
  refine (Tryz.strings_LastIndex s ⟨#[47]⟩ (by omega) w).mono ?_
  rintro e w' ⟨rfl, rfl⟩
  refine ⟨ret_int ?_, rfl⟩
  unfold spIdx
  rw [hL, List.take_of_length_le (by simp)]
set_option maxRecDepth 100000 in
set_option maxHeartbeats 2000000 in
theorem split_plain (s : ByteArray) (w : World) (hs : s.size ≤ 140737488351232) (h100 : 100 < s.size) (h156 : s.size ≤ 156) (b : UInt8) (hb : s.data[s.size - 1]? = some b) (hb47 : b ≠ 47) (hA : asc s = true) :
    Calls Tryz.prog 63 #[.string s] w fun e w' => e = .returned (.tuple #[.string (spPre s), .string (spSuf s), .bool (splitOk s)]) ∧ Below w.heap.size w w' := by
  have hbd := spIdx_bd s
  have hL : spLen s = s.size := by unfold spLen; rw [if_neg (by omega), if_neg (by rw [hb]; simpa using hb47)]
  have HL := Asd.mk hL
  clear hL
  have p1b := eq_true (show (1 : Int) ≤ (s.size : Int) by omega)
  have p1c := eq_true (show 1 ≤ s.size by omega)
  have p4 : ∀ h : s.size - 1 < s.size, ((s[s.size - 1]'h).toNat : Int) = (b.toNat : Int) := by
    intro h
    have hb2 := (Array.getElem?_eq_some_iff.1 hb).2
    rw [ByteArray.getElem_eq_getElem_data, hb2]
  have p5 : ((b.toNat : Int) == 47) = false := by
    rw [beq_eq_false_iff_ne]; intro e
    have e' : b.toNat = 47 := by exact_mod_cast e
    exact hb47 (UInt8.toNat_inj.1 e')
  clear hb hb47
  by_cases hok : splitOk s = true
  · have hok2 := hok
    unfold splitOk at hok2
    simp at hok2
    obtain ⟨_, ⟨⟨h1, h2⟩, h3⟩, h4⟩ := hok2
    obtain ⟨i, hi⟩ : ∃ i : Nat, spIdx s = i := ⟨(spIdx s).toNat, by omega⟩
    have HOK : Asd (spPre s = s.extract 0 i ∧ spSuf s = s.extract (i + 1) s.size ∧ splitOk s = true) := ⟨by unfold spPre; rw [if_pos hok, hi]; simp, by unfold spSuf; rw [if_pos hok, hi]; simp, hok⟩
    rw [hi] at h1 h2 h3 h4 hbd
    have h3b : ((s.size : Int) - (i : Int) - 1 == 0) = false := by rw [beq_eq_false_iff_ne]; exact h3
    have h5 : (i : Int) + 1 ≤ s.size := by omega
    have h6 : IntKind.i64.wrap ((i : Int) + 1) = (i : Int) + 1 := by rw [IntKind.wrap_i64]; omega
    have HI := Asd.mk hi
    clear hok hi h3
    go_enter Tryz.func63, Tryz.ntmps63
    go_wp2_with (first | (go_at_call 62; refine (isASCII_any _ _ hs).mono ?_; rintro e w1 ⟨rfl, hb1⟩) | (go_at_call 124; ((with_reducible refine (lastIdx_whole s _ HL.out hs).mono ?_)); rintro e w2 ⟨rfl, rfl⟩; rw [HI.out]))
    go_quiet (fail)
    clear h6
    go_wp2
    go_ret3
    refine ⟨?_, hb1.trans ⟨rfl, rfl, rfl, Nat.le_refl _, fun _ _ => rfl⟩⟩
    rw [HOK.out.1, HOK.out.2.1, HOK.out.2.2]
    rfl
  · have hok' : splitOk s = false := by simpa using hok
    have H1 := Asd.mk hok'
    clear hok hok'
    have H2 : spIdx s ≤ 0 ∨ 100 < (s.size : Int) - spIdx s - 1 ∨ (s.size : Int) - spIdx s - 1 = 0 ∨ 155 < spIdx s := by
      have := H1.out
      unfold splitOk at this
      simp [h100, hA] at this
      omega
    rcases H2 with h | h | h | h
    all_goals
      go_enter Tryz.func63, Tryz.ntmps63
      go_wp2_with (first | (go_at_call 62; refine (isASCII_any _ _ hs).mono ?_; rintro e w1 ⟨rfl, hb1⟩) | (go_at_call 124; ((with_reducible refine (lastIdx_whole s _ HL.out hs).mono ?_)); rintro e w2 ⟨rfl, rfl⟩))
      all_goals (go_ret3; exact ⟨by unfold spPre spSuf; rw [H1.out]; rfl, hb1⟩)
theorem splitUSTARPath_any (s : ByteArray) (w : World) (hs : s.size ≤ 140737488351232) :
    Calls Tryz.prog 63 #[.string s] w fun e w' => e = .returned (.tuple #[.string (spPre s), .string (spSuf s), .bool (splitOk s)]) ∧ Below w.heap.size w w' := by
  by_cases h100 : s.size ≤ 100
  · exact split_no1 s w hs h100
  · by_cases hA : asc s = true
    · by_cases h156 : 156 < s.size
      · exact split_long s w hs h156 hA
      · obtain ⟨b, hb⟩ : ∃ b, s.data[s.size - 1]? = some b := ⟨s.data[s.size - 1]'(by have : s.size = s.data.size := rfl; omega), Array.getElem?_eq_getElem _⟩
        by_cases hb47 : b = 47
        · exact split_slash s w hs (by omega) (by omega) b hb hb47 hA
        · exact split_plain s w hs (by omega) (by omega) b hb hb47 hA
    · exact split_no2 s w hs (by omega) (by simpa using hA)
end Go.Proofs.YtpkilegnokajmaaGreatDoor
namespace Go.Proofs.YtpkilegnokajmaaGreatDoor
open Go.RowKit Go.Maps

/-- A record of the header that says the same. -/
def hasAt (R : DataW Unit) (key s : ByteArray) : Bool := Maps.has R (sK key) && sget R key.data.toList == s.data.toList
def AfS.put (st : AfS) (k v : ByteArray) : AfS := ⟨st.u, st.p, st.g, st.pref, st.D.put (sK k) (sV v.data.toList)⟩
def AfS.noG (st : AfS) (b : Bool) : AfS := ⟨st.u, st.p, st.g && !b, st.pref, st.D⟩
def AfS.noU (st : AfS) (b : Bool) : AfS := ⟨st.u && !b, st.p, st.g, st.pref, st.D⟩
def AfS.noP (st : AfS) (b : Bool) : AfS := ⟨st.u, st.p && !b, st.g, st.pref, st.D⟩
def AfS.putIf (st : AfS) (b : Bool) (k v : ByteArray) : AfS := if b then st.put k v else st
def strBadG (longOk : Bool) (s : ByteArray) (size : Nat) : Bool := hasB s 0 || (decide (size < s.size) && !longOk)
def strBad (s : ByteArray) (size : Nat) : Bool := !asc s || decide (size < s.size)
def strBadU (path : Bool) (s : ByteArray) (size : Nat) : Bool := strBad s size && !(path && splitOk s)
def afStr (R : DataW Unit) (path longOk : Bool) (s key : ByteArray) (size : Nat) (st : AfS) : AfS :=
  ((((st.noG (strBadG longOk s size)).noU (strBadU path s size)).putIf (strBad s size) key s)).putIf (hasAt R key s) key s
def kPathB : ByteArray := ⟨#[112, 97, 116, 104]⟩
def kLinkB : ByteArray := ⟨#[108, 105, 110, 107, 112, 97, 116, 104]⟩
def kUnameB : ByteArray := ⟨#[117, 110, 97, 109, 101]⟩
def kGnameB : ByteArray := ⟨#[103, 110, 97, 109, 101]⟩
theorem AfS.noG_false (st : AfS) : st.noG false = st := by cases st; simp [AfS.noG]
theorem AfS.noU_false (st : AfS) : st.noU false = st := by cases st; simp [AfS.noU]
theorem AfS.noP_false (st : AfS) : st.noP false = st := by cases st; simp [AfS.noP]
theorem AfS.noG_true (st : AfS) : st.noG true = ⟨st.u, st.p, false, st.pref, st.D⟩ := by cases st; simp [AfS.noG]
theorem AfS.noU_true (st : AfS) : st.noU true = ⟨false, st.p, st.g, st.pref, st.D⟩ := by cases st; simp [AfS.noU]
theorem AfS.noP_true (st : AfS) : st.noP true = ⟨st.u, false, st.g, st.pref, st.D⟩ := by cases st; simp [AfS.noP]
section
variable {G : GlP} {B : Nat} {H : Hd} {R : DataW Unit} {rn N n : Nat} {st : AfS} {w0 w w' : World}
theorem plain9 (s : ByteArray) (h : s.size ≤ maxLen) : plainElem (H := Unit) Tryz.prog 9 (.string s) = some (sV s.data.toList, []) := plainElem_string Tryz.underlying9 h
/-- A reason is laid down, and the format struck. -/
theorem Af.strike (h : Af G B H R rn N n st w0 w) (k : Int) (u p g : Bool) (hk : bits .andNot .i64 (fm st.u st.p st.g) k = fm u p g) :
    Calls Tryz.prog 61 #[.pointer (some ⟨N + 1, 0, none⟩), .int .i64 k] w fun e w' => e = .returned (.tuple #[]) ∧ Af G B H R rn N n ⟨u, p, g, st.pref, st.D⟩ w0 w' := by
  refine (mustNotBe_any _ _ _ _ h.cf h.fz.1).mono ?_
  rintro e w' ⟨rfl, rfl⟩
  exact ⟨rfl, by rw [hk]; exact h.setF u p g⟩
set_option maxRecDepth 100000 in
set_option maxHeartbeats 2000000 in
theorem vStr_path (h : Af G B H R rn N n st w0 w) (s name : ByteArray) (size : Nat) (hs : s.size ≤ 1073741824) (hn : n + 2 < 1073741824) (hname : name.size ≤ 100) (hsize : size ≤ 1000) :
    Calls Tryz.prog 59 #[.string s, .int .i64 size, .string name, .string ⟨#[112, 97, 116, 104]⟩, .pointer (some ⟨N + 6, 0, none⟩), .pointer (some ⟨N + 1, 0, none⟩), .pointer (some ⟨N + 4, 0, none⟩), .pointer (some ⟨N + 5, 0, none⟩), .pointer (some ⟨N + 2, 0, none⟩), .pointer (some ⟨N, 0, none⟩)] w
      fun e w' => e = .returned (.tuple #[]) ∧ Af G B H R rn N (n + 2) (afStr R true true s kPathB size st) w0 w' := by
  have hlg : Asd (decide ((size : Int) < (s.size : Int)) = decide (size < s.size)) := ⟨by congr 1; simp⟩
  go_enter Tryz.func59, Tryz.ntmps59
  go_upto_region 2 with fail
  go_cut [14, 40] (fun s14 s40 wx => s14 = .bool (decide (size < s.size)) ∧ s40 = .bool (strBadG true s size) ∧ wx = w)
  case first =>
    by_cases hnul : hasB s 0 = true
    all_goals
      by_cases hlong : size < s.size
      all_goals
        go_wp2_with (go_at_call 60; refine (hasNUL_any s _ (by omega)).mono ?_; rintro e w' ⟨rfl, rfl⟩)
        go_meet
        case rel => exact ⟨by simp [hlong], by simp [strBadG, hnul, hlong], rfl⟩
  case rest =>
  obtain ⟨rfl, rfl, rfl⟩ := hcut
  clear hlg
  obtain ⟨sg, hsg⟩ : ∃ b, Asd (b = strBadG true s size) := ⟨_, ⟨rfl⟩⟩
  rw [← hsg.out]
  obtain ⟨x6, c6⟩ := h.cs6
  have f6 := h.fz.2.2.2.1
  go_upto_if 40 with fail
  go_cut [] (fun wx => Af G B H R rn N n (st.noG sg) w0 wx)
  case first =>
    cases sg
    · go_wp2_with fail
      go_meet
      case rel => rw [AfS.noG_false]; exact h
    · go_wp2_with (go_at_call 61; refine ((h.set6 _).strike 8 st.u st.p false (fm_not8 _ _ _)).mono ?_; rintro e w2 ⟨rfl, t2⟩)
      go_meet
      case rel => rw [AfS.noG_true]; exact t2
  case rest =>
  clear c6 f6
  have hA := hcut
  clear hcut
  go_upto_region 5 with fail
  go_cut [14, 49] (fun s14 s49 wx => s14 = .bool (decide (size < s.size)) ∧ s49 = .bool (strBad s size) ∧ Af G B H R rn N n (st.noG sg) w0 wx)
  case first =>
    by_cases hasc : asc s = true
    all_goals
      by_cases hlong : size < s.size
      all_goals
        go_wp2_with (go_at_call 62; refine (isASCII_any s _ (by omega)).mono ?_; rintro e w3 ⟨rfl, f3⟩)
        go_meet
        case rel => exact ⟨by simp [hlong], by simp [strBad, hasc, hlong], hA.blw f3⟩
  case rest =>
  clear hA
  obtain ⟨rfl, rfl, hA⟩ := hcut
  obtain ⟨sb, hsb⟩ : ∃ b, Asd (b = strBad s size) := ⟨_, ⟨rfl⟩⟩
  rw [← hsb.out]
  go_upto_if 49 with fail
  go_cut [] (fun wx => Af G B H R rn N (n + 1) (((st.noG sg).noU (sb && !(true && splitOk s))).putIf sb kPathB s) w0 wx)
  case first =>
    cases sb
    · go_wp2_with fail
      go_meet
      case rel => rw [Bool.false_and, AfS.noU_false]; exact hA.mono (by omega)
    · by_cases hsp : splitOk s = true
      · (go_wp2_with (first
          | (go_at_call 63; refine (splitUSTARPath_any s _ (by omega)).mono ?_; rintro e w4 ⟨rfl, f4⟩; have t4 := hA.blw f4; obtain ⟨x4, c4⟩ := t4.cs4; have g4 := t4.fz.2.1; have cx4 := t4.cx)
          | (go_at_call 61; refine ((t4.set4 _).strike 2 false (st.noG sg).p (st.noG sg).g (fm_not2 _ _ _)).mono ?_; rintro e w5 ⟨rfl, t5⟩; have cx5 := t5.cx)
          | (at_mapUpdate; refine wpList_mapUpdate_own _ rfl _ _ _ 97 rfl 9 9 law9 Tryz.underlying97 _ (N + 3) n _ rfl t4.m (by unfold maxLen; omega) _ _ _ rfl rfl (key9 _ (by unfold maxLen; decide)) _ [] (plain9 _ (by unfold maxLen; omega)) ?_; intro w6 hm6 hg6; go_frame))
         go_meet
         case rel => rw [show (true && !(true && splitOk s)) = false by rw [hsp]; rfl, AfS.noU_false]; exact t4.put hm6 hg6)
      · replace hsp : splitOk s = false := by simpa using hsp
        (go_wp2_with (first
          | (go_at_call 63; refine (splitUSTARPath_any s _ (by omega)).mono ?_; rintro e w4 ⟨rfl, f4⟩; have t4 := hA.blw f4; obtain ⟨x4, c4⟩ := t4.cs4; have g4 := t4.fz.2.1; have cx4 := t4.cx)
          | (go_at_call 61; refine ((t4.set4 _).strike 2 false (st.noG sg).p (st.noG sg).g (fm_not2 _ _ _)).mono ?_; rintro e w5 ⟨rfl, t5⟩; have cx5 := t5.cx)
          | (at_mapUpdate; refine wpList_mapUpdate_own _ rfl _ _ _ 97 rfl 9 9 law9 Tryz.underlying97 _ (N + 3) n _ rfl t5.m (by unfold maxLen; omega) _ _ _ rfl rfl (key9 _ (by unfold maxLen; decide)) _ [] (plain9 _ (by unfold maxLen; omega)) ?_; intro w6 hm6 hg6; go_frame))
         go_meet
         case rel => rw [show (true && !(true && splitOk s)) = true by rw [hsp]; rfl, AfS.noU_true]; exact t5.put hm6 hg6)
  case rest =>
  clear hA
  have hA := hcut
  clear hcut
  have ch := hA.hd (j := 18) (v := H.recs) rfl
  go_upto_region 16 with (at_lookup; refine wpList_lookup_rec _ rfl _ _ rfl _ N rn R hA.rc rfl _ rfl (by unfold maxLen; decide) ?_; intro y hy hy2)
  have hkb : sget R kPathB.data.toList = y.data.toList := hy.symm
  have hkb2 : Maps.has R (sK kPathB) = Maps.has R (sK ⟨#[112, 97, 116, 104]⟩) := rfl
  have hfin : ∀ b, hasAt R kPathB s = b → afStr R true true s kPathB size st = ((((st.noG sg).noU (sb && !(true && splitOk s))).putIf sb kPathB s)).putIf b kPathB s := by
    intro b hb
    unfold afStr strBadU
    rw [hb, hsg.out, hsb.out]
  clear hy
  by_cases hb : Maps.has R (sK ⟨#[112, 97, 116, 104]⟩) = true
  · by_cases hys : y = s
    · have hat := Asd.mk (hfin true (by unfold hasAt; rw [hkb, hkb2, hb, hys]; simp))
      subst hys
      clear hkb hkb2 hfin
      have cx := hA.cx
      go_wp2_with (at_mapUpdate; refine wpList_mapUpdate_own _ rfl _ _ _ 97 rfl 9 9 law9 Tryz.underlying97 _ (N + 3) (n + 1) _ rfl hA.m (by unfold maxLen; omega) _ _ _ rfl rfl (key9 _ (by unfold maxLen; decide)) _ [] (plain9 _ (by unfold maxLen; omega)) ?_; intro w6 hm6 hg6)
      go_end0
      refine ⟨rfl, ?_⟩
      rw [hat.out]
      exact hA.put hm6 hg6
    · have hne : (y.toList == s.toList) = false := by
        rw [beq_eq_false_iff_ne]
        intro e
        exact hys (ba_ext (by rw [← Lib.toList_data, ← Lib.toList_data]; exact e))
      have hat := Asd.mk (hfin false (by
        unfold hasAt
        rw [hkb, hkb2, hb]
        simp only [Bool.true_and, beq_eq_false_iff_ne]
        exact fun e => hys (ba_ext e)))
      clear hkb hkb2 hfin hys
      go_wp2_with fail
      go_end0
      refine ⟨rfl, ?_⟩
      rw [hat.out]
      exact hA.mono (by omega)
  · have hb' : Maps.has R (sK ⟨#[112, 97, 116, 104]⟩) = false := by simpa using hb
    have hat := Asd.mk (hfin false (by unfold hasAt; rw [hkb2, hb']; rfl))
    clear hkb hkb2 hfin hb
    go_wp2_with fail
    go_end0
    refine ⟨rfl, ?_⟩
    rw [hat.out]
    exact hA.mono (by omega)
set_option maxRecDepth 100000 in
set_option maxHeartbeats 2000000 in
theorem vStr_link (h : Af G B H R rn N n st w0 w) (s name : ByteArray) (size : Nat) (hs : s.size ≤ 1073741824) (hn : n + 2 < 1073741824) (hname : name.size ≤ 100) (hsize : size ≤ 1000) :
    Calls Tryz.prog 59 #[.string s, .int .i64 size, .string name, .string ⟨#[108, 105, 110, 107, 112, 97, 116, 104]⟩, .pointer (some ⟨N + 6, 0, none⟩), .pointer (some ⟨N + 1, 0, none⟩), .pointer (some ⟨N + 4, 0, none⟩), .pointer (some ⟨N + 5, 0, none⟩), .pointer (some ⟨N + 2, 0, none⟩), .pointer (some ⟨N, 0, none⟩)] w
      fun e w' => e = .returned (.tuple #[]) ∧ Af G B H R rn N (n + 2) (afStr R false true s kLinkB size st) w0 w' := by
  have hlg : Asd (decide ((size : Int) < (s.size : Int)) = decide (size < s.size)) := ⟨by congr 1; simp⟩
  go_enter Tryz.func59, Tryz.ntmps59
  go_upto_region 2 with fail
  go_cut [14, 40] (fun s14 s40 wx => s14 = .bool (decide (size < s.size)) ∧ s40 = .bool (strBadG true s size) ∧ wx = w)
  case first =>
    by_cases hnul : hasB s 0 = true
    all_goals
      by_cases hlong : size < s.size
      all_goals
        go_wp2_with (go_at_call 60; refine (hasNUL_any s _ (by omega)).mono ?_; rintro e w' ⟨rfl, rfl⟩)
        go_meet
        case rel => exact ⟨by simp [hlong], by simp [strBadG, hnul, hlong], rfl⟩
  case rest =>
  obtain ⟨rfl, rfl, rfl⟩ := hcut
  clear hlg
  obtain ⟨sg, hsg⟩ : ∃ b, Asd (b = strBadG true s size) := ⟨_, ⟨rfl⟩⟩
  rw [← hsg.out]
  obtain ⟨x6, c6⟩ := h.cs6
  have f6 := h.fz.2.2.2.1
  go_upto_if 40 with fail
  go_cut [] (fun wx => Af G B H R rn N n (st.noG sg) w0 wx)
  case first =>
    cases sg
    · go_wp2_with fail
      go_meet
      case rel => rw [AfS.noG_false]; exact h
    · go_wp2_with (go_at_call 61; refine ((h.set6 _).strike 8 st.u st.p false (fm_not8 _ _ _)).mono ?_; rintro e w2 ⟨rfl, t2⟩)
      go_meet
      case rel => rw [AfS.noG_true]; exact t2
  case rest =>
  clear c6 f6
  have hA := hcut
  clear hcut
  go_upto_region 5 with fail
  go_cut [14, 49] (fun s14 s49 wx => s14 = .bool (decide (size < s.size)) ∧ s49 = .bool (strBad s size) ∧ Af G B H R rn N n (st.noG sg) w0 wx)
  case first =>
    by_cases hasc : asc s = true
    all_goals
      by_cases hlong : size < s.size
      all_goals
        go_wp2_with (go_at_call 62; refine (isASCII_any s _ (by omega)).mono ?_; rintro e w3 ⟨rfl, f3⟩)
        go_meet
        case rel => exact ⟨by simp [hlong], by simp [strBad, hasc, hlong], hA.blw f3⟩
  case rest =>
  clear hA
  obtain ⟨rfl, rfl, hA⟩ := hcut
  obtain ⟨sb, hsb⟩ : ∃ b, Asd (b = strBad s size) := ⟨_, ⟨rfl⟩⟩
  rw [← hsb.out]
  go_upto_if 49 with fail
  go_cut [] (fun wx => Af G B H R rn N (n + 1) (((st.noG sg).noU (sb && !(false && splitOk s))).putIf sb kLinkB s) w0 wx)
  case first =>
    cases sb
    · go_wp2_with fail
      go_meet
      case rel => rw [Bool.false_and, AfS.noU_false]; exact hA.mono (by omega)
    · (go_wp2_with (first
        | (go_at_call 63; refine (splitUSTARPath_any s _ (by omega)).mono ?_; rintro e w4 ⟨rfl, f4⟩; have t4 := hA.blw f4; obtain ⟨x4, c4⟩ := t4.cs4; have g4 := t4.fz.2.1; have cx4 := t4.cx)
        | (go_at_call 61; refine ((t4.set4 _).strike 2 false (st.noG sg).p (st.noG sg).g (fm_not2 _ _ _)).mono ?_; rintro e w5 ⟨rfl, t5⟩; have cx5 := t5.cx)
        | (at_mapUpdate; refine wpList_mapUpdate_own _ rfl _ _ _ 97 rfl 9 9 law9 Tryz.underlying97 _ (N + 3) n _ rfl t5.m (by unfold maxLen; omega) _ _ _ rfl rfl (key9 _ (by unfold maxLen; decide)) _ [] (plain9 _ (by unfold maxLen; omega)) ?_; intro w6 hm6 hg6; go_frame))
       go_meet
       case rel => rw [show (true && !(false && splitOk s)) = true by rfl, AfS.noU_true]; exact t5.put hm6 hg6)
  case rest =>
  clear hA
  have hA := hcut
  clear hcut
  have ch := hA.hd (j := 18) (v := H.recs) rfl
  go_upto_region 16 with (at_lookup; refine wpList_lookup_rec _ rfl _ _ rfl _ N rn R hA.rc rfl _ rfl (by unfold maxLen; decide) ?_; intro y hy hy2)
  have hkb : sget R kLinkB.data.toList = y.data.toList := hy.symm
  have hkb2 : Maps.has R (sK kLinkB) = Maps.has R (sK ⟨#[108, 105, 110, 107, 112, 97, 116, 104]⟩) := rfl
  have hfin : ∀ b, hasAt R kLinkB s = b → afStr R false true s kLinkB size st = ((((st.noG sg).noU (sb && !(false && splitOk s))).putIf sb kLinkB s)).putIf b kLinkB s := by
    intro b hb
    unfold afStr strBadU
    rw [hb, hsg.out, hsb.out]
  clear hy
  by_cases hb : Maps.has R (sK ⟨#[108, 105, 110, 107, 112, 97, 116, 104]⟩) = true
  · by_cases hys : y = s
    · have hat := Asd.mk (hfin true (by unfold hasAt; rw [hkb, hkb2, hb, hys]; simp))
      subst hys
      clear hkb hkb2 hfin
      have cx := hA.cx
      go_wp2_with (at_mapUpdate; refine wpList_mapUpdate_own _ rfl _ _ _ 97 rfl 9 9 law9 Tryz.underlying97 _ (N + 3) (n + 1) _ rfl hA.m (by unfold maxLen; omega) _ _ _ rfl rfl (key9 _ (by unfold maxLen; decide)) _ [] (plain9 _ (by unfold maxLen; omega)) ?_; intro w6 hm6 hg6)
      go_end0
      refine ⟨rfl, ?_⟩
      rw [hat.out]
      exact hA.put hm6 hg6
    · have hne : (y.toList == s.toList) = false := by
        rw [beq_eq_false_iff_ne]
        intro e
        exact hys (ba_ext (by rw [← Lib.toList_data, ← Lib.toList_data]; exact e))
      have hat := Asd.mk (hfin false (by
        unfold hasAt
        rw [hkb, hkb2, hb]
        simp only [Bool.true_and, beq_eq_false_iff_ne]
        exact fun e => hys (ba_ext e)))
      clear hkb hkb2 hfin hys
      go_wp2_with fail
      go_end0
      refine ⟨rfl, ?_⟩
      rw [hat.out]
      exact hA.mono (by omega)
  · have hb' : Maps.has R (sK ⟨#[108, 105, 110, 107, 112, 97, 116, 104]⟩) = false := by simpa using hb
    have hat := Asd.mk (hfin false (by unfold hasAt; rw [hkb2, hb']; rfl))
    clear hkb hkb2 hfin hb
    go_wp2_with fail
    go_end0
    refine ⟨rfl, ?_⟩
    rw [hat.out]
    exact hA.mono (by omega)
set_option maxRecDepth 100000 in
set_option maxHeartbeats 2000000 in
theorem vStr_uname (h : Af G B H R rn N n st w0 w) (s name : ByteArray) (size : Nat) (hs : s.size ≤ 1073741824) (hn : n + 2 < 1073741824) (hname : name.size ≤ 100) (hsize : size ≤ 1000) :
    Calls Tryz.prog 59 #[.string s, .int .i64 size, .string name, .string ⟨#[117, 110, 97, 109, 101]⟩, .pointer (some ⟨N + 6, 0, none⟩), .pointer (some ⟨N + 1, 0, none⟩), .pointer (some ⟨N + 4, 0, none⟩), .pointer (some ⟨N + 5, 0, none⟩), .pointer (some ⟨N + 2, 0, none⟩), .pointer (some ⟨N, 0, none⟩)] w
      fun e w' => e = .returned (.tuple #[]) ∧ Af G B H R rn N (n + 2) (afStr R false false s kUnameB size st) w0 w' := by
  have hlg : Asd (decide ((size : Int) < (s.size : Int)) = decide (size < s.size)) := ⟨by congr 1; simp⟩
  go_enter Tryz.func59, Tryz.ntmps59
  go_upto_region 2 with fail
  go_cut [14, 40] (fun s14 s40 wx => s14 = .bool (decide (size < s.size)) ∧ s40 = .bool (strBadG false s size) ∧ wx = w)
  case first =>
    by_cases hnul : hasB s 0 = true
    all_goals
      by_cases hlong : size < s.size
      all_goals
        go_wp2_with (go_at_call 60; refine (hasNUL_any s _ (by omega)).mono ?_; rintro e w' ⟨rfl, rfl⟩)
        go_meet
        case rel => exact ⟨by simp [hlong], by simp [strBadG, hnul, hlong], rfl⟩
  case rest =>
  obtain ⟨rfl, rfl, rfl⟩ := hcut
  clear hlg
  obtain ⟨sg, hsg⟩ : ∃ b, Asd (b = strBadG false s size) := ⟨_, ⟨rfl⟩⟩
  rw [← hsg.out]
  obtain ⟨x6, c6⟩ := h.cs6
  have f6 := h.fz.2.2.2.1
  go_upto_if 40 with fail
  go_cut [] (fun wx => Af G B H R rn N n (st.noG sg) w0 wx)
  case first =>
    cases sg
    · go_wp2_with fail
      go_meet
      case rel => rw [AfS.noG_false]; exact h
    · go_wp2_with (go_at_call 61; refine ((h.set6 _).strike 8 st.u st.p false (fm_not8 _ _ _)).mono ?_; rintro e w2 ⟨rfl, t2⟩)
      go_meet
      case rel => rw [AfS.noG_true]; exact t2
  case rest =>
  clear c6 f6
  have hA := hcut
  clear hcut
  go_upto_region 5 with fail
  go_cut [14, 49] (fun s14 s49 wx => s14 = .bool (decide (size < s.size)) ∧ s49 = .bool (strBad s size) ∧ Af G B H R rn N n (st.noG sg) w0 wx)
  case first =>
    by_cases hasc : asc s = true
    all_goals
      by_cases hlong : size < s.size
      all_goals
        go_wp2_with (go_at_call 62; refine (isASCII_any s _ (by omega)).mono ?_; rintro e w3 ⟨rfl, f3⟩)
        go_meet
        case rel => exact ⟨by simp [hlong], by simp [strBad, hasc, hlong], hA.blw f3⟩
  case rest =>
  clear hA
  obtain ⟨rfl, rfl, hA⟩ := hcut
  obtain ⟨sb, hsb⟩ : ∃ b, Asd (b = strBad s size) := ⟨_, ⟨rfl⟩⟩
  rw [← hsb.out]
  go_upto_if 49 with fail
  go_cut [] (fun wx => Af G B H R rn N (n + 1) (((st.noG sg).noU (sb && !(false && splitOk s))).putIf sb kUnameB s) w0 wx)
  case first =>
    cases sb
    · go_wp2_with fail
      go_meet
      case rel => rw [Bool.false_and, AfS.noU_false]; exact hA.mono (by omega)
    · (go_wp2_with (first
        | (go_at_call 63; refine (splitUSTARPath_any s _ (by omega)).mono ?_; rintro e w4 ⟨rfl, f4⟩; have t4 := hA.blw f4; obtain ⟨x4, c4⟩ := t4.cs4; have g4 := t4.fz.2.1; have cx4 := t4.cx)
        | (go_at_call 61; refine ((t4.set4 _).strike 2 false (st.noG sg).p (st.noG sg).g (fm_not2 _ _ _)).mono ?_; rintro e w5 ⟨rfl, t5⟩; have cx5 := t5.cx)
        | (at_mapUpdate; refine wpList_mapUpdate_own _ rfl _ _ _ 97 rfl 9 9 law9 Tryz.underlying97 _ (N + 3) n _ rfl t5.m (by unfold maxLen; omega) _ _ _ rfl rfl (key9 _ (by unfold maxLen; decide)) _ [] (plain9 _ (by unfold maxLen; omega)) ?_; intro w6 hm6 hg6; go_frame))
       go_meet
       case rel => rw [show (true && !(false && splitOk s)) = true by rfl, AfS.noU_true]; exact t5.put hm6 hg6)
  case rest =>
  clear hA
  have hA := hcut
  clear hcut
  have ch := hA.hd (j := 18) (v := H.recs) rfl
  go_upto_region 16 with (at_lookup; refine wpList_lookup_rec _ rfl _ _ rfl _ N rn R hA.rc rfl _ rfl (by unfold maxLen; decide) ?_; intro y hy hy2)
  have hkb : sget R kUnameB.data.toList = y.data.toList := hy.symm
  have hkb2 : Maps.has R (sK kUnameB) = Maps.has R (sK ⟨#[117, 110, 97, 109, 101]⟩) := rfl
  have hfin : ∀ b, hasAt R kUnameB s = b → afStr R false false s kUnameB size st = ((((st.noG sg).noU (sb && !(false && splitOk s))).putIf sb kUnameB s)).putIf b kUnameB s := by
    intro b hb
    unfold afStr strBadU
    rw [hb, hsg.out, hsb.out]
  clear hy
  by_cases hb : Maps.has R (sK ⟨#[117, 110, 97, 109, 101]⟩) = true
  · by_cases hys : y = s
    · have hat := Asd.mk (hfin true (by unfold hasAt; rw [hkb, hkb2, hb, hys]; simp))
      subst hys
      clear hkb hkb2 hfin
      have cx := hA.cx
      go_wp2_with (at_mapUpdate; refine wpList_mapUpdate_own _ rfl _ _ _ 97 rfl 9 9 law9 Tryz.underlying97 _ (N + 3) (n + 1) _ rfl hA.m (by unfold maxLen; omega) _ _ _ rfl rfl (key9 _ (by unfold maxLen; decide)) _ [] (plain9 _ (by unfold maxLen; omega)) ?_; intro w6 hm6 hg6)
      go_end0
      refine ⟨rfl, ?_⟩
      rw [hat.out]
      exact hA.put hm6 hg6
    · have hne : (y.toList == s.toList) = false := by
        rw [beq_eq_false_iff_ne]
        intro e
        exact hys (ba_ext (by rw [← Lib.toList_data, ← Lib.toList_data]; exact e))
      have hat := Asd.mk (hfin false (by
        unfold hasAt
        rw [hkb, hkb2, hb]
        simp only [Bool.true_and, beq_eq_false_iff_ne]
        exact fun e => hys (ba_ext e)))
      clear hkb hkb2 hfin hys
      go_wp2_with fail
      go_end0
      refine ⟨rfl, ?_⟩
      rw [hat.out]
      exact hA.mono (by omega)
  · have hb' : Maps.has R (sK ⟨#[117, 110, 97, 109, 101]⟩) = false := by simpa using hb
    have hat := Asd.mk (hfin false (by unfold hasAt; rw [hkb2, hb']; rfl))
    clear hkb hkb2 hfin hb
    go_wp2_with fail
    go_end0
    refine ⟨rfl, ?_⟩
    rw [hat.out]
    exact hA.mono (by omega)
set_option maxRecDepth 100000 in
set_option maxHeartbeats 2000000 in
theorem vStr_gname (h : Af G B H R rn N n st w0 w) (s name : ByteArray) (size : Nat) (hs : s.size ≤ 1073741824) (hn : n + 2 < 1073741824) (hname : name.size ≤ 100) (hsize : size ≤ 1000) :
    Calls Tryz.prog 59 #[.string s, .int .i64 size, .string name, .string ⟨#[103, 110, 97, 109, 101]⟩, .pointer (some ⟨N + 6, 0, none⟩), .pointer (some ⟨N + 1, 0, none⟩), .pointer (some ⟨N + 4, 0, none⟩), .pointer (some ⟨N + 5, 0, none⟩), .pointer (some ⟨N + 2, 0, none⟩), .pointer (some ⟨N, 0, none⟩)] w
      fun e w' => e = .returned (.tuple #[]) ∧ Af G B H R rn N (n + 2) (afStr R false false s kGnameB size st) w0 w' := by
  have hlg : Asd (decide ((size : Int) < (s.size : Int)) = decide (size < s.size)) := ⟨by congr 1; simp⟩
  go_enter Tryz.func59, Tryz.ntmps59
  go_upto_region 2 with fail
  go_cut [14, 40] (fun s14 s40 wx => s14 = .bool (decide (size < s.size)) ∧ s40 = .bool (strBadG false s size) ∧ wx = w)
  case first =>
    by_cases hnul : hasB s 0 = true
    all_goals
      by_cases hlong : size < s.size
      all_goals
        go_wp2_with (go_at_call 60; refine (hasNUL_any s _ (by omega)).mono ?_; rintro e w' ⟨rfl, rfl⟩)
        go_meet
        case rel => exact ⟨by simp [hlong], by simp [strBadG, hnul, hlong], rfl⟩
  case rest =>
  obtain ⟨rfl, rfl, rfl⟩ := hcut
  clear hlg
  obtain ⟨sg, hsg⟩ : ∃ b, Asd (b = strBadG false s size) := ⟨_, ⟨rfl⟩⟩
  rw [← hsg.out]
  obtain ⟨x6, c6⟩ := h.cs6
  have f6 := h.fz.2.2.2.1
  go_upto_if 40 with fail
  go_cut [] (fun wx => Af G B H R rn N n (st.noG sg) w0 wx)
  case first =>
    cases sg
    · go_wp2_with fail
      go_meet
      case rel => rw [AfS.noG_false]; exact h
    · go_wp2_with (go_at_call 61; refine ((h.set6 _).strike 8 st.u st.p false (fm_not8 _ _ _)).mono ?_; rintro e w2 ⟨rfl, t2⟩)
      go_meet
      case rel => rw [AfS.noG_true]; exact t2
  case rest =>
  clear c6 f6
  have hA := hcut
  clear hcut
  go_upto_region 5 with fail
  go_cut [14, 49] (fun s14 s49 wx => s14 = .bool (decide (size < s.size)) ∧ s49 = .bool (strBad s size) ∧ Af G B H R rn N n (st.noG sg) w0 wx)
  case first =>
    by_cases hasc : asc s = true
    all_goals
      by_cases hlong : size < s.size
      all_goals
        go_wp2_with (go_at_call 62; refine (isASCII_any s _ (by omega)).mono ?_; rintro e w3 ⟨rfl, f3⟩)
        go_meet
        case rel => exact ⟨by simp [hlong], by simp [strBad, hasc, hlong], hA.blw f3⟩
  case rest =>
  clear hA
  obtain ⟨rfl, rfl, hA⟩ := hcut
  obtain ⟨sb, hsb⟩ : ∃ b, Asd (b = strBad s size) := ⟨_, ⟨rfl⟩⟩
  rw [← hsb.out]
  go_upto_if 49 with fail
  go_cut [] (fun wx => Af G B H R rn N (n + 1) (((st.noG sg).noU (sb && !(false && splitOk s))).putIf sb kGnameB s) w0 wx)
  case first =>
    cases sb
    · go_wp2_with fail
      go_meet
      case rel => rw [Bool.false_and, AfS.noU_false]; exact hA.mono (by omega)
    · (go_wp2_with (first
        | (go_at_call 63; refine (splitUSTARPath_any s _ (by omega)).mono ?_; rintro e w4 ⟨rfl, f4⟩; have t4 := hA.blw f4; obtain ⟨x4, c4⟩ := t4.cs4; have g4 := t4.fz.2.1; have cx4 := t4.cx)
        | (go_at_call 61; refine ((t4.set4 _).strike 2 false (st.noG sg).p (st.noG sg).g (fm_not2 _ _ _)).mono ?_; rintro e w5 ⟨rfl, t5⟩; have cx5 := t5.cx)
        | (at_mapUpdate; refine wpList_mapUpdate_own _ rfl _ _ _ 97 rfl 9 9 law9 Tryz.underlying97 _ (N + 3) n _ rfl t5.m (by unfold maxLen; omega) _ _ _ rfl rfl (key9 _ (by unfold maxLen; decide)) _ [] (plain9 _ (by unfold maxLen; omega)) ?_; intro w6 hm6 hg6; go_frame))
       go_meet
       case rel => rw [show (true && !(false && splitOk s)) = true by rfl, AfS.noU_true]; exact t5.put hm6 hg6)
  case rest =>
  clear hA
  have hA := hcut
  clear hcut
  have ch := hA.hd (j := 18) (v := H.recs) rfl
  go_upto_region 16 with (at_lookup; refine wpList_lookup_rec _ rfl _ _ rfl _ N rn R hA.rc rfl _ rfl (by unfold maxLen; decide) ?_; intro y hy hy2)
  have hkb : sget R kGnameB.data.toList = y.data.toList := hy.symm
  have hkb2 : Maps.has R (sK kGnameB) = Maps.has R (sK ⟨#[103, 110, 97, 109, 101]⟩) := rfl
  have hfin : ∀ b, hasAt R kGnameB s = b → afStr R false false s kGnameB size st = ((((st.noG sg).noU (sb && !(false && splitOk s))).putIf sb kGnameB s)).putIf b kGnameB s := by
    intro b hb
    unfold afStr strBadU
    rw [hb, hsg.out, hsb.out]
  clear hy
  by_cases hb : Maps.has R (sK ⟨#[103, 110, 97, 109, 101]⟩) = true
  · by_cases hys : y = s
    · have hat := Asd.mk (hfin true (by unfold hasAt; rw [hkb, hkb2, hb, hys]; simp))
      subst hys
      clear hkb hkb2 hfin
      have cx := hA.cx
      go_wp2_with (at_mapUpdate; refine wpList_mapUpdate_own _ rfl _ _ _ 97 rfl 9 9 law9 Tryz.underlying97 _ (N + 3) (n + 1) _ rfl hA.m (by unfold maxLen; omega) _ _ _ rfl rfl (key9 _ (by unfold maxLen; decide)) _ [] (plain9 _ (by unfold maxLen; omega)) ?_; intro w6 hm6 hg6)
      go_end0
      refine ⟨rfl, ?_⟩
      rw [hat.out]
      exact hA.put hm6 hg6
    · have hne : (y.toList == s.toList) = false := by
        rw [beq_eq_false_iff_ne]
        intro e
        exact hys (ba_ext (by rw [← Lib.toList_data, ← Lib.toList_data]; exact e))
      have hat := Asd.mk (hfin false (by
        unfold hasAt
        rw [hkb, hkb2, hb]
        simp only [Bool.true_and, beq_eq_false_iff_ne]
        exact fun e => hys (ba_ext e)))
      clear hkb hkb2 hfin hys
      go_wp2_with fail
      go_end0
      refine ⟨rfl, ?_⟩
      rw [hat.out]
      exact hA.mono (by omega)
  · have hb' : Maps.has R (sK ⟨#[103, 110, 97, 109, 101]⟩) = false := by simpa using hb
    have hat := Asd.mk (hfin false (by unfold hasAt; rw [hkb2, hb']; rfl))
    clear hkb hkb2 hfin hb
    go_wp2_with fail
    go_end0
    refine ⟨rfl, ?_⟩
    rw [hat.out]
    exact hA.mono (by omega)
end
def kNoneB : ByteArray := ⟨#[]⟩
def kUidB : ByteArray := ⟨#[117, 105, 100]⟩
def kGidB : ByteArray := ⟨#[103, 105, 100]⟩
def kSizeB : ByteArray := ⟨#[115, 105, 122, 101]⟩
def afNum (R : DataW Unit) (none : Bool) (x : Int) (key : ByteArray) (size : Nat) (st : AfS) : AfS :=
  (((((st.noG (!fitB size x)).noU (!fitO size x)).noP (!fitO size x && none)).putIf (!fitO size x && !none) key (dec x))).putIf (hasAt R key (dec x)) key (dec x)
section
variable {G : GlP} {B : Nat} {H : Hd} {R : DataW Unit} {rn N n : Nat} {st : AfS} {w0 w w' : World}
set_option maxRecDepth 100000 in
set_option maxHeartbeats 2000000 in
theorem vNum_none8 (h : Af G B H R rn N n st w0 w) (x : Int) (name : ByteArray) (hx : -9223372036854775808 ≤ x ∧ x ≤ 9223372036854775807) (hn : n + 2 < 1073741824) (hname : name.size ≤ 100) :
    Calls Tryz.prog 64 #[.int .i64 x, .int .i64 8, .string name, .string ⟨#[]⟩, .pointer (some ⟨N + 6, 0, none⟩), .pointer (some ⟨N + 1, 0, none⟩), .pointer (some ⟨N + 4, 0, none⟩), .pointer (some ⟨N + 5, 0, none⟩), .pointer (some ⟨N + 2, 0, none⟩), .pointer (some ⟨N, 0, none⟩)] w
      fun e w' => e = .returned (.tuple #[]) ∧ Af G B H R rn N (n + 2) (afNum R true x kNoneB 8 st) w0 w' := by
  replace hx := Asd.mk hx
  obtain ⟨sg, hsg⟩ : ∃ b, Asd (fitB 8 x = b) := ⟨_, ⟨rfl⟩⟩
  obtain ⟨sb, hsb⟩ : ∃ b, Asd (fitO 8 x = b) := ⟨_, ⟨rfl⟩⟩
  obtain ⟨x6, c6⟩ := h.cs6
  have f6 := h.fz.2.2.2.1
  go_enter Tryz.func64, Tryz.ntmps64
  go_upto_region 0 with fail
  go_cut [19] (fun s19 wx => s19 = .bool (!sg) ∧ wx = w)
  case first =>
    go_wp2_with (go_at_call 65; refine (fitsInBase256_8 x _).mono ?_; rintro e w' ⟨rfl, rfl⟩; rw [hsg.out])
    go_meet
    case rel => exact ⟨rfl, rfl⟩
  case rest =>
  obtain ⟨rfl, rfl⟩ := hcut
  go_upto_if 19 with fail
  go_cut [] (fun wx => Af G B H R rn N n (st.noG (!sg)) w0 wx)
  case first =>
    cases sg
    · go_wp2_with (go_at_call 61; refine ((h.set6 _).strike 8 st.u st.p false (fm_not8 _ _ _)).mono ?_; rintro e w2 ⟨rfl, t2⟩)
      go_meet
      case rel => rw [Bool.not_false, AfS.noG_true]; exact t2
    · go_wp2_with fail
      go_meet
      case rel => rw [Bool.not_true, AfS.noG_false]; exact h
  case rest =>
  clear c6 f6
  have hA := hcut
  clear hcut
  go_upto_region 3 with fail
  go_cut [26] (fun s26 wx => s26 = .bool (!sb) ∧ Af G B H R rn N n (st.noG (!sg)) w0 wx)
  case first =>
    go_wp2_with (go_at_call 66; refine (fitsInOctal_8 x _).mono ?_; rintro e w' ⟨rfl, rfl⟩; rw [hsb.out])
    go_meet
    case rel => exact ⟨rfl, hA⟩
  case rest =>
  clear hA
  obtain ⟨rfl, hA⟩ := hcut
  go_upto_if 26 with fail
  go_cut [] (fun wx => Af G B H R rn N (n + 1) ((((st.noG (!sg)).noU (!sb)).noP (!sb && true)).putIf (!sb && !true) kNoneB (dec x)) w0 wx)
  case first =>
    cases sb
    · obtain ⟨x4, c4⟩ := hA.cs4
      have g4 := hA.fz.2.1
      go_wp2_with (first
        | (go_at_call 61; (with_reducible refine ((hA.set4 _).strike 2 false (st.noG (!sg)).p (st.noG (!sg)).g (fm_not2 _ _ _)).mono ?_); rintro e w5 ⟨rfl, t5⟩; obtain ⟨x5, c5⟩ := t5.cs5; have g5 := t5.fz.2.2.1; clear c4 g4)
        | (go_at_call 61; (with_reducible refine ((t5.set5 _).strike 4 false false (st.noG (!sg)).g (fm_not4 _ _ _)).mono ?_); rintro e w6 ⟨rfl, t6⟩))
      go_meet
      case rel => rw [show (!false) = true from rfl, Bool.true_and, Bool.true_and, AfS.noU_true, AfS.noP_true]; exact t6.mono (by omega)
    · go_wp2_with fail
      go_meet
      case rel => rw [show (!true) = false from rfl, Bool.false_and, Bool.false_and, AfS.noU_false, AfS.noP_false]; exact hA.mono (by omega)
  case rest =>
  clear hA
  have hA := hcut
  clear hcut
  have ch := hA.hd (j := 18) (v := H.recs) rfl
  go_upto_region 11 with (at_lookup; refine wpList_lookup_rec _ rfl _ _ rfl _ N rn R hA.rc rfl _ rfl (by unfold maxLen; decide) ?_; intro y hy hy2)
  have hkb : sget R kNoneB.data.toList = y.data.toList := hy.symm
  have hkb2 : Maps.has R (sK kNoneB) = Maps.has R (sK ⟨#[]⟩) := rfl
  have hfin : ∀ b, hasAt R kNoneB (dec x) = b → afNum R true x kNoneB 8 st = ((((st.noG (!sg)).noU (!sb)).noP (!sb && true)).putIf (!sb && !true) kNoneB (dec x)).putIf b kNoneB (dec x) := by
    intro b hb
    unfold afNum
    rw [hb, hsg.out, hsb.out]
  clear hy
  by_cases hb : Maps.has R (sK ⟨#[]⟩) = true
  · by_cases hys : y = dec x
    · have hat := Asd.mk (hfin true (by unfold hasAt; rw [hkb, hkb2, hb, hys]; simp))
      subst hys
      clear hkb hkb2 hfin
      have cx := hA.cx
      go_wp2_with (first
        | (go_at_call 67; refine (fmtInt_any hA.gl x hx.out.1 hx.out.2).mono ?_; rintro e w7 ⟨rfl, f7⟩; have t7 := hA.blw f7; have cx7 := t7.cx; clear cx)
        | (at_mapUpdate; refine wpList_mapUpdate_own _ rfl _ _ _ 97 rfl 9 9 law9 Tryz.underlying97 _ (N + 3) (n + 1) _ rfl t7.m (by unfold maxLen; omega) _ _ _ rfl rfl (key9 _ (by unfold maxLen; decide)) _ [] (plain9 _ (by have := dec_size x hx.out.1 hx.out.2; unfold maxLen; omega)) ?_; intro w6 hm6 hg6; go_frame))
      go_end0
      refine ⟨rfl, ?_⟩
      rw [hat.out]
      exact t7.put hm6 hg6
    · have hne : (y.toList == (dec x).toList) = false := by
        rw [beq_eq_false_iff_ne]
        intro e
        exact hys (ba_ext (by rw [← Lib.toList_data, ← Lib.toList_data]; exact e))
      have hat := Asd.mk (hfin false (by
        unfold hasAt
        rw [hkb, hkb2, hb]
        simp only [Bool.true_and, beq_eq_false_iff_ne]
        exact fun e => hys (ba_ext e)))
      clear hkb hkb2 hfin hys
      go_wp2_with (go_at_call 67; refine (fmtInt_any hA.gl x hx.out.1 hx.out.2).mono ?_; rintro e w7 ⟨rfl, f7⟩; have t7 := hA.blw f7)
      go_end0
      refine ⟨rfl, ?_⟩
      rw [hat.out]
      exact t7.mono (by omega)
  · have hb' : Maps.has R (sK ⟨#[]⟩) = false := by simpa using hb
    have hat := Asd.mk (hfin false (by unfold hasAt; rw [hkb2, hb']; rfl))
    clear hkb hkb2 hfin hb
    go_wp2_with fail
    go_end0
    refine ⟨rfl, ?_⟩
    rw [hat.out]
    exact hA.mono (by omega)
set_option maxRecDepth 100000 in
set_option maxHeartbeats 2000000 in
theorem vNum_uid8 (h : Af G B H R rn N n st w0 w) (x : Int) (name : ByteArray) (hx : -9223372036854775808 ≤ x ∧ x ≤ 9223372036854775807) (hn : n + 2 < 1073741824) (hname : name.size ≤ 100) :
    Calls Tryz.prog 64 #[.int .i64 x, .int .i64 8, .string name, .string ⟨#[117, 105, 100]⟩, .pointer (some ⟨N + 6, 0, none⟩), .pointer (some ⟨N + 1, 0, none⟩), .pointer (some ⟨N + 4, 0, none⟩), .pointer (some ⟨N + 5, 0, none⟩), .pointer (some ⟨N + 2, 0, none⟩), .pointer (some ⟨N, 0, none⟩)] w
      fun e w' => e = .returned (.tuple #[]) ∧ Af G B H R rn N (n + 2) (afNum R false x kUidB 8 st) w0 w' := by
  replace hx := Asd.mk hx
  obtain ⟨sg, hsg⟩ : ∃ b, Asd (fitB 8 x = b) := ⟨_, ⟨rfl⟩⟩
  obtain ⟨sb, hsb⟩ : ∃ b, Asd (fitO 8 x = b) := ⟨_, ⟨rfl⟩⟩
  obtain ⟨x6, c6⟩ := h.cs6
  have f6 := h.fz.2.2.2.1
  go_enter Tryz.func64, Tryz.ntmps64
  go_upto_region 0 with fail
  go_cut [19] (fun s19 wx => s19 = .bool (!sg) ∧ wx = w)
  case first =>
    go_wp2_with (go_at_call 65; refine (fitsInBase256_8 x _).mono ?_; rintro e w' ⟨rfl, rfl⟩; rw [hsg.out])
    go_meet
    case rel => exact ⟨rfl, rfl⟩
  case rest =>
  obtain ⟨rfl, rfl⟩ := hcut
  go_upto_if 19 with fail
  go_cut [] (fun wx => Af G B H R rn N n (st.noG (!sg)) w0 wx)
  case first =>
    cases sg
    · go_wp2_with (go_at_call 61; refine ((h.set6 _).strike 8 st.u st.p false (fm_not8 _ _ _)).mono ?_; rintro e w2 ⟨rfl, t2⟩)
      go_meet
      case rel => rw [Bool.not_false, AfS.noG_true]; exact t2
    · go_wp2_with fail
      go_meet
      case rel => rw [Bool.not_true, AfS.noG_false]; exact h
  case rest =>
  clear c6 f6
  have hA := hcut
  clear hcut
  go_upto_region 3 with fail
  go_cut [26] (fun s26 wx => s26 = .bool (!sb) ∧ Af G B H R rn N n (st.noG (!sg)) w0 wx)
  case first =>
    go_wp2_with (go_at_call 66; refine (fitsInOctal_8 x _).mono ?_; rintro e w' ⟨rfl, rfl⟩; rw [hsb.out])
    go_meet
    case rel => exact ⟨rfl, hA⟩
  case rest =>
  clear hA
  obtain ⟨rfl, hA⟩ := hcut
  go_upto_if 26 with fail
  go_cut [] (fun wx => Af G B H R rn N (n + 1) ((((st.noG (!sg)).noU (!sb)).noP (!sb && false)).putIf (!sb && !false) kUidB (dec x)) w0 wx)
  case first =>
    cases sb
    · obtain ⟨x4, c4⟩ := hA.cs4
      have g4 := hA.fz.2.1
      go_upto_region 9 with (first
        | (go_at_call 61; refine ((hA.set4 _).strike 2 false (st.noG (!sg)).p (st.noG (!sg)).g (fm_not2 _ _ _)).mono ?_; rintro e w5 ⟨rfl, t5⟩; have cx5 := t5.cx; clear c4 g4))
      go_region_with (go_at_call 67; refine (fmtInt_any t5.drew.gl x hx.out.1 hx.out.2).mono ?_; rintro e w7 ⟨rfl, f7⟩; have t7 := t5.drew.blw f7; have cx7 := t7.cx; obtain ⟨w8, hrun8, hm8, hg8⟩ := World.ownsMap.update t7.m law9 Tryz.underlying97 (by unfold maxLen; omega) (key9 ⟨#[117, 105, 100]⟩ (by unfold maxLen; decide)) (plain9 (dec x) (by have := dec_size x hx.out.1 hx.out.2; unfold maxLen; omega)))
      all_goals (go_wp2_with fail; go_meet)
      all_goals (rw [show (!false) = true from rfl, Bool.true_and, Bool.true_and, AfS.noU_true, AfS.noP_false]; exact t7.put hm8 hg8)
    · go_wp2_with fail
      go_meet
      case rel => rw [show (!true) = false from rfl, Bool.false_and, Bool.false_and, AfS.noU_false, AfS.noP_false]; exact hA.mono (by omega)
  case rest =>
  clear hA
  have hA := hcut
  clear hcut
  have ch := hA.hd (j := 18) (v := H.recs) rfl
  go_upto_region 11 with (at_lookup; refine wpList_lookup_rec _ rfl _ _ rfl _ N rn R hA.rc rfl _ rfl (by unfold maxLen; decide) ?_; intro y hy hy2)
  have hkb : sget R kUidB.data.toList = y.data.toList := hy.symm
  have hkb2 : Maps.has R (sK kUidB) = Maps.has R (sK ⟨#[117, 105, 100]⟩) := rfl
  have hfin : ∀ b, hasAt R kUidB (dec x) = b → afNum R false x kUidB 8 st = ((((st.noG (!sg)).noU (!sb)).noP (!sb && false)).putIf (!sb && !false) kUidB (dec x)).putIf b kUidB (dec x) := by
    intro b hb
    unfold afNum
    rw [hb, hsg.out, hsb.out]
  clear hy
  by_cases hb : Maps.has R (sK ⟨#[117, 105, 100]⟩) = true
  · by_cases hys : y = dec x
    · have hat := Asd.mk (hfin true (by unfold hasAt; rw [hkb, hkb2, hb, hys]; simp))
      subst hys
      clear hkb hkb2 hfin
      have cx := hA.cx
      go_wp2_with (first
        | (go_at_call 67; refine (fmtInt_any hA.gl x hx.out.1 hx.out.2).mono ?_; rintro e w7 ⟨rfl, f7⟩; have t7 := hA.blw f7; have cx7 := t7.cx; clear cx)
        | (at_mapUpdate; refine wpList_mapUpdate_own _ rfl _ _ _ 97 rfl 9 9 law9 Tryz.underlying97 _ (N + 3) (n + 1) _ rfl t7.m (by unfold maxLen; omega) _ _ _ rfl rfl (key9 _ (by unfold maxLen; decide)) _ [] (plain9 _ (by have := dec_size x hx.out.1 hx.out.2; unfold maxLen; omega)) ?_; intro w6 hm6 hg6; go_frame))
      go_end0
      refine ⟨rfl, ?_⟩
      rw [hat.out]
      exact t7.put hm6 hg6
    · have hne : (y.toList == (dec x).toList) = false := by
        rw [beq_eq_false_iff_ne]
        intro e
        exact hys (ba_ext (by rw [← Lib.toList_data, ← Lib.toList_data]; exact e))
      have hat := Asd.mk (hfin false (by
        unfold hasAt
        rw [hkb, hkb2, hb]
        simp only [Bool.true_and, beq_eq_false_iff_ne]
        exact fun e => hys (ba_ext e)))
      clear hkb hkb2 hfin hys
      go_wp2_with (go_at_call 67; refine (fmtInt_any hA.gl x hx.out.1 hx.out.2).mono ?_; rintro e w7 ⟨rfl, f7⟩; have t7 := hA.blw f7)
      go_end0
      refine ⟨rfl, ?_⟩
      rw [hat.out]
      exact t7.mono (by omega)
  · have hb' : Maps.has R (sK ⟨#[117, 105, 100]⟩) = false := by simpa using hb
    have hat := Asd.mk (hfin false (by unfold hasAt; rw [hkb2, hb']; rfl))
    clear hkb hkb2 hfin hb
    go_wp2_with fail
    go_end0
    refine ⟨rfl, ?_⟩
    rw [hat.out]
    exact hA.mono (by omega)
set_option maxRecDepth 100000 in
set_option maxHeartbeats 2000000 in
theorem vNum_gid8 (h : Af G B H R rn N n st w0 w) (x : Int) (name : ByteArray) (hx : -9223372036854775808 ≤ x ∧ x ≤ 9223372036854775807) (hn : n + 2 < 1073741824) (hname : name.size ≤ 100) :
    Calls Tryz.prog 64 #[.int .i64 x, .int .i64 8, .string name, .string ⟨#[103, 105, 100]⟩, .pointer (some ⟨N + 6, 0, none⟩), .pointer (some ⟨N + 1, 0, none⟩), .pointer (some ⟨N + 4, 0, none⟩), .pointer (some ⟨N + 5, 0, none⟩), .pointer (some ⟨N + 2, 0, none⟩), .pointer (some ⟨N, 0, none⟩)] w
      fun e w' => e = .returned (.tuple #[]) ∧ Af G B H R rn N (n + 2) (afNum R false x kGidB 8 st) w0 w' := by
  replace hx := Asd.mk hx
  obtain ⟨sg, hsg⟩ : ∃ b, Asd (fitB 8 x = b) := ⟨_, ⟨rfl⟩⟩
  obtain ⟨sb, hsb⟩ : ∃ b, Asd (fitO 8 x = b) := ⟨_, ⟨rfl⟩⟩
  obtain ⟨x6, c6⟩ := h.cs6
  have f6 := h.fz.2.2.2.1
  go_enter Tryz.func64, Tryz.ntmps64
  go_upto_region 0 with fail
  go_cut [19] (fun s19 wx => s19 = .bool (!sg) ∧ wx = w)
  case first =>
    go_wp2_with (go_at_call 65; refine (fitsInBase256_8 x _).mono ?_; rintro e w' ⟨rfl, rfl⟩; rw [hsg.out])
    go_meet
    case rel => exact ⟨rfl, rfl⟩
  case rest =>
  obtain ⟨rfl, rfl⟩ := hcut
  go_upto_if 19 with fail
  go_cut [] (fun wx => Af G B H R rn N n (st.noG (!sg)) w0 wx)
  case first =>
    cases sg
    · go_wp2_with (go_at_call 61; refine ((h.set6 _).strike 8 st.u st.p false (fm_not8 _ _ _)).mono ?_; rintro e w2 ⟨rfl, t2⟩)
      go_meet
      case rel => rw [Bool.not_false, AfS.noG_true]; exact t2
    · go_wp2_with fail
      go_meet
      case rel => rw [Bool.not_true, AfS.noG_false]; exact h
  case rest =>
  clear c6 f6
  have hA := hcut
  clear hcut
  go_upto_region 3 with fail
  go_cut [26] (fun s26 wx => s26 = .bool (!sb) ∧ Af G B H R rn N n (st.noG (!sg)) w0 wx)
  case first =>
    go_wp2_with (go_at_call 66; refine (fitsInOctal_8 x _).mono ?_; rintro e w' ⟨rfl, rfl⟩; rw [hsb.out])
    go_meet
    case rel => exact ⟨rfl, hA⟩
  case rest =>
  clear hA
  obtain ⟨rfl, hA⟩ := hcut
  go_upto_if 26 with fail
  go_cut [] (fun wx => Af G B H R rn N (n + 1) ((((st.noG (!sg)).noU (!sb)).noP (!sb && false)).putIf (!sb && !false) kGidB (dec x)) w0 wx)
  case first =>
    cases sb
    · obtain ⟨x4, c4⟩ := hA.cs4
      have g4 := hA.fz.2.1
      go_upto_region 9 with (first
        | (go_at_call 61; refine ((hA.set4 _).strike 2 false (st.noG (!sg)).p (st.noG (!sg)).g (fm_not2 _ _ _)).mono ?_; rintro e w5 ⟨rfl, t5⟩; have cx5 := t5.cx; clear c4 g4))
      go_region_with (go_at_call 67; refine (fmtInt_any t5.drew.gl x hx.out.1 hx.out.2).mono ?_; rintro e w7 ⟨rfl, f7⟩; have t7 := t5.drew.blw f7; have cx7 := t7.cx; obtain ⟨w8, hrun8, hm8, hg8⟩ := World.ownsMap.update t7.m law9 Tryz.underlying97 (by unfold maxLen; omega) (key9 ⟨#[103, 105, 100]⟩ (by unfold maxLen; decide)) (plain9 (dec x) (by have := dec_size x hx.out.1 hx.out.2; unfold maxLen; omega)))
      all_goals (go_wp2_with fail; go_meet)
      all_goals (rw [show (!false) = true from rfl, Bool.true_and, Bool.true_and, AfS.noU_true, AfS.noP_false]; exact t7.put hm8 hg8)
    · go_wp2_with fail
      go_meet
      case rel => rw [show (!true) = false from rfl, Bool.false_and, Bool.false_and, AfS.noU_false, AfS.noP_false]; exact hA.mono (by omega)
  case rest =>
  clear hA
  have hA := hcut
  clear hcut
  have ch := hA.hd (j := 18) (v := H.recs) rfl
  go_upto_region 11 with (at_lookup; refine wpList_lookup_rec _ rfl _ _ rfl _ N rn R hA.rc rfl _ rfl (by unfold maxLen; decide) ?_; intro y hy hy2)
  have hkb : sget R kGidB.data.toList = y.data.toList := hy.symm
  have hkb2 : Maps.has R (sK kGidB) = Maps.has R (sK ⟨#[103, 105, 100]⟩) := rfl
  have hfin : ∀ b, hasAt R kGidB (dec x) = b → afNum R false x kGidB 8 st = ((((st.noG (!sg)).noU (!sb)).noP (!sb && false)).putIf (!sb && !false) kGidB (dec x)).putIf b kGidB (dec x) := by
    intro b hb
    unfold afNum
    rw [hb, hsg.out, hsb.out]
  clear hy
  by_cases hb : Maps.has R (sK ⟨#[103, 105, 100]⟩) = true
  · by_cases hys : y = dec x
    · have hat := Asd.mk (hfin true (by unfold hasAt; rw [hkb, hkb2, hb, hys]; simp))
      subst hys
      clear hkb hkb2 hfin
      have cx := hA.cx
      go_wp2_with (first
        | (go_at_call 67; refine (fmtInt_any hA.gl x hx.out.1 hx.out.2).mono ?_; rintro e w7 ⟨rfl, f7⟩; have t7 := hA.blw f7; have cx7 := t7.cx; clear cx)
        | (at_mapUpdate; refine wpList_mapUpdate_own _ rfl _ _ _ 97 rfl 9 9 law9 Tryz.underlying97 _ (N + 3) (n + 1) _ rfl t7.m (by unfold maxLen; omega) _ _ _ rfl rfl (key9 _ (by unfold maxLen; decide)) _ [] (plain9 _ (by have := dec_size x hx.out.1 hx.out.2; unfold maxLen; omega)) ?_; intro w6 hm6 hg6; go_frame))
      go_end0
      refine ⟨rfl, ?_⟩
      rw [hat.out]
      exact t7.put hm6 hg6
    · have hne : (y.toList == (dec x).toList) = false := by
        rw [beq_eq_false_iff_ne]
        intro e
        exact hys (ba_ext (by rw [← Lib.toList_data, ← Lib.toList_data]; exact e))
      have hat := Asd.mk (hfin false (by
        unfold hasAt
        rw [hkb, hkb2, hb]
        simp only [Bool.true_and, beq_eq_false_iff_ne]
        exact fun e => hys (ba_ext e)))
      clear hkb hkb2 hfin hys
      go_wp2_with (go_at_call 67; refine (fmtInt_any hA.gl x hx.out.1 hx.out.2).mono ?_; rintro e w7 ⟨rfl, f7⟩; have t7 := hA.blw f7)
      go_end0
      refine ⟨rfl, ?_⟩
      rw [hat.out]
      exact t7.mono (by omega)
  · have hb' : Maps.has R (sK ⟨#[103, 105, 100]⟩) = false := by simpa using hb
    have hat := Asd.mk (hfin false (by unfold hasAt; rw [hkb2, hb']; rfl))
    clear hkb hkb2 hfin hb
    go_wp2_with fail
    go_end0
    refine ⟨rfl, ?_⟩
    rw [hat.out]
    exact hA.mono (by omega)
set_option maxRecDepth 100000 in
set_option maxHeartbeats 2000000 in
theorem vNum_size12 (h : Af G B H R rn N n st w0 w) (x : Int) (name : ByteArray) (hx : -9223372036854775808 ≤ x ∧ x ≤ 9223372036854775807) (hn : n + 2 < 1073741824) (hname : name.size ≤ 100) :
    Calls Tryz.prog 64 #[.int .i64 x, .int .i64 12, .string name, .string ⟨#[115, 105, 122, 101]⟩, .pointer (some ⟨N + 6, 0, none⟩), .pointer (some ⟨N + 1, 0, none⟩), .pointer (some ⟨N + 4, 0, none⟩), .pointer (some ⟨N + 5, 0, none⟩), .pointer (some ⟨N + 2, 0, none⟩), .pointer (some ⟨N, 0, none⟩)] w
      fun e w' => e = .returned (.tuple #[]) ∧ Af G B H R rn N (n + 2) (afNum R false x kSizeB 12 st) w0 w' := by
  replace hx := Asd.mk hx
  obtain ⟨sg, hsg⟩ : ∃ b, Asd (fitB 12 x = b) := ⟨_, ⟨rfl⟩⟩
  obtain ⟨sb, hsb⟩ : ∃ b, Asd (fitO 12 x = b) := ⟨_, ⟨rfl⟩⟩
  obtain ⟨x6, c6⟩ := h.cs6
  have f6 := h.fz.2.2.2.1
  go_enter Tryz.func64, Tryz.ntmps64
  go_upto_region 0 with fail
  go_cut [19] (fun s19 wx => s19 = .bool (!sg) ∧ wx = w)
  case first =>
    go_wp2_with (go_at_call 65; refine (fitsInBase256_12 x _).mono ?_; rintro e w' ⟨rfl, rfl⟩; rw [hsg.out])
    go_meet
    case rel => exact ⟨rfl, rfl⟩
  case rest =>
  obtain ⟨rfl, rfl⟩ := hcut
  go_upto_if 19 with fail
  go_cut [] (fun wx => Af G B H R rn N n (st.noG (!sg)) w0 wx)
  case first =>
    cases sg
    · go_wp2_with (go_at_call 61; refine ((h.set6 _).strike 8 st.u st.p false (fm_not8 _ _ _)).mono ?_; rintro e w2 ⟨rfl, t2⟩)
      go_meet
      case rel => rw [Bool.not_false, AfS.noG_true]; exact t2
    · go_wp2_with fail
      go_meet
      case rel => rw [Bool.not_true, AfS.noG_false]; exact h
  case rest =>
  clear c6 f6
  have hA := hcut
  clear hcut
  go_upto_region 3 with fail
  go_cut [26] (fun s26 wx => s26 = .bool (!sb) ∧ Af G B H R rn N n (st.noG (!sg)) w0 wx)
  case first =>
    go_wp2_with (go_at_call 66; refine (fitsInOctal_12 x _).mono ?_; rintro e w' ⟨rfl, rfl⟩; rw [hsb.out])
    go_meet
    case rel => exact ⟨rfl, hA⟩
  case rest =>
  clear hA
  obtain ⟨rfl, hA⟩ := hcut
  go_upto_if 26 with fail
  go_cut [] (fun wx => Af G B H R rn N (n + 1) ((((st.noG (!sg)).noU (!sb)).noP (!sb && false)).putIf (!sb && !false) kSizeB (dec x)) w0 wx)
  case first =>
    cases sb
    · obtain ⟨x4, c4⟩ := hA.cs4
      have g4 := hA.fz.2.1
      go_upto_region 9 with (first
        | (go_at_call 61; refine ((hA.set4 _).strike 2 false (st.noG (!sg)).p (st.noG (!sg)).g (fm_not2 _ _ _)).mono ?_; rintro e w5 ⟨rfl, t5⟩; have cx5 := t5.cx; clear c4 g4))
      go_region_with (go_at_call 67; refine (fmtInt_any t5.drew.gl x hx.out.1 hx.out.2).mono ?_; rintro e w7 ⟨rfl, f7⟩; have t7 := t5.drew.blw f7; have cx7 := t7.cx; obtain ⟨w8, hrun8, hm8, hg8⟩ := World.ownsMap.update t7.m law9 Tryz.underlying97 (by unfold maxLen; omega) (key9 ⟨#[115, 105, 122, 101]⟩ (by unfold maxLen; decide)) (plain9 (dec x) (by have := dec_size x hx.out.1 hx.out.2; unfold maxLen; omega)))
      all_goals (go_wp2_with fail; go_meet)
      all_goals (rw [show (!false) = true from rfl, Bool.true_and, Bool.true_and, AfS.noU_true, AfS.noP_false]; exact t7.put hm8 hg8)
    · go_wp2_with fail
      go_meet
      case rel => rw [show (!true) = false from rfl, Bool.false_and, Bool.false_and, AfS.noU_false, AfS.noP_false]; exact hA.mono (by omega)
  case rest =>
  clear hA
  have hA := hcut
  clear hcut
  have ch := hA.hd (j := 18) (v := H.recs) rfl
  go_upto_region 11 with (at_lookup; refine wpList_lookup_rec _ rfl _ _ rfl _ N rn R hA.rc rfl _ rfl (by unfold maxLen; decide) ?_; intro y hy hy2)
  have hkb : sget R kSizeB.data.toList = y.data.toList := hy.symm
  have hkb2 : Maps.has R (sK kSizeB) = Maps.has R (sK ⟨#[115, 105, 122, 101]⟩) := rfl
  have hfin : ∀ b, hasAt R kSizeB (dec x) = b → afNum R false x kSizeB 12 st = ((((st.noG (!sg)).noU (!sb)).noP (!sb && false)).putIf (!sb && !false) kSizeB (dec x)).putIf b kSizeB (dec x) := by
    intro b hb
    unfold afNum
    rw [hb, hsg.out, hsb.out]
  clear hy
  by_cases hb : Maps.has R (sK ⟨#[115, 105, 122, 101]⟩) = true
  · by_cases hys : y = dec x
    · have hat := Asd.mk (hfin true (by unfold hasAt; rw [hkb, hkb2, hb, hys]; simp))
      subst hys
      clear hkb hkb2 hfin
      have cx := hA.cx
      go_wp2_with (first
        | (go_at_call 67; refine (fmtInt_any hA.gl x hx.out.1 hx.out.2).mono ?_; rintro e w7 ⟨rfl, f7⟩; have t7 := hA.blw f7; have cx7 := t7.cx; clear cx)
        | (at_mapUpdate; refine wpList_mapUpdate_own _ rfl _ _ _ 97 rfl 9 9 law9 Tryz.underlying97 _ (N + 3) (n + 1) _ rfl t7.m (by unfold maxLen; omega) _ _ _ rfl rfl (key9 _ (by unfold maxLen; decide)) _ [] (plain9 _ (by have := dec_size x hx.out.1 hx.out.2; unfold maxLen; omega)) ?_; intro w6 hm6 hg6; go_frame))
      go_end0
      refine ⟨rfl, ?_⟩
      rw [hat.out]
      exact t7.put hm6 hg6
    · have hne : (y.toList == (dec x).toList) = false := by
        rw [beq_eq_false_iff_ne]
        intro e
        exact hys (ba_ext (by rw [← Lib.toList_data, ← Lib.toList_data]; exact e))
      have hat := Asd.mk (hfin false (by
        unfold hasAt
        rw [hkb, hkb2, hb]
        simp only [Bool.true_and, beq_eq_false_iff_ne]
        exact fun e => hys (ba_ext e)))
      clear hkb hkb2 hfin hys
      go_wp2_with (go_at_call 67; refine (fmtInt_any hA.gl x hx.out.1 hx.out.2).mono ?_; rintro e w7 ⟨rfl, f7⟩; have t7 := hA.blw f7)
      go_end0
      refine ⟨rfl, ?_⟩
      rw [hat.out]
      exact t7.mono (by omega)
  · have hb' : Maps.has R (sK ⟨#[115, 105, 122, 101]⟩) = false := by simpa using hb
    have hat := Asd.mk (hfin false (by unfold hasAt; rw [hkb2, hb']; rfl))
    clear hkb hkb2 hfin hb
    go_wp2_with fail
    go_end0
    refine ⟨rfl, ?_⟩
    rw [hat.out]
    exact hA.mono (by omega)
end
def kMtimeB : ByteArray := ⟨#[109, 116, 105, 109, 101]⟩
def kAtimeB : ByteArray := ⟨#[97, 116, 105, 109, 101]⟩
def kCtimeB : ByteArray := ⟨#[99, 116, 105, 109, 101]⟩
def AfS.wish (st : AfS) (b : Bool) : AfS := ⟨st.u, st.p, st.g, st.pref || b, st.D⟩
def tmNeed (mt : Bool) (n : Nat) (x : Int) : Bool := !mt || !(fitO 12 (tmUnix x)) || !(decide (n = 0))
def afTime1 (mt : Bool) (n : Nat) (x : Int) (key : ByteArray) (st : AfS) : AfS :=
  (((st.noG (!fitB 12 (tmUnix x))).noU (!(mt && fitO 12 (tmUnix x)))).wish (tmNeed mt n x)).putIf (tmNeed mt n x) key (ptime n x)
def afTime (R : DataW Unit) (mt : Bool) (n : Nat) (x : Int) (key : ByteArray) (st : AfS) : AfS :=
  if isZ n x then st else (afTime1 mt n x key st).putIf (hasAt R key (ptime n x)) key (ptime n x)
theorem AfS.wish_false (st : AfS) : st.wish false = st := by cases st; simp [AfS.wish]
theorem AfS.wish_true (st : AfS) : st.wish true = ⟨st.u, st.p, st.g, true, st.D⟩ := by cases st; simp [AfS.wish]
/-- A time beside the variables, in a block of its own. -/
structure Ab (G : GlP) (B : Nat) (H : Hd) (R : DataW Unit) (rn N n : Nat) (st : AfS) (w0 : World) (K tn : Nat) (tx : Int) (w : World) : Prop where
  a : Af G B H R rn N n st w0 w
  b : w.heap[K]? = some (.cells #[.int .u64 tn, .int .i64 tx] 96 (0, 0))
  l : N + 7 < K
section
variable {G : GlP} {B : Nat} {H : Hd} {R : DataW Unit} {rn N n : Nat} {st : AfS} {w0 w w' : World} {K tn : Nat} {tx : Int}
theorem Ab.c0 (h : Ab G B H R rn N n st w0 K tn tx w) : w.cell? ⟨K, 0, none⟩ = some (.int .u64 tn) := cell_blk (C := [_, .int .i64 tx]) h.b rfl
theorem Ab.c1 (h : Ab G B H R rn N n st w0 K tn tx w) : w.cell? ⟨K, 1, none⟩ = some (.int .i64 tx) := cell_blk (C := [.int .u64 tn, _]) h.b rfl
theorem Ab.blw (h : Ab G B H R rn N n st w0 K tn tx w) (hb : Below w.heap.size w w') : Ab G B H R rn N n st w0 K tn tx w' := ⟨h.a.blw hb, blk_below h.b hb, h.l⟩
theorem Ab.drew (h : Ab G B H R rn N n st w0 K tn tx w) : Ab G B H R rn N n st w0 K tn tx w.drew := ⟨h.a.drew, h.b, h.l⟩
theorem Ab.set4 (h : Ab G B H R rn N n st w0 K tn tx w) (v : ByteArray) : Ab G B H R rn N n st w0 K tn tx (w.setCell ⟨N + 4, 0, none⟩ (.string v)) := ⟨h.a.set4 v, (kset w (N + 4) 0 _).get h.b (by have := h.l; omega), h.l⟩
theorem Ab.set6 (h : Ab G B H R rn N n st w0 K tn tx w) (v : ByteArray) : Ab G B H R rn N n st w0 K tn tx (w.setCell ⟨N + 6, 0, none⟩ (.string v)) := ⟨h.a.set6 v, (kset w (N + 6) 0 _).get h.b (by have := h.l; omega), h.l⟩
theorem Ab.setP (h : Ab G B H R rn N n st w0 K tn tx w) (q : Bool) : Ab G B H R rn N n ⟨st.u, st.p, st.g, q, st.D⟩ w0 K tn tx (w.setCell ⟨N + 7, 0, none⟩ (.bool q)) := ⟨h.a.setP q, (kset w (N + 7) 0 _).get h.b (by have := h.l; omega), h.l⟩
theorem Ab.strike (h : Ab G B H R rn N n st w0 K tn tx w) (k : Int) (u p g : Bool) (hk : bits .andNot .i64 (fm st.u st.p st.g) k = fm u p g) :
    Calls Tryz.prog 61 #[.pointer (some ⟨N + 1, 0, none⟩), .int .i64 k] w fun e w' => e = .returned (.tuple #[]) ∧ Ab G B H R rn N n ⟨u, p, g, st.pref, st.D⟩ w0 K tn tx w' := by
  refine (mustNotBe_any _ _ _ _ h.a.cf h.a.fz.1).mono ?_
  rintro e w' ⟨rfl, rfl⟩
  exact ⟨rfl, by rw [hk]; exact h.a.setF u p g, (kset w (N + 1) 0 _).get h.b (by have := h.l; omega), h.l⟩
theorem Af.boxed (h : Af G B H R rn N n st w0 w) (tn : Nat) (tx : Int) : Ab G B H R rn N n st w0 w.heap.size tn tx (w.alloc (.cells #[.int .u64 tn, .int .i64 tx] 96 (0, 0))) :=
  ⟨h.blw ((Below.refl _ _).alloc (Nat.le_refl _) _), by show (w.heap.push _)[w.heap.size]? = _; exact Array.getElem?_push_size, h.lt⟩
set_option maxRecDepth 100000 in
set_option maxHeartbeats 4000000 in
theorem vTime_mtime (h : Af G B H R rn N n st w0 w) (tn : Nat) (tx : Int) (name : ByteArray) (htn : tn < 1000000000) (hn : n + 2 < 1073741824) (hname : name.size ≤ 100) :
    Calls Tryz.prog 68 #[tmV tn tx, .int .i64 12, .string name, .string ⟨#[109, 116, 105, 109, 101]⟩, .pointer (some ⟨N + 6, 0, none⟩), .pointer (some ⟨N + 1, 0, none⟩), .pointer (some ⟨N + 4, 0, none⟩), .pointer (some ⟨N + 7, 0, none⟩), .pointer (some ⟨N + 5, 0, none⟩), .pointer (some ⟨N + 2, 0, none⟩), .pointer (some ⟨N, 0, none⟩)] w
      fun e w' => e = .returned (.tuple #[]) ∧ Af G B H R rn N (n + 2) (afTime R true tn tx kMtimeB st) w0 w' := by
  have hZ := fun W => isZero_any tn tx W
  have hT := fun W => tUnix_any tn tx W (by omega)
  have hN := fun W => nano_any tn tx W (by omega)
  have hP := fun {W} (hg : Gl G B W) => paxTime_any hg tn tx htn
  unfold tmV at hZ hT hN hP
  replace hZ := Asd.mk hZ
  replace hT := Asd.mk hT
  replace hN := Asd.mk hN
  replace hP := Asd.mk @hP
  have hpt := Asd.mk (ptime_size tn tx htn)
  have hbx := h.boxed tn tx
  obtain ⟨K, hK⟩ : ∃ K, Asd (K = w.heap.size) := ⟨_, ⟨rfl⟩⟩
  obtain ⟨wb, hwb⟩ : ∃ wb, Asd (wb = w.alloc (.cells #[.int .u64 tn, .int .i64 tx] 96 (0, 0))) := ⟨_, ⟨rfl⟩⟩
  rw [← hK.out, ← hwb.out] at hbx
  unfold tmV
  by_cases hz : isZ tn tx = true
  · have hz3 : Asd ((decide (tn = 0) && decide (tx = 0)) = true) := Asd.mk hz
    have hzz := Asd.mk hz
    clear hz
    go_enter Tryz.func68, Tryz.ntmps68
    go_wp2_with (go_at_call 69; (with_reducible refine (hZ.out _).mono ?_); rw [hz3.out]; rintro e w1 ⟨rfl, f1⟩)
    refine bodyPost_ret (results_none rfl _ _ _) rfl ?_
    refine ⟨rfl, ?_⟩
    unfold afTime
    rw [if_pos hzz.out]
    exact ((h.blw ((Below.refl _ _).alloc (Nat.le_refl _) _)).blw f1).mono (by omega)
  replace hz : isZ tn tx = false := by simpa using hz
  have hz3 : Asd ((decide (tn = 0) && decide (tx = 0)) = false) := Asd.mk hz
  have hfin : Asd (afTime R true tn tx kMtimeB st = (afTime1 true tn tx kMtimeB st).putIf (hasAt R kMtimeB (ptime tn tx)) kMtimeB (ptime tn tx)) := ⟨by unfold afTime; rw [hz]; rfl⟩
  clear hz
  obtain ⟨sg, hsg⟩ : ∃ b, Asd (fitB 12 (tmUnix tx) = b) := ⟨_, ⟨rfl⟩⟩
  obtain ⟨so, hso⟩ : ∃ b, Asd (fitO 12 (tmUnix tx) = b) := ⟨_, ⟨rfl⟩⟩
  go_enter Tryz.func68, Tryz.ntmps68
  go_upto_region 1 with fail
  rw [← hK.out, ← hwb.out]
  have k0 := hbx.c0
  have k1 := hbx.c1
  go_upto_region 2 with (go_at_call 69; (with_reducible refine (hZ.out _).mono ?_); rw [hz3.out]; rintro e w1 ⟨rfl, f1⟩; have t1 := hbx.blw f1; have k10 := t1.c0; have k11 := t1.c1)
  go_cut [26] (fun s26 wx => s26 = .bool (!sg) ∧ Ab G B H R rn N n st w0 K tn tx wx)
  case first =>
    go_wp2_with (first
      | (go_at_call 70; (with_reducible refine (hT.out _).mono ?_); rintro e w2 ⟨rfl, f2⟩; have t2 := t1.blw f2)
      | (go_at_call 65; refine (fitsInBase256_12 (tmUnix tx) _).mono ?_; rintro e w' ⟨rfl, rfl⟩; rw [hsg.out]))
    go_meet
    case rel => exact ⟨rfl, t2⟩
  case rest =>
  clear t1 k10 k11 f1 k0 k1 hbx
  obtain ⟨rfl, hA⟩ := hcut
  obtain ⟨x6, c6⟩ := hA.a.cs6
  have f6 := hA.a.fz.2.2.2.1
  go_upto_if 26 with fail
  go_cut [] (fun wx => Ab G B H R rn N n (st.noG (!sg)) w0 K tn tx wx)
  case first =>
    cases sg
    · go_wp2_with (go_at_call 61; refine ((hA.set6 _).strike 8 st.u st.p false (fm_not8 _ _ _)).mono ?_; rintro e w2 ⟨rfl, t2⟩)
      go_meet
      case rel => rw [Bool.not_false, AfS.noG_true]; exact t2
    · go_wp2_with fail
      go_meet
      case rel => rw [Bool.not_true, AfS.noG_false]; exact hA
  case rest =>
  clear c6 f6 hA
  have hA := hcut
  clear hcut
  have k0 := hA.c0
  have k1 := hA.c1
  go_upto_region 6 with fail
  go_cut [16] (fun s16 wx => s16 = .bool so ∧ Ab G B H R rn N n (st.noG (!sg)) w0 K tn tx wx)
  case first =>
    go_wp2_with (first
      | (go_at_call 70; (with_reducible refine (hT.out _).mono ?_); rintro e w2 ⟨rfl, f2⟩; have t2 := hA.blw f2)
      | (go_at_call 66; refine (fitsInOctal_12 (tmUnix tx) _).mono ?_; rintro e w' ⟨rfl, rfl⟩; rw [hso.out]))
    go_meet
    case rel => exact ⟨rfl, t2⟩
  case rest =>
  clear hA k0 k1
  obtain ⟨rfl, hA⟩ := hcut
  obtain ⟨x4, c4⟩ := hA.a.cs4
  have g4 := hA.a.fz.2.1
  have k0 := hA.c0
  have k1 := hA.c1
  go_upto_region 7 with fail
  go_cut [16, 44] (fun s16 s44 wx => s16 = .bool so ∧ s44 = .bool (!(true && so)) ∧ Ab G B H R rn N n (st.noG (!sg)) w0 K tn tx wx)
  case first =>
    cases so
    all_goals
      go_wp2_with fail
      go_meet
      case rel => exact ⟨rfl, rfl, hA⟩
  case rest =>
  clear hA c4 g4 k0 k1
  obtain ⟨rfl, rfl, hA⟩ := hcut
  obtain ⟨x4, c4⟩ := hA.a.cs4
  have g4 := hA.a.fz.2.1
  obtain ⟨bu, hbu⟩ : ∃ b, Asd ((!(true && so)) = b) := ⟨_, ⟨rfl⟩⟩
  rw [hbu.out]
  go_upto_if 44 with fail
  go_cut [] (fun wx => Ab G B H R rn N n ((st.noG (!sg)).noU bu) w0 K tn tx wx)
  case first =>
    cases bu
    · go_wp2_with fail
      go_meet
      case rel => rw [AfS.noU_false]; exact hA
    · go_wp2_with (go_at_call 61; refine ((hA.set4 _).strike 2 false (st.noG (!sg)).p (st.noG (!sg)).g (fm_not2 _ _ _)).mono ?_; rintro e w2 ⟨rfl, t2⟩)
      go_meet
      case rel => rw [AfS.noU_true]; exact t2
  case rest =>
  clear hA c4 g4
  have hA := hcut
  clear hcut
  have k0 := hA.c0
  have k1 := hA.c1
  obtain ⟨bz, hbz⟩ : ∃ b, Asd (decide (tn = 0) = b) := ⟨_, ⟨rfl⟩⟩
  go_upto_region 10 with fail
  go_cut [17] (fun s17 wx => s17 = .bool (!bz) ∧ Ab G B H R rn N n ((st.noG (!sg)).noU bu) w0 K tn tx wx)
  case first =>
    go_wp2_with (go_at_call 71; (with_reducible refine (hN.out _).mono ?_); rintro e w2 ⟨rfl, f2⟩; have t2 := hA.blw f2)
    go_meet
    case rel =>
      refine ⟨?_, t2⟩
      rw [← hbz.out]
      congr 1
      by_cases h0 : tn = 0 <;> simp [h0]
  case rest =>
  clear hA k0 k1
  obtain ⟨rfl, hA⟩ := hcut
  obtain ⟨nd, hnd⟩ : ∃ b, Asd (tmNeed true tn tx = b) := ⟨_, ⟨rfl⟩⟩
  have hnd2 : Asd (nd = (!true || !so || !bz)) := ⟨by rw [← hnd.out]; unfold tmNeed; rw [hso.out, hbz.out]⟩
  go_upto_region 11 with fail
  go_cut [16, 17, 59] (fun s16 s17 s59 wx => s16 = .bool so ∧ s17 = .bool (!bz) ∧ s59 = .bool nd ∧ Ab G B H R rn N n ((st.noG (!sg)).noU bu) w0 K tn tx wx)
  case first =>
    cases so
    all_goals
      cases bz
      all_goals
        go_wp2_with fail
        go_meet
        case rel => exact ⟨rfl, rfl, by rw [hnd2.out]; rfl, hA⟩
  case rest =>
  clear hA
  obtain ⟨rfl, rfl, rfl, hA⟩ := hcut
  clear hnd2
  go_upto_if 59 with fail
  go_cut [] (fun wx => Ab G B H R rn N (n + 1) ((((st.noG (!sg)).noU bu).wish nd).putIf nd kMtimeB (ptime tn tx)) w0 K tn tx wx)
  case first =>
    cases nd
    · go_wp2_with fail
      go_meet
      case rel => rw [AfS.wish_false]; exact ⟨hA.a.mono (by omega), hA.b, hA.l⟩
    · have c7 := hA.a.cp
      have g7 := hA.a.fz.2.2.2.2
      go_upto_region 16 with fail
      have t3 := (hA.setP true).drew
      have cx3 := t3.a.cx
      have k30 := t3.c0
      have k31 := t3.c1
      go_region_with (go_at_call 72; (with_reducible refine (hP.out t3.a.gl).mono ?_); rintro e w7 ⟨rfl, f7⟩; have t7 := t3.blw f7; have cx7 := t7.a.cx; obtain ⟨w8, hrun8, hm8, hg8⟩ := World.ownsMap.update t7.a.m law9 Tryz.underlying97 (by unfold maxLen; omega) (key9 ⟨#[109, 116, 105, 109, 101]⟩ (by unfold maxLen; decide)) (plain9 (ptime tn tx) (by have := hpt.out; unfold maxLen; omega)))
      all_goals (go_wp2_with fail; go_meet)
      all_goals (rw [AfS.wish_true]; exact ⟨t7.a.put hm8 hg8, (Kp.of_grown hg8).get t7.b (by have := t7.l; omega), t7.l⟩)
  case rest =>
  clear hA
  have hA := hcut
  clear hcut
  have ch := hA.a.hd (j := 18) (v := H.recs) rfl
  go_upto_region 18 with (at_lookup; refine wpList_lookup_rec _ rfl _ _ rfl _ N rn R hA.a.rc rfl _ rfl (by unfold maxLen; decide) ?_; intro y hy hy2)
  have hkb : sget R kMtimeB.data.toList = y.data.toList := hy.symm
  have hkb2 : Maps.has R (sK kMtimeB) = Maps.has R (sK ⟨#[109, 116, 105, 109, 101]⟩) := rfl
  have hfin2 : ∀ b, hasAt R kMtimeB (ptime tn tx) = b → afTime R true tn tx kMtimeB st = ((((st.noG (!sg)).noU bu).wish nd).putIf nd kMtimeB (ptime tn tx)).putIf b kMtimeB (ptime tn tx) := by
    intro b hb
    rw [hfin.out]
    unfold afTime1
    rw [hb, hsg.out, hso.out, hbu.out, hnd.out]
  clear hy
  have k0 := hA.c0
  have k1 := hA.c1
  by_cases hb : Maps.has R (sK ⟨#[109, 116, 105, 109, 101]⟩) = true
  · by_cases hys : y = ptime tn tx
    · have hat := Asd.mk (hfin2 true (by unfold hasAt; rw [hkb, hkb2, hb, hys]; simp))
      subst hys
      clear hkb hkb2 hfin2
      have cx := hA.a.cx
      go_wp2_with (first
        | (go_at_call 72; (with_reducible refine (hP.out hA.a.gl).mono ?_); rintro e w7 ⟨rfl, f7⟩; have t7 := hA.blw f7; have cx7 := t7.a.cx; clear cx)
        | (at_mapUpdate; refine wpList_mapUpdate_own _ rfl _ _ _ 97 rfl 9 9 law9 Tryz.underlying97 _ (N + 3) (n + 1) _ rfl t7.a.m (by unfold maxLen; omega) _ _ _ rfl rfl (key9 _ (by unfold maxLen; decide)) _ [] (plain9 _ (by have := hpt.out; unfold maxLen; omega)) ?_; intro w6 hm6 hg6; go_frame))
      go_end0
      refine ⟨rfl, ?_⟩
      rw [hat.out]
      exact t7.a.put hm6 hg6
    · have hne : (y.toList == (ptime tn tx).toList) = false := by
        rw [beq_eq_false_iff_ne]
        intro e
        exact hys (ba_ext (by rw [← Lib.toList_data, ← Lib.toList_data]; exact e))
      have hat := Asd.mk (hfin2 false (by
        unfold hasAt
        rw [hkb, hkb2, hb]
        simp only [Bool.true_and, beq_eq_false_iff_ne]
        exact fun e => hys (ba_ext e)))
      clear hkb hkb2 hfin2 hys
      go_wp2_with (go_at_call 72; (with_reducible refine (hP.out hA.a.gl).mono ?_); rintro e w7 ⟨rfl, f7⟩; have t7 := hA.blw f7)
      go_end0
      refine ⟨rfl, ?_⟩
      rw [hat.out]
      exact t7.a.mono (by omega)
  · have hb' : Maps.has R (sK ⟨#[109, 116, 105, 109, 101]⟩) = false := by simpa using hb
    have hat := Asd.mk (hfin2 false (by unfold hasAt; rw [hkb2, hb']; rfl))
    clear hkb hkb2 hfin2 hb
    go_wp2_with fail
    go_end0
    refine ⟨rfl, ?_⟩
    rw [hat.out]
    exact hA.a.mono (by omega)
set_option maxRecDepth 100000 in
set_option maxHeartbeats 4000000 in
theorem vTime_atime (h : Af G B H R rn N n st w0 w) (tn : Nat) (tx : Int) (name : ByteArray) (htn : tn < 1000000000) (hn : n + 2 < 1073741824) (hname : name.size ≤ 100) :
    Calls Tryz.prog 68 #[tmV tn tx, .int .i64 12, .string name, .string ⟨#[97, 116, 105, 109, 101]⟩, .pointer (some ⟨N + 6, 0, none⟩), .pointer (some ⟨N + 1, 0, none⟩), .pointer (some ⟨N + 4, 0, none⟩), .pointer (some ⟨N + 7, 0, none⟩), .pointer (some ⟨N + 5, 0, none⟩), .pointer (some ⟨N + 2, 0, none⟩), .pointer (some ⟨N, 0, none⟩)] w
      fun e w' => e = .returned (.tuple #[]) ∧ Af G B H R rn N (n + 2) (afTime R false tn tx kAtimeB st) w0 w' := by
  have hZ := fun W => isZero_any tn tx W
  have hT := fun W => tUnix_any tn tx W (by omega)
  have hN := fun W => nano_any tn tx W (by omega)
  have hP := fun {W} (hg : Gl G B W) => paxTime_any hg tn tx htn
  unfold tmV at hZ hT hN hP
  replace hZ := Asd.mk hZ
  replace hT := Asd.mk hT
  replace hN := Asd.mk hN
  replace hP := Asd.mk @hP
  have hpt := Asd.mk (ptime_size tn tx htn)
  have hbx := h.boxed tn tx
  obtain ⟨K, hK⟩ : ∃ K, Asd (K = w.heap.size) := ⟨_, ⟨rfl⟩⟩
  obtain ⟨wb, hwb⟩ : ∃ wb, Asd (wb = w.alloc (.cells #[.int .u64 tn, .int .i64 tx] 96 (0, 0))) := ⟨_, ⟨rfl⟩⟩
  rw [← hK.out, ← hwb.out] at hbx
  unfold tmV
  by_cases hz : isZ tn tx = true
  · have hz3 : Asd ((decide (tn = 0) && decide (tx = 0)) = true) := Asd.mk hz
    have hzz := Asd.mk hz
    clear hz
    go_enter Tryz.func68, Tryz.ntmps68
    go_wp2_with (go_at_call 69; (with_reducible refine (hZ.out _).mono ?_); rw [hz3.out]; rintro e w1 ⟨rfl, f1⟩)
    refine bodyPost_ret (results_none rfl _ _ _) rfl ?_
    refine ⟨rfl, ?_⟩
    unfold afTime
    rw [if_pos hzz.out]
    exact ((h.blw ((Below.refl _ _).alloc (Nat.le_refl _) _)).blw f1).mono (by omega)
  replace hz : isZ tn tx = false := by simpa using hz
  have hz3 : Asd ((decide (tn = 0) && decide (tx = 0)) = false) := Asd.mk hz
  have hfin : Asd (afTime R false tn tx kAtimeB st = (afTime1 false tn tx kAtimeB st).putIf (hasAt R kAtimeB (ptime tn tx)) kAtimeB (ptime tn tx)) := ⟨by unfold afTime; rw [hz]; rfl⟩
  clear hz
  obtain ⟨sg, hsg⟩ : ∃ b, Asd (fitB 12 (tmUnix tx) = b) := ⟨_, ⟨rfl⟩⟩
  obtain ⟨so, hso⟩ : ∃ b, Asd (fitO 12 (tmUnix tx) = b) := ⟨_, ⟨rfl⟩⟩
  go_enter Tryz.func68, Tryz.ntmps68
  go_upto_region 1 with fail
  rw [← hK.out, ← hwb.out]
  have k0 := hbx.c0
  have k1 := hbx.c1
  go_upto_region 2 with (go_at_call 69; (with_reducible refine (hZ.out _).mono ?_); rw [hz3.out]; rintro e w1 ⟨rfl, f1⟩; have t1 := hbx.blw f1; have k10 := t1.c0; have k11 := t1.c1)
  go_cut [26] (fun s26 wx => s26 = .bool (!sg) ∧ Ab G B H R rn N n st w0 K tn tx wx)
  case first =>
    go_wp2_with (first
      | (go_at_call 70; (with_reducible refine (hT.out _).mono ?_); rintro e w2 ⟨rfl, f2⟩; have t2 := t1.blw f2)
      | (go_at_call 65; refine (fitsInBase256_12 (tmUnix tx) _).mono ?_; rintro e w' ⟨rfl, rfl⟩; rw [hsg.out]))
    go_meet
    case rel => exact ⟨rfl, t2⟩
  case rest =>
  clear t1 k10 k11 f1 k0 k1 hbx
  obtain ⟨rfl, hA⟩ := hcut
  obtain ⟨x6, c6⟩ := hA.a.cs6
  have f6 := hA.a.fz.2.2.2.1
  go_upto_if 26 with fail
  go_cut [] (fun wx => Ab G B H R rn N n (st.noG (!sg)) w0 K tn tx wx)
  case first =>
    cases sg
    · go_wp2_with (go_at_call 61; refine ((hA.set6 _).strike 8 st.u st.p false (fm_not8 _ _ _)).mono ?_; rintro e w2 ⟨rfl, t2⟩)
      go_meet
      case rel => rw [Bool.not_false, AfS.noG_true]; exact t2
    · go_wp2_with fail
      go_meet
      case rel => rw [Bool.not_true, AfS.noG_false]; exact hA
  case rest =>
  clear c6 f6 hA
  have hA := hcut
  clear hcut
  have k0 := hA.c0
  have k1 := hA.c1
  go_upto_region 6 with fail
  go_cut [16] (fun s16 wx => s16 = .bool so ∧ Ab G B H R rn N n (st.noG (!sg)) w0 K tn tx wx)
  case first =>
    go_wp2_with (first
      | (go_at_call 70; (with_reducible refine (hT.out _).mono ?_); rintro e w2 ⟨rfl, f2⟩; have t2 := hA.blw f2)
      | (go_at_call 66; refine (fitsInOctal_12 (tmUnix tx) _).mono ?_; rintro e w' ⟨rfl, rfl⟩; rw [hso.out]))
    go_meet
    case rel => exact ⟨rfl, t2⟩
  case rest =>
  clear hA k0 k1
  obtain ⟨rfl, hA⟩ := hcut
  obtain ⟨x4, c4⟩ := hA.a.cs4
  have g4 := hA.a.fz.2.1
  have k0 := hA.c0
  have k1 := hA.c1
  go_upto_region 7 with fail
  go_cut [16, 44] (fun s16 s44 wx => s16 = .bool so ∧ s44 = .bool (!(false && so)) ∧ Ab G B H R rn N n (st.noG (!sg)) w0 K tn tx wx)
  case first =>
    cases so
    all_goals
      go_wp2_with fail
      go_meet
      case rel => exact ⟨rfl, rfl, hA⟩
  case rest =>
  clear hA c4 g4 k0 k1
  obtain ⟨rfl, rfl, hA⟩ := hcut
  obtain ⟨x4, c4⟩ := hA.a.cs4
  have g4 := hA.a.fz.2.1
  obtain ⟨bu, hbu⟩ : ∃ b, Asd ((!(false && so)) = b) := ⟨_, ⟨rfl⟩⟩
  rw [hbu.out]
  go_upto_if 44 with fail
  go_cut [] (fun wx => Ab G B H R rn N n ((st.noG (!sg)).noU bu) w0 K tn tx wx)
  case first =>
    cases bu
    · go_wp2_with fail
      go_meet
      case rel => rw [AfS.noU_false]; exact hA
    · go_wp2_with (go_at_call 61; refine ((hA.set4 _).strike 2 false (st.noG (!sg)).p (st.noG (!sg)).g (fm_not2 _ _ _)).mono ?_; rintro e w2 ⟨rfl, t2⟩)
      go_meet
      case rel => rw [AfS.noU_true]; exact t2
  case rest =>
  clear hA c4 g4
  have hA := hcut
  clear hcut
  have k0 := hA.c0
  have k1 := hA.c1
  obtain ⟨bz, hbz⟩ : ∃ b, Asd (decide (tn = 0) = b) := ⟨_, ⟨rfl⟩⟩
  go_upto_region 10 with fail
  go_cut [17] (fun s17 wx => s17 = .bool (!bz) ∧ Ab G B H R rn N n ((st.noG (!sg)).noU bu) w0 K tn tx wx)
  case first =>
    go_wp2_with (go_at_call 71; (with_reducible refine (hN.out _).mono ?_); rintro e w2 ⟨rfl, f2⟩; have t2 := hA.blw f2)
    go_meet
    case rel =>
      refine ⟨?_, t2⟩
      rw [← hbz.out]
      congr 1
      by_cases h0 : tn = 0 <;> simp [h0]
  case rest =>
  clear hA k0 k1
  obtain ⟨rfl, hA⟩ := hcut
  obtain ⟨nd, hnd⟩ : ∃ b, Asd (tmNeed false tn tx = b) := ⟨_, ⟨rfl⟩⟩
  have hnd2 : Asd (nd = (!false || !so || !bz)) := ⟨by rw [← hnd.out]; unfold tmNeed; rw [hso.out, hbz.out]⟩
  go_upto_region 11 with fail
  go_cut [16, 17, 59] (fun s16 s17 s59 wx => s16 = .bool so ∧ s17 = .bool (!bz) ∧ s59 = .bool nd ∧ Ab G B H R rn N n ((st.noG (!sg)).noU bu) w0 K tn tx wx)
  case first =>
    cases so
    all_goals
      cases bz
      all_goals
        go_wp2_with fail
        go_meet
        case rel => exact ⟨rfl, rfl, by rw [hnd2.out]; rfl, hA⟩
  case rest =>
  clear hA
  obtain ⟨rfl, rfl, rfl, hA⟩ := hcut
  clear hnd2
  go_upto_if 59 with fail
  go_cut [] (fun wx => Ab G B H R rn N (n + 1) ((((st.noG (!sg)).noU bu).wish nd).putIf nd kAtimeB (ptime tn tx)) w0 K tn tx wx)
  case first =>
    cases nd
    · go_wp2_with fail
      go_meet
      case rel => rw [AfS.wish_false]; exact ⟨hA.a.mono (by omega), hA.b, hA.l⟩
    · have c7 := hA.a.cp
      have g7 := hA.a.fz.2.2.2.2
      go_upto_region 16 with fail
      have t3 := (hA.setP true).drew
      have cx3 := t3.a.cx
      have k30 := t3.c0
      have k31 := t3.c1
      go_region_with (go_at_call 72; (with_reducible refine (hP.out t3.a.gl).mono ?_); rintro e w7 ⟨rfl, f7⟩; have t7 := t3.blw f7; have cx7 := t7.a.cx; obtain ⟨w8, hrun8, hm8, hg8⟩ := World.ownsMap.update t7.a.m law9 Tryz.underlying97 (by unfold maxLen; omega) (key9 ⟨#[97, 116, 105, 109, 101]⟩ (by unfold maxLen; decide)) (plain9 (ptime tn tx) (by have := hpt.out; unfold maxLen; omega)))
      all_goals (go_wp2_with fail; go_meet)
      all_goals (rw [AfS.wish_true]; exact ⟨t7.a.put hm8 hg8, (Kp.of_grown hg8).get t7.b (by have := t7.l; omega), t7.l⟩)
  case rest =>
  clear hA
  have hA := hcut
  clear hcut
  have ch := hA.a.hd (j := 18) (v := H.recs) rfl
  go_upto_region 18 with (at_lookup; refine wpList_lookup_rec _ rfl _ _ rfl _ N rn R hA.a.rc rfl _ rfl (by unfold maxLen; decide) ?_; intro y hy hy2)
  have hkb : sget R kAtimeB.data.toList = y.data.toList := hy.symm
  have hkb2 : Maps.has R (sK kAtimeB) = Maps.has R (sK ⟨#[97, 116, 105, 109, 101]⟩) := rfl
  have hfin2 : ∀ b, hasAt R kAtimeB (ptime tn tx) = b → afTime R false tn tx kAtimeB st = ((((st.noG (!sg)).noU bu).wish nd).putIf nd kAtimeB (ptime tn tx)).putIf b kAtimeB (ptime tn tx) := by
    intro b hb
    rw [hfin.out]
    unfold afTime1
    rw [hb, hsg.out, hso.out, hbu.out, hnd.out]
  clear hy
  have k0 := hA.c0
  have k1 := hA.c1
  by_cases hb : Maps.has R (sK ⟨#[97, 116, 105, 109, 101]⟩) = true
  · by_cases hys : y = ptime tn tx
    · have hat := Asd.mk (hfin2 true (by unfold hasAt; rw [hkb, hkb2, hb, hys]; simp))
      subst hys
      clear hkb hkb2 hfin2
      have cx := hA.a.cx
      go_wp2_with (first
        | (go_at_call 72; (with_reducible refine (hP.out hA.a.gl).mono ?_); rintro e w7 ⟨rfl, f7⟩; have t7 := hA.blw f7; have cx7 := t7.a.cx; clear cx)
        | (at_mapUpdate; refine wpList_mapUpdate_own _ rfl _ _ _ 97 rfl 9 9 law9 Tryz.underlying97 _ (N + 3) (n + 1) _ rfl t7.a.m (by unfold maxLen; omega) _ _ _ rfl rfl (key9 _ (by unfold maxLen; decide)) _ [] (plain9 _ (by have := hpt.out; unfold maxLen; omega)) ?_; intro w6 hm6 hg6; go_frame))
      go_end0
      refine ⟨rfl, ?_⟩
      rw [hat.out]
      exact t7.a.put hm6 hg6
    · have hne : (y.toList == (ptime tn tx).toList) = false := by
        rw [beq_eq_false_iff_ne]
        intro e
        exact hys (ba_ext (by rw [← Lib.toList_data, ← Lib.toList_data]; exact e))
      have hat := Asd.mk (hfin2 false (by
        unfold hasAt
        rw [hkb, hkb2, hb]
        simp only [Bool.true_and, beq_eq_false_iff_ne]
        exact fun e => hys (ba_ext e)))
      clear hkb hkb2 hfin2 hys
      go_wp2_with (go_at_call 72; (with_reducible refine (hP.out hA.a.gl).mono ?_); rintro e w7 ⟨rfl, f7⟩; have t7 := hA.blw f7)
      go_end0
      refine ⟨rfl, ?_⟩
      rw [hat.out]
      exact t7.a.mono (by omega)
  · have hb' : Maps.has R (sK ⟨#[97, 116, 105, 109, 101]⟩) = false := by simpa using hb
    have hat := Asd.mk (hfin2 false (by unfold hasAt; rw [hkb2, hb']; rfl))
    clear hkb hkb2 hfin2 hb
    go_wp2_with fail
    go_end0
    refine ⟨rfl, ?_⟩
    rw [hat.out]
    exact hA.a.mono (by omega)
set_option maxRecDepth 100000 in
set_option maxHeartbeats 4000000 in
theorem vTime_ctime (h : Af G B H R rn N n st w0 w) (tn : Nat) (tx : Int) (name : ByteArray) (htn : tn < 1000000000) (hn : n + 2 < 1073741824) (hname : name.size ≤ 100) :
    Calls Tryz.prog 68 #[tmV tn tx, .int .i64 12, .string name, .string ⟨#[99, 116, 105, 109, 101]⟩, .pointer (some ⟨N + 6, 0, none⟩), .pointer (some ⟨N + 1, 0, none⟩), .pointer (some ⟨N + 4, 0, none⟩), .pointer (some ⟨N + 7, 0, none⟩), .pointer (some ⟨N + 5, 0, none⟩), .pointer (some ⟨N + 2, 0, none⟩), .pointer (some ⟨N, 0, none⟩)] w
      fun e w' => e = .returned (.tuple #[]) ∧ Af G B H R rn N (n + 2) (afTime R false tn tx kCtimeB st) w0 w' := by
  have hZ := fun W => isZero_any tn tx W
  have hT := fun W => tUnix_any tn tx W (by omega)
  have hN := fun W => nano_any tn tx W (by omega)
  have hP := fun {W} (hg : Gl G B W) => paxTime_any hg tn tx htn
  unfold tmV at hZ hT hN hP
  replace hZ := Asd.mk hZ
  replace hT := Asd.mk hT
  replace hN := Asd.mk hN
  replace hP := Asd.mk @hP
  have hpt := Asd.mk (ptime_size tn tx htn)
  have hbx := h.boxed tn tx
  obtain ⟨K, hK⟩ : ∃ K, Asd (K = w.heap.size) := ⟨_, ⟨rfl⟩⟩
  obtain ⟨wb, hwb⟩ : ∃ wb, Asd (wb = w.alloc (.cells #[.int .u64 tn, .int .i64 tx] 96 (0, 0))) := ⟨_, ⟨rfl⟩⟩
  rw [← hK.out, ← hwb.out] at hbx
  unfold tmV
  by_cases hz : isZ tn tx = true
  · have hz3 : Asd ((decide (tn = 0) && decide (tx = 0)) = true) := Asd.mk hz
    have hzz := Asd.mk hz
    clear hz
    go_enter Tryz.func68, Tryz.ntmps68
    go_wp2_with (go_at_call 69; (with_reducible refine (hZ.out _).mono ?_); rw [hz3.out]; rintro e w1 ⟨rfl, f1⟩)
    refine bodyPost_ret (results_none rfl _ _ _) rfl ?_
    refine ⟨rfl, ?_⟩
    unfold afTime
    rw [if_pos hzz.out]
    exact ((h.blw ((Below.refl _ _).alloc (Nat.le_refl _) _)).blw f1).mono (by omega)
  replace hz : isZ tn tx = false := by simpa using hz
  have hz3 : Asd ((decide (tn = 0) && decide (tx = 0)) = false) := Asd.mk hz
  have hfin : Asd (afTime R false tn tx kCtimeB st = (afTime1 false tn tx kCtimeB st).putIf (hasAt R kCtimeB (ptime tn tx)) kCtimeB (ptime tn tx)) := ⟨by unfold afTime; rw [hz]; rfl⟩
  clear hz
  obtain ⟨sg, hsg⟩ : ∃ b, Asd (fitB 12 (tmUnix tx) = b) := ⟨_, ⟨rfl⟩⟩
  obtain ⟨so, hso⟩ : ∃ b, Asd (fitO 12 (tmUnix tx) = b) := ⟨_, ⟨rfl⟩⟩
  go_enter Tryz.func68, Tryz.ntmps68
  go_upto_region 1 with fail
  rw [← hK.out, ← hwb.out]
  have k0 := hbx.c0
  have k1 := hbx.c1
  go_upto_region 2 with (go_at_call 69; (with_reducible refine (hZ.out _).mono ?_); rw [hz3.out]; rintro e w1 ⟨rfl, f1⟩; have t1 := hbx.blw f1; have k10 := t1.c0; have k11 := t1.c1)
  go_cut [26] (fun s26 wx => s26 = .bool (!sg) ∧ Ab G B H R rn N n st w0 K tn tx wx)
  case first =>
    go_wp2_with (first
      | (go_at_call 70; (with_reducible refine (hT.out _).mono ?_); rintro e w2 ⟨rfl, f2⟩; have t2 := t1.blw f2)
      | (go_at_call 65; refine (fitsInBase256_12 (tmUnix tx) _).mono ?_; rintro e w' ⟨rfl, rfl⟩; rw [hsg.out]))
    go_meet
    case rel => exact ⟨rfl, t2⟩
  case rest =>
  clear t1 k10 k11 f1 k0 k1 hbx
  obtain ⟨rfl, hA⟩ := hcut
  obtain ⟨x6, c6⟩ := hA.a.cs6
  have f6 := hA.a.fz.2.2.2.1
  go_upto_if 26 with fail
  go_cut [] (fun wx => Ab G B H R rn N n (st.noG (!sg)) w0 K tn tx wx)
  case first =>
    cases sg
    · go_wp2_with (go_at_call 61; refine ((hA.set6 _).strike 8 st.u st.p false (fm_not8 _ _ _)).mono ?_; rintro e w2 ⟨rfl, t2⟩)
      go_meet
      case rel => rw [Bool.not_false, AfS.noG_true]; exact t2
    · go_wp2_with fail
      go_meet
      case rel => rw [Bool.not_true, AfS.noG_false]; exact hA
  case rest =>
  clear c6 f6 hA
  have hA := hcut
  clear hcut
  have k0 := hA.c0
  have k1 := hA.c1
  go_upto_region 6 with fail
  go_cut [16] (fun s16 wx => s16 = .bool so ∧ Ab G B H R rn N n (st.noG (!sg)) w0 K tn tx wx)
  case first =>
    go_wp2_with (first
      | (go_at_call 70; (with_reducible refine (hT.out _).mono ?_); rintro e w2 ⟨rfl, f2⟩; have t2 := hA.blw f2)
      | (go_at_call 66; refine (fitsInOctal_12 (tmUnix tx) _).mono ?_; rintro e w' ⟨rfl, rfl⟩; rw [hso.out]))
    go_meet
    case rel => exact ⟨rfl, t2⟩
  case rest =>
  clear hA k0 k1
  obtain ⟨rfl, hA⟩ := hcut
  obtain ⟨x4, c4⟩ := hA.a.cs4
  have g4 := hA.a.fz.2.1
  have k0 := hA.c0
  have k1 := hA.c1
  go_upto_region 7 with fail
  go_cut [16, 44] (fun s16 s44 wx => s16 = .bool so ∧ s44 = .bool (!(false && so)) ∧ Ab G B H R rn N n (st.noG (!sg)) w0 K tn tx wx)
  case first =>
    cases so
    all_goals
      go_wp2_with fail
      go_meet
      case rel => exact ⟨rfl, rfl, hA⟩
  case rest =>
  clear hA c4 g4 k0 k1
  obtain ⟨rfl, rfl, hA⟩ := hcut
  obtain ⟨x4, c4⟩ := hA.a.cs4
  have g4 := hA.a.fz.2.1
  obtain ⟨bu, hbu⟩ : ∃ b, Asd ((!(false && so)) = b) := ⟨_, ⟨rfl⟩⟩
  rw [hbu.out]
  go_upto_if 44 with fail
  go_cut [] (fun wx => Ab G B H R rn N n ((st.noG (!sg)).noU bu) w0 K tn tx wx)
  case first =>
    cases bu
    · go_wp2_with fail
      go_meet
      case rel => rw [AfS.noU_false]; exact hA
    · go_wp2_with (go_at_call 61; refine ((hA.set4 _).strike 2 false (st.noG (!sg)).p (st.noG (!sg)).g (fm_not2 _ _ _)).mono ?_; rintro e w2 ⟨rfl, t2⟩)
      go_meet
      case rel => rw [AfS.noU_true]; exact t2
  case rest =>
  clear hA c4 g4
  have hA := hcut
  clear hcut
  have k0 := hA.c0
  have k1 := hA.c1
  obtain ⟨bz, hbz⟩ : ∃ b, Asd (decide (tn = 0) = b) := ⟨_, ⟨rfl⟩⟩
  go_upto_region 10 with fail
  go_cut [17] (fun s17 wx => s17 = .bool (!bz) ∧ Ab G B H R rn N n ((st.noG (!sg)).noU bu) w0 K tn tx wx)
  case first =>
    go_wp2_with (go_at_call 71; (with_reducible refine (hN.out _).mono ?_); rintro e w2 ⟨rfl, f2⟩; have t2 := hA.blw f2)
    go_meet
    case rel =>
      refine ⟨?_, t2⟩
      rw [← hbz.out]
      congr 1
      by_cases h0 : tn = 0 <;> simp [h0]
  case rest =>
  clear hA k0 k1
  obtain ⟨rfl, hA⟩ := hcut
  obtain ⟨nd, hnd⟩ : ∃ b, Asd (tmNeed false tn tx = b) := ⟨_, ⟨rfl⟩⟩
  have hnd2 : Asd (nd = (!false || !so || !bz)) := ⟨by rw [← hnd.out]; unfold tmNeed; rw [hso.out, hbz.out]⟩
  go_upto_region 11 with fail
  go_cut [16, 17, 59] (fun s16 s17 s59 wx => s16 = .bool so ∧ s17 = .bool (!bz) ∧ s59 = .bool nd ∧ Ab G B H R rn N n ((st.noG (!sg)).noU bu) w0 K tn tx wx)
  case first =>
    cases so
    all_goals
      cases bz
      all_goals
        go_wp2_with fail
        go_meet
        case rel => exact ⟨rfl, rfl, by rw [hnd2.out]; rfl, hA⟩
  case rest =>
  clear hA
  obtain ⟨rfl, rfl, rfl, hA⟩ := hcut
  clear hnd2
  go_upto_if 59 with fail
  go_cut [] (fun wx => Ab G B H R rn N (n + 1) ((((st.noG (!sg)).noU bu).wish nd).putIf nd kCtimeB (ptime tn tx)) w0 K tn tx wx)
  case first =>
    cases nd
    · go_wp2_with fail
      go_meet
      case rel => rw [AfS.wish_false]; exact ⟨hA.a.mono (by omega), hA.b, hA.l⟩
    · have c7 := hA.a.cp
      have g7 := hA.a.fz.2.2.2.2
      go_upto_region 16 with fail
      have t3 := (hA.setP true).drew
      have cx3 := t3.a.cx
      have k30 := t3.c0
      have k31 := t3.c1
      go_region_with (go_at_call 72; (with_reducible refine (hP.out t3.a.gl).mono ?_); rintro e w7 ⟨rfl, f7⟩; have t7 := t3.blw f7; have cx7 := t7.a.cx; obtain ⟨w8, hrun8, hm8, hg8⟩ := World.ownsMap.update t7.a.m law9 Tryz.underlying97 (by unfold maxLen; omega) (key9 ⟨#[99, 116, 105, 109, 101]⟩ (by unfold maxLen; decide)) (plain9 (ptime tn tx) (by have := hpt.out; unfold maxLen; omega)))
      all_goals (go_wp2_with fail; go_meet)
      all_goals (rw [AfS.wish_true]; exact ⟨t7.a.put hm8 hg8, (Kp.of_grown hg8).get t7.b (by have := t7.l; omega), t7.l⟩)
  case rest =>
  clear hA
  have hA := hcut
  clear hcut
  have ch := hA.a.hd (j := 18) (v := H.recs) rfl
  go_upto_region 18 with (at_lookup; refine wpList_lookup_rec _ rfl _ _ rfl _ N rn R hA.a.rc rfl _ rfl (by unfold maxLen; decide) ?_; intro y hy hy2)
  have hkb : sget R kCtimeB.data.toList = y.data.toList := hy.symm
  have hkb2 : Maps.has R (sK kCtimeB) = Maps.has R (sK ⟨#[99, 116, 105, 109, 101]⟩) := rfl
  have hfin2 : ∀ b, hasAt R kCtimeB (ptime tn tx) = b → afTime R false tn tx kCtimeB st = ((((st.noG (!sg)).noU bu).wish nd).putIf nd kCtimeB (ptime tn tx)).putIf b kCtimeB (ptime tn tx) := by
    intro b hb
    rw [hfin.out]
    unfold afTime1
    rw [hb, hsg.out, hso.out, hbu.out, hnd.out]
  clear hy
  have k0 := hA.c0
  have k1 := hA.c1
  by_cases hb : Maps.has R (sK ⟨#[99, 116, 105, 109, 101]⟩) = true
  · by_cases hys : y = ptime tn tx
    · have hat := Asd.mk (hfin2 true (by unfold hasAt; rw [hkb, hkb2, hb, hys]; simp))
      subst hys
      clear hkb hkb2 hfin2
      have cx := hA.a.cx
      go_wp2_with (first
        | (go_at_call 72; (with_reducible refine (hP.out hA.a.gl).mono ?_); rintro e w7 ⟨rfl, f7⟩; have t7 := hA.blw f7; have cx7 := t7.a.cx; clear cx)
        | (at_mapUpdate; refine wpList_mapUpdate_own _ rfl _ _ _ 97 rfl 9 9 law9 Tryz.underlying97 _ (N + 3) (n + 1) _ rfl t7.a.m (by unfold maxLen; omega) _ _ _ rfl rfl (key9 _ (by unfold maxLen; decide)) _ [] (plain9 _ (by have := hpt.out; unfold maxLen; omega)) ?_; intro w6 hm6 hg6; go_frame))
      go_end0
      refine ⟨rfl, ?_⟩
      rw [hat.out]
      exact t7.a.put hm6 hg6
    · have hne : (y.toList == (ptime tn tx).toList) = false := by
        rw [beq_eq_false_iff_ne]
        intro e
        exact hys (ba_ext (by rw [← Lib.toList_data, ← Lib.toList_data]; exact e))
      have hat := Asd.mk (hfin2 false (by
        unfold hasAt
        rw [hkb, hkb2, hb]
        simp only [Bool.true_and, beq_eq_false_iff_ne]
        exact fun e => hys (ba_ext e)))
      clear hkb hkb2 hfin2 hys
      go_wp2_with (go_at_call 72; (with_reducible refine (hP.out hA.a.gl).mono ?_); rintro e w7 ⟨rfl, f7⟩; have t7 := hA.blw f7)
      go_end0
      refine ⟨rfl, ?_⟩
      rw [hat.out]
      exact t7.a.mono (by omega)
  · have hb' : Maps.has R (sK ⟨#[99, 116, 105, 109, 101]⟩) = false := by simpa using hb
    have hat := Asd.mk (hfin2 false (by unfold hasAt; rw [hkb2, hb']; rfl))
    clear hkb hkb2 hfin2 hb
    go_wp2_with fail
    go_end0
    refine ⟨rfl, ?_⟩
    rw [hat.out]
    exact hA.a.mono (by omega)
end
end Go.Proofs.YtpkilegnokajmaaGreatDoor
