/- WriteHeader: what the formats that are left say of the fields; the header as it is rounded. -/
import Derived.Test.YtpkilegnokajmaaGreatDoorE10
import Derived.Test.YtpkilegnokajmaaGreatDoorA14
set_option linter.unusedVariables false
set_option linter.unusedSimpArgs false
set_option linter.unnecessarySimpa false
set_option linter.unusedSectionVars false
namespace Go.Proofs.YtpkilegnokajmaaGreatDoor
open Go.RowKit Go.Maps
theorem AfS.putIf_u (st : AfS) (b : Bool) (k v : ByteArray) : (st.putIf b k v).u = st.u := by cases b <;> rfl
theorem AfS.noG_u (st : AfS) (b : Bool) : (st.noG b).u = st.u := rfl
theorem AfS.noP_u (st : AfS) (b : Bool) : (st.noP b).u = st.u := rfl
theorem AfS.noU_u (st : AfS) (b : Bool) : (st.noU b).u = (st.u && !b) := rfl
theorem AfS.wish_u (st : AfS) (b : Bool) : (st.wish b).u = st.u := rfl
theorem afStr_u (R : DataW Unit) (path l : Bool) (s key : ByteArray) (size : Nat) (st : AfS) : (afStr R path l s key size st).u = (st.u && !(strBadU path s size)) := by
  unfold afStr
  rw [AfS.putIf_u, AfS.putIf_u, AfS.noU_u, AfS.noG_u]
theorem afNum_u (R : DataW Unit) (n : Bool) (x : Int) (key : ByteArray) (size : Nat) (st : AfS) : (afNum R n x key size st).u = (st.u && fitO size x) := by
  unfold afNum
  rw [AfS.putIf_u, AfS.putIf_u, AfS.noP_u, AfS.noU_u, AfS.noG_u, Bool.not_not]
theorem afTime_u (R : DataW Unit) (mt : Bool) (n : Nat) (x : Int) (key : ByteArray) (st : AfS) : (afTime R mt n x key st).u = (st.u && (isZ n x || (mt && fitO 12 (tmUnix x)))) := by
  unfold afTime
  split
  · rename_i h; rw [h]; simp
  · rename_i h
    unfold afTime1
    rw [AfS.putIf_u, AfS.putIf_u, AfS.wish_u, AfS.noU_u, AfS.noG_u, Bool.not_not, show isZ n x = false by simpa using h, Bool.false_or]
theorem spSuf_100 (s : ByteArray) (h : splitOk s = true) : (spSuf s).size ≤ 100 := by
  have h0 := h
  unfold splitOk at h0
  simp only [Bool.and_eq_true, decide_eq_true_eq, Bool.not_eq_true'] at h0
  unfold spSuf
  rw [if_pos h, Lib.size_eq, Lib.extract_data]
  simp
  have e : s.data.size = s.size := rfl
  omega
theorem spPre_155 (s : ByteArray) (h : splitOk s = true) : (spPre s).size ≤ 155 := by
  have h0 := h
  unfold splitOk at h0
  simp only [Bool.and_eq_true, decide_eq_true_eq, Bool.not_eq_true'] at h0
  unfold spPre
  rw [if_pos h, Lib.size_eq, Lib.extract_data]
  simp
  omega
theorem afU_fits (H : Hd) (R : DataW Unit) (fu fp fg : Bool) (h : afU H R fu fp fg = true) : fitsU (usH H) ∧ (usPre H).size ≤ 155 := by
  have h1 : (stFin H R).u = true := by
    unfold afU finU at h
    split at h
    · simp only [Bool.and_eq_true] at h; exact h.1
    · exact h
  have h2 : (swSt H (afBase H R)).u = true := by
    unfold stFin paxSt at h1
    split at h1
    · exact h1
    · cases h1
  have h3 : (afBase H R).u = true := by
    unfold swSt at h2
    split at h2
    · cases h2
    · exact h2
  unfold afBase at h3
  rw [afTime_u, afTime_u, afTime_u, afNum_u, afNum_u, afNum_u, afNum_u, afNum_u, afNum_u, afStr_u, afStr_u, afStr_u, afStr_u] at h3
  simp only [Bool.and_eq_true, Bool.not_eq_true', st0] at h3
  obtain ⟨⟨⟨⟨⟨⟨⟨⟨⟨⟨⟨⟨⟨_, a1⟩, a2⟩, a3⟩, a4⟩, a5⟩, a6⟩, a7⟩, a8⟩, a9⟩, a10⟩, a11⟩, a12⟩, a13⟩ := h3
  have st : ∀ (s : ByteArray) (z : Nat), strBadU false s z = false → s.size ≤ z := by
    intro s z hz
    unfold strBadU strBad at hz
    simp at hz
    exact hz.2
  have hse : fitO 12 H.secs = true := by
    unfold Hd.secs
    split
    · exact fit12_0
    · rename_i hz
      rw [show isZ H.mn H.mx = false by simpa using hz] at a11
      simpa using a11
  by_cases hsp : splitOk H.name = true
  · refine ⟨?_, ?_⟩
    · unfold usH
      rw [if_pos hsp]
      exact ⟨spSuf_100 _ hsp, st _ _ a2, a5, a6, a7, a8, hse, st _ _ a3, st _ _ a4, a9, a10⟩
    · unfold usPre
      rw [if_pos hsp]
      exact spPre_155 _ hsp
  · have hn : H.name.size ≤ 100 := by
      unfold strBadU strBad at a1
      rw [show splitOk H.name = false by simpa using hsp] at a1
      simp at a1
      exact a1.2
    refine ⟨?_, ?_⟩
    · unfold usH
      rw [if_neg hsp]
      exact ⟨hn, st _ _ a2, a5, a6, a7, a8, hse, st _ _ a3, st _ _ a4, a9, a10⟩
    · unfold usPre
      rw [if_neg hsp]
      exact Nat.zero_le _
/-- The header with its type told. -/
def hdProm (H : Hd) : Hd := if H.tf = 0 then { H with tf := if endsSlash H.name then 53 else 48 } else H
/-- The header with its times rounded. -/
def hdRound (H : Hd) : Hd := if H.fmt = 0 then { H with mn := 0, mx := roundT H.mn H.mx, an := 0, ax := 0, cn := 0, cx := 0 } else H
def whH (H : Hd) : Hd := hdRound (hdProm H)
theorem hdProm_ok (H : Hd) (ok : H.Ok) : (hdProm H).Ok := by
  unfold hdProm
  split
  · exact { ok with }
  · exact ok
theorem roundT_range (n : Nat) (x : Int) (h : -9223372036854775808 ≤ x ∧ x ≤ 9223372036854775807) : -9223372036854775808 ≤ roundT n x ∧ roundT n x ≤ 9223372036854775807 := by
  unfold roundT incT
  split <;> (try split) <;> omega
theorem z64 : -9223372036854775808 ≤ (0 : Int) ∧ (0 : Int) ≤ 9223372036854775807 := by omega
theorem hdRound_ok (H : Hd) (ok : H.Ok) : (hdRound H).Ok := by
  unfold hdRound
  split
  · exact { ok with mn := by show (0 : Nat) < _; omega, mx := roundT_range _ _ ok.mx, an := by show (0 : Nat) < _; omega, ax := z64, cn := by show (0 : Nat) < _; omega, cx := z64 }
  · exact ok
theorem whH_ok (H : Hd) (ok : H.Ok) : (whH H).Ok := hdRound_ok _ (hdProm_ok _ ok)
theorem merged_small {D1 R D : DataW Unit} {keep : List UInt8 → Bool} (h1 : Small D1) (hR : Small R) (hD : Merged D1 R keep D) : Small D := by
  intro k v hk
  rw [hD k] at hk
  split at hk
  · rename_i x hx
    cases hk
    exact h1 _ _ hx
  · split at hk
    · exact hR _ _ hk
    · cases hk
theorem paxOf_small {H : Hd} {R D : DataW Unit} (ok : H.Ok) (hR : Small R) (hD : PaxOf H R D) : Small D := merged_small (afBase_ok H R ok).2 hR hD
end Go.Proofs.YtpkilegnokajmaaGreatDoor
