/- Contract: formatString: a string put into a field. Contract: strconv.FormatInt in base 8. -/
import Derived.Test.YtpkilegnokajmaaGreatDoorA08
import Derived.Lib.BufferWrite
import Derived.Lib.SlBuf
set_option linter.unusedVariables false
set_option linter.unusedSimpArgs false
set_option linter.unnecessarySimpa false
set_option linter.unusedSectionVars false
namespace Go.Proofs.YtpkilegnokajmaaGreatDoor
open Go.RowKit

theorem size5 : (Tryz.prog.info? 5).map (·.size) = some 1 := by kernel_rfl
theorem cells_byteCells (l : List UInt8) : Lib.byteCells l = cells l := rfl
/-- What a copy of s leaves in a field. -/
def cpy (xs s : List UInt8) : List UInt8 := s.take xs.length ++ xs.drop s.length
theorem cpy_len (xs s : List UInt8) : (cpy xs s).length = xs.length := by simp [cpy]; omega
theorem splice3 (P X Q Y : List Value) (h : Y.length ≤ X.length) : (P ++ X ++ Q).take P.length ++ Y ++ (P ++ X ++ Q).drop (P.length + Y.length) = P ++ (Y ++ X.drop Y.length) ++ Q := by
  rw [List.append_assoc P X Q, List.take_left', List.drop_append, List.drop_of_length_le (by omega), Nat.add_sub_cancel_left, List.drop_append, show Y.length - X.length = 0 by omega]
  · simp
  · rfl
theorem copy_str (w : World) (b off n c : Nat) (P : List Value) (xs : List UInt8) (Q : List Value) (T : TypeId) (s : ByteArray)
    (hb : w.heap[b]? = some (.cells (P ++ cells xs ++ Q).toArray T (0, 0))) (hP : P.length = off) (hx : xs.length = n) :
    ∃ w1, (Builtin.copy_ #[25, 9] 3 #[.slice (some ⟨b, off, none⟩) n c, .string s]).run Tryz.prog w = .ok (goInt (Nat.min s.size n)) w1 ∧
      w1.heap[b]? = some (.cells (P ++ cells (cpy xs s.data.toList) ++ Q).toArray T (0, 0)) ∧ Kp (fun k => k = b) w w1 := by
  subst hP hx
  have hm : Nat.min s.size xs.length ≤ xs.length := Nat.min_le_right _ _
  have hst := run_storeCells_at Tryz.prog b P.length T (Lib.byteCells (s.data.toList.take (Nat.min s.size xs.length))) 0 (P ++ cells xs ++ Q).toArray w hb (by
    rw [Lib.byteCells_length]; simp [cells]; omega) (Lib.byteCells_one _)
  cases hq : Tryz.prog.info? 5 with
  | none => have := size5; simp [hq] at this
  | some i =>
    have hi : i.size = 1 := by have := size5; simpa [hq] using this
    have hrow : (P ++ cells xs ++ Q).toArray.toList.take (P.length + 0) ++ Lib.byteCells (s.data.toList.take (Nat.min s.size xs.length)) ++ (P ++ cells xs ++ Q).toArray.toList.drop (P.length + 0 + (Lib.byteCells (s.data.toList.take (Nat.min s.size xs.length))).length) = P ++ cells (cpy xs s.data.toList) ++ Q := by
      have e1 : (Lib.byteCells (s.data.toList.take (Nat.min s.size xs.length))).length = Nat.min s.size xs.length := by
        rw [Lib.byteCells_length, List.length_take]; simp
      rw [List.toList_toArray, Nat.add_zero, splice3 P (cells xs) Q _ (by rw [e1, cells_len]; exact hm), e1]
      have e2 : s.data.toList.take (Nat.min s.size xs.length) = s.data.toList.take xs.length := by
        rw [List.take_eq_take_iff]
        have : s.data.toList.length = s.size := by simp
        rw [this]
        show min (min s.size xs.length) s.size = min xs.length s.size
        omega
      have e3 : (cells xs).drop (Nat.min s.size xs.length) = cells (xs.drop s.data.toList.length) := by
        have hd : xs.drop (Nat.min s.size xs.length) = xs.drop s.data.toList.length := by
          have hz : s.data.toList.length = s.size := by simp
          rw [hz]
          by_cases h : s.size ≤ xs.length
          · rw [show Nat.min s.size xs.length = s.size from Nat.min_eq_left h]
          · rw [show Nat.min s.size xs.length = xs.length from Nat.min_eq_right (by omega), List.drop_length, List.drop_of_length_le (by omega)]
        rw [← hd]
        exact (List.map_drop ..).symm
      rw [e2, e3, cpy, cells_append]
      rfl
    rw [hrow] at hst
    refine ⟨w.setRow b (P ++ cells (cpy xs s.data.toList) ++ Q).toArray, ?_, ?_, ?_⟩
    · simp [Builtin.copy_, run_underlying Tryz.underlying25, Builtin.lenOf, Builtin.firstCells, sizeOf, typeInfo, hq]
      rw [← List.map_take]
      have e4 : (List.map (fun b => Value.int IntKind.u8 (b.toNat : Int)) (s.data.toList.take (Nat.min s.size xs.length))) = Lib.byteCells (s.data.toList.take (Nat.min s.size xs.length)) := rfl
      rw [e4, hst]
      simp
    · exact setRow_heap w b _ _ T _ hb
    · exact ⟨rfl, rfl, rfl, by simp [World.setRow], fun k _ hk => by simp [World.setRow, Array.getElem?_modify]; omega⟩
/-- What formatString leaves in a field. -/
def fmtS (xs s : List UInt8) : List UInt8 :=
  if s.length < xs.length then s ++ (0 :: xs.drop (s.length + 1))
  else if xs.length < s.length ∧ s[xs.length - 1]? = some 47 then (s.take xs.length).set (trimN ⟨(s.take (xs.length - 1)).toArray⟩ 47 (xs.length - 1)) 0
  else s.take xs.length
theorem fmtS_len (xs s : List UInt8) : (fmtS xs s).length = xs.length := by
  unfold fmtS
  split
  · simp; omega
  · split <;> simp <;> omega
theorem set3 (P : List Value) (X : List UInt8) (Q : List Value) (v : UInt8) (j : Nat) (hj : j < X.length) : (P ++ cells X ++ Q).set (P.length + j) (.int .u8 v.toNat) = P ++ cells (X.set j v) ++ Q := by
  rw [List.append_assoc, List.set_append_right _ _ (by omega), Nat.add_sub_cancel_left, List.set_append_left _ _ (by rw [cells_len]; exact hj), List.append_assoc]
  congr 2
  unfold cells
  rw [List.map_set]
  rfl
theorem set30 (P : List Value) (X : List UInt8) (Q : List Value) (j : Nat) (hj : j < X.length) : (P ++ cells X ++ Q).set (P.length + j) (.int .u8 0) = P ++ cells (X.set j 0) ++ Q := set3 P X Q 0 j hj
theorem get3 (P : List Value) (X : List UInt8) (Q : List Value) (j : Nat) (hj : j < X.length) : (P ++ cells X ++ Q)[P.length + j]? = some (u8 X[j]) := by
  rw [List.append_assoc, List.getElem?_append_right (by omega), Nat.add_sub_cancel_left, List.getElem?_append_left (by rw [cells_len]; exact hj), cells_get, List.getElem?_eq_getElem hj]
  rfl
theorem fmtS_eq1 (xs s : List UInt8) (h : s.length < xs.length) : (cpy xs s).set s.length 0 = fmtS xs s := by
  unfold fmtS cpy
  rw [if_pos h, List.take_of_length_le (by omega), List.set_append_right _ _ (by omega), Nat.sub_self]
  conv => lhs; rw [List.drop_eq_getElem_cons h]
  rfl
set_option maxRecDepth 100000 in
set_option maxHeartbeats 1000000 in
theorem fmtS_short (b off n c bf : Nat) (P : List Value) (xs : List UInt8) (Q : List Value) (T : TypeId) (s : ByteArray) (e0 : Value) (w : World)
    (hb : w.heap[b]? = some (.cells (P ++ cells xs ++ Q).toArray T (0, 0))) (hP : P.length = off) (hx : xs.length = n) (hn : n ≤ 512) (hc : n ≤ c) (ho : off ≤ 1024)
    (hs : s.size < n) :
    Calls Tryz.prog 96 #[.pointer (some ⟨bf, 0, none⟩), .slice (some ⟨b, off, none⟩) n c, .string s] w fun e w' => e = .returned (.tuple #[]) ∧
      w'.heap[b]? = some (.cells (P ++ cells (fmtS xs s.data.toList) ++ Q).toArray T (0, 0)) ∧ Kp (fun k => k = b) w w' := by
  obtain ⟨w1, hr, hb1, hk1⟩ := copy_str w b off n c P xs Q T s hb hP hx
  have hm : Nat.min s.size n = s.size := Nat.min_eq_left (by omega)
  rw [hm] at hr
  have hi : (P ++ cells (cpy xs s.data.toList) ++ Q)[off + s.size]? = some (u8 ((cpy xs s.data.toList)[s.size]'(by rw [cpy_len]; omega))) := by
    rw [← hP, get3 P _ Q s.size (by rw [cpy_len]; omega)]
  obtain ⟨ov, hov⟩ : ∃ ov, u8 ((cpy xs s.data.toList)[s.size]'(by rw [cpy_len]; omega)) = ov := ⟨_, rfl⟩
  have hcl := cell_blk hb1 hi
  rw [hov] at hcl
  have hfr := frozen_blk hb1 (j := off + s.size)
  have hlt1 : (s.size : Int) < (n : Int) := by omega
  have h00 : (0 : Int) ≤ (s.size : Int) := by omega
  have HB := Asd.mk hb1
  have HK := Asd.mk hk1
  clear hb1 hk1 hi hm hb hov
  go_enter Tryz.func96, Tryz.ntmps96
  go_wp2_with (with_reducible refine Lib.wpList_copy_run _ rfl (.tmp 16) (.tmp 17) 25 9 rfl _ _ rfl rfl hr ?_)
  go_end0
  refine ⟨rfl, ?_, HK.out.setCell (.inl rfl) _⟩
  have h1 := set_blk (v := .int .u8 0) (j := off + s.size) HB.out
  rw [← hP] at h1 ⊢
  rw [set30 P _ Q s.size (by rw [cpy_len]; omega), show s.size = s.data.toList.length by simp, fmtS_eq1 xs s.data.toList (by simp; omega)] at h1
  exact h1
theorem fmtS_eq2 (xs s : List UInt8) (h : s.length = xs.length) : cpy xs s = fmtS xs s := by
  unfold fmtS cpy
  rw [if_neg (by omega), if_neg (by omega), List.drop_of_length_le (by omega), List.append_nil]
theorem fmtS_eq3 (xs s : List UInt8) (h : xs.length < s.length) (h2 : s[xs.length - 1]? ≠ some 47) : cpy xs s = fmtS xs s := by
  unfold fmtS cpy
  rw [if_neg (by omega), if_neg (fun x => h2 x.2), List.drop_of_length_le (by omega), List.append_nil]
theorem fmtS_eq4 (xs s : List UInt8) (h : xs.length < s.length) (h2 : s[xs.length - 1]? = some 47) : (cpy xs s).set (trimN ⟨(s.take (xs.length - 1)).toArray⟩ 47 (xs.length - 1)) 0 = fmtS xs s := by
  unfold fmtS cpy
  rw [if_neg (by omega), if_pos ⟨h, h2⟩, List.drop_of_length_le (by omega), List.append_nil]
set_option maxRecDepth 100000 in
set_option maxHeartbeats 1000000 in
theorem fmtS_even (b off n c bf : Nat) (P : List Value) (xs : List UInt8) (Q : List Value) (T : TypeId) (s : ByteArray) (w : World)
    (hb : w.heap[b]? = some (.cells (P ++ cells xs ++ Q).toArray T (0, 0))) (hP : P.length = off) (hx : xs.length = n) (hn : n ≤ 512) (hc : n ≤ c) (ho : off ≤ 1024)
    (hs : s.size = n) :
    Calls Tryz.prog 96 #[.pointer (some ⟨bf, 0, none⟩), .slice (some ⟨b, off, none⟩) n c, .string s] w fun e w' => e = .returned (.tuple #[]) ∧
      w'.heap[b]? = some (.cells (P ++ cells (fmtS xs s.data.toList) ++ Q).toArray T (0, 0)) ∧ Kp (fun k => k = b) w w' := by
  obtain ⟨w1, hr, hb1, hk1⟩ := copy_str w b off n c P xs Q T s hb hP hx
  have hm : Nat.min s.size n = s.size := Nat.min_eq_left (by omega)
  rw [hm] at hr
  rw [fmtS_eq2 _ _ (by simp; omega)] at hb1
  have d1 : decide (n < s.size) = false := decide_eq_false (by omega)
  have d2 : decide ((n : Int) < (s.size : Int)) = false := decide_eq_false (by omega)
  have d3 : decide (s.size < n) = false := decide_eq_false (by omega)
  have d4 : decide ((s.size : Int) < (n : Int)) = false := decide_eq_false (by omega)
  have HB := Asd.mk hb1
  have HK := Asd.mk hk1
  have HS := Asd.mk hs
  clear hb1 hk1 hb hm hs
  go_enter Tryz.func96, Tryz.ntmps96
  go_wp2_with (with_reducible refine Lib.wpList_copy_run _ rfl (.tmp 16) (.tmp 17) 25 9 rfl _ _ rfl rfl hr ?_)
  go_end0
  exact ⟨rfl, HB.out, HK.out⟩
theorem trimR_size (s : ByteArray) (c : UInt8) : (trimR s c).size = trimN s c s.size := by
  have := trimN_le s c s.size
  rw [Lib.size_eq]
  unfold trimR
  simp
  omega
set_option maxRecDepth 100000 in
set_option maxHeartbeats 1000000 in
theorem fmtS_long (b off m c bf : Nat) (P : List Value) (xs : List UInt8) (Q : List Value) (T : TypeId) (s : ByteArray) (e0 : Value) (p4 : Addr) (w : World)
    (hb : w.heap[b]? = some (.cells (P ++ cells xs ++ Q).toArray T (0, 0))) (hP : P.length = off) (hx : xs.length = m + 1) (hn : m + 1 ≤ 512) (hc : m + 1 ≤ c) (ho : off ≤ 1024)
    (hg : w.cell? ⟨4, 0, none⟩ = some (.iface 182 (.pointer (some p4)))) (hf : w.heap[bf]? = some (.cells #[e0] 155 (0, 0))) (hfb : bf ≠ b) (hs : m + 1 < s.size) (hsz : s.size ≤ 140737488351232) :
    Calls Tryz.prog 96 #[.pointer (some ⟨bf, 0, none⟩), .slice (some ⟨b, off, none⟩) (m + 1) c, .string s] w fun e w' => e = .returned (.tuple #[]) ∧
      w'.heap[b]? = some (.cells (P ++ cells (fmtS xs s.data.toList) ++ Q).toArray T (0, 0)) ∧ w'.heap[bf]? = some (.cells #[.iface 182 (.pointer (some p4))] 155 (0, 0)) ∧ Kp (fun k => k = b ∨ k = bf) w w' := by
  have hf' : w.heap[bf]? = some (.cells [e0].toArray 155 (0, 0)) := hf
  have cf : w.cell? ⟨bf, 0, none⟩ = some e0 := cell_blk hf' rfl
  have ff : w.frozen? ⟨bf, 0, none⟩ = false := frozen_blk hf'
  have hf2 : (w.setCell ⟨bf, 0, none⟩ (.iface 182 (.pointer (some p4)))).heap[bf]? = some (.cells #[.iface 182 (.pointer (some p4))] 155 (0, 0)) := set_blk hf'
  have hk0 : Kp (fun k => k = b ∨ k = bf) w (w.setCell ⟨bf, 0, none⟩ (.iface 182 (.pointer (some p4)))) := (Kp.refl _ _).setCell (.inl (.inr rfl)) _
  have hb0 : (w.setCell ⟨bf, 0, none⟩ (.iface 182 (.pointer (some p4)))).heap[b]? = some (.cells (P ++ cells xs ++ Q).toArray T (0, 0)) := by rw [Below.heap_setCell _ _ _ _ (fun e => hfb e.symm)]; exact hb
  obtain ⟨w1, hr, hb1, hk1⟩ := copy_str _ b off (m + 1) c P xs Q T s hb0 hP hx
  have hmn : Nat.min s.size (m + 1) = m + 1 := Nat.min_eq_right (by omega)
  rw [hmn] at hr
  have hz : s.data.toList.length = s.size := by simp
  have hcp : cpy xs s.data.toList = s.data.toList.take (m + 1) := by unfold cpy; rw [hx, List.drop_of_length_le (by omega), List.append_nil]
  obtain ⟨lb, hlb⟩ : ∃ lb, s.data.toList[m]? = some lb := ⟨_, List.getElem?_eq_getElem (by omega)⟩
  have hcl : w1.cell? ⟨b, off + m, none⟩ = some (.int .u8 lb.toNat) := by
    refine cell_blk hb1 ?_
    rw [← hP, get3 P (cpy xs s.data.toList) Q m (by rw [cpy_len]; omega)]
    have : (cpy xs s.data.toList)[m]? = some lb := by rw [hcp, List.getElem?_take_of_lt (by omega), hlb]
    rw [List.getElem?_eq_getElem (by rw [cpy_len]; omega)] at this
    rw [Option.some.inj this]
    rfl
  have hkk : Kp (fun k => k = b ∨ k = bf) w w1 := hk0.trans (hk1.mono (fun k hk => .inl hk))
  have hbf1 : w1.heap[bf]? = some (.cells #[.iface 182 (.pointer (some p4))] 155 (0, 0)) := hk1.get hf2 hfb
  have hlen : xs.length - 1 = m := by omega
  have d0 : ((m : Int) + 1 < (s.size : Int)) := by omega
  have d2 : ¬ ((s.size : Int) < (m : Int) + 1) := by omega
  have d1 : m + 1 < s.size := by omega
  have d3 : ¬ (s.size < m + 1) := by omega
  by_cases h47 : lb = 47
  · have HE := Asd.mk (fmtS_eq4 xs s.data.toList (by omega) (by rw [hlen, hlb, h47]))
    have hb47 : ((lb.toNat : Int) == 47) = true := by rw [h47]; rfl
    have HB := Asd.mk hb1
    have HK := Asd.mk hkk
    have HF := Asd.mk hbf1
    have hsz2 : (s.extract 0 m).size = m := by rw [Lib.size_eq, Lib.extract_data]; simp; omega
    obtain ⟨tn, htn⟩ : ∃ tn, (trimR (s.extract 0 m) 47).size = tn := ⟨_, rfl⟩
    have htn2 : trimN ⟨(s.data.toList.take (xs.length - 1)).toArray⟩ 47 (xs.length - 1) = tn := by
      rw [← htn, trimR_size, hsz2, hlen]
      have e : (⟨(s.data.toList.take m).toArray⟩ : ByteArray) = s.extract 0 m := by rw [Lib.extract_eq]; simp
      rw [e]
    have htm : tn ≤ m := by rw [← htn2, hlen]; exact trimN_le _ _ _
    rw [htn2] at HE
    have c2 := cell_blk hb1 (get3 P (cpy xs s.data.toList) Q tn (by rw [cpy_len]; omega))
    rw [hP] at c2
    have f2 : w1.frozen? ⟨b, off + tn, none⟩ = false := frozen_blk hb1
    obtain ⟨ov, hov⟩ : ∃ ov, u8 ((cpy xs s.data.toList)[tn]'(by rw [cpy_len]; omega)) = ov := ⟨_, rfl⟩
    rw [hov] at c2
    have htn0 : (tn : Int) < (m : Int) + 1 := by omega
    clear hlen htn2 hov
    clear hb1 hk1 hb hb0 hf hf' hf2 hk0 hmn hlb h47 hcp hkk hbf1
    go_enter Tryz.func96, Tryz.ntmps96
    go_wp2_with (first | (with_reducible refine Lib.wpList_copy_run _ rfl (.tmp 16) (.tmp 17) 25 9 rfl _ _ rfl rfl hr ?_) | (go_at_call 127; refine (zzTrimRight_any (s.extract 0 m) 47 w1 (by rw [hsz2]; omega)).mono ?_; rintro e w2 ⟨rfl, q, rfl⟩))
    go_end0
    refine ⟨rfl, ?_, ?_, ((HK.out.drewN q).setCell (.inl (.inl rfl)) _)⟩
    · have h1 := set_blk (w := w1.drewN q) (v := .int .u8 0) (j := off + tn) HB.out
      rw [← hP] at h1 ⊢
      rw [set30 P _ Q tn (by rw [cpy_len]; omega), HE.out] at h1
      simpa using h1
    · rw [Below.heap_setCell _ _ _ _ hfb]; exact HF.out
  · have HE := Asd.mk (fmtS_eq3 xs s.data.toList (by omega) (by rw [hlen, hlb]; simpa using h47))
    have hb47 : ((lb.toNat : Int) == 47) = false := by
      rw [beq_eq_false_iff_ne]; intro e
      have e' : lb.toNat = 47 := by exact_mod_cast e
      exact h47 (UInt8.toNat_inj.1 e')
    have HB := Asd.mk hb1
    have HK := Asd.mk hkk
    have HF := Asd.mk hbf1
    clear hb1 hk1 hb hb0 hf hf' hf2 hk0 hmn hlb h47 hcp hkk hbf1 hlen
    go_enter Tryz.func96, Tryz.ntmps96
    go_wp2_with (with_reducible refine Lib.wpList_copy_run _ rfl (.tmp 16) (.tmp 17) 25 9 rfl _ _ rfl rfl hr ?_)
    go_end0
    have h1 := HB.out
    rw [HE.out] at h1
    exact ⟨rfl, by simpa using h1, HF.out, HK.out⟩
/-- formatString, all cases. -/
theorem formatString_any (b off n c bf : Nat) (P : List Value) (xs : List UInt8) (Q : List Value) (T : TypeId) (s : ByteArray) (e0 : Value) (p4 : Addr) (w : World)
    (hb : w.heap[b]? = some (.cells (P ++ cells xs ++ Q).toArray T (0, 0))) (hP : P.length = off) (hx : xs.length = n) (hn : n ≤ 512) (hn1 : 1 ≤ n) (hc : n ≤ c) (ho : off ≤ 1024)
    (hg : w.cell? ⟨4, 0, none⟩ = some (.iface 182 (.pointer (some p4)))) (hf : w.heap[bf]? = some (.cells #[e0] 155 (0, 0))) (hfb : bf ≠ b) (hsz : s.size ≤ 140737488351232) :
    Calls Tryz.prog 96 #[.pointer (some ⟨bf, 0, none⟩), .slice (some ⟨b, off, none⟩) n c, .string s] w fun e w' => e = .returned (.tuple #[]) ∧
      w'.heap[b]? = some (.cells (P ++ cells (fmtS xs s.data.toList) ++ Q).toArray T (0, 0)) ∧ w'.heap[bf]? = some (.cells #[if n < s.size then .iface 182 (.pointer (some p4)) else e0] 155 (0, 0)) ∧ Kp (fun k => k = b ∨ k = bf) w w' := by
  rcases Nat.lt_trichotomy s.size n with h | h | h
  · refine (fmtS_short b off n c bf P xs Q T s e0 w hb hP hx hn hc ho h).mono ?_
    rintro e w' ⟨rfl, h1, h2⟩
    exact ⟨rfl, h1, by rw [if_neg (by omega)]; exact h2.get hf hfb, h2.mono fun k hk => .inl hk⟩
  · refine (fmtS_even b off n c bf P xs Q T s w hb hP hx hn hc ho h).mono ?_
    rintro e w' ⟨rfl, h1, h2⟩
    exact ⟨rfl, h1, by rw [if_neg (by omega)]; exact h2.get hf hfb, h2.mono fun k hk => .inl hk⟩
  · obtain ⟨m, rfl⟩ : ∃ m, n = m + 1 := ⟨n - 1, by omega⟩
    refine (fmtS_long b off m c bf P xs Q T s e0 p4 w hb hP hx hn hc ho hg hf hfb h hsz).mono ?_
    rintro e w' ⟨rfl, h1, h2, h3⟩
    exact ⟨rfl, h1, by rw [if_pos h]; exact h2, h3⟩
set_option maxRecDepth 100000 in
theorem tz8 (w : World) (h : w.cell? ⟨11, 7, none⟩ = some (.int .u8 3)) :
    Calls Tryz.prog 175 #[.int .u64 8] w fun e w' => e = .returned (.int .i64 3) ∧ w = w' := by
  have hb : bits .and .u64 8 (IntKind.u64.wrap (-8)) = 8 := by rfl
  go_enter Tryz.func175, Tryz.ntmps175
  go_wp2
  go_ret
  exact ⟨rfl, rfl⟩
theorem pow2 (w : World) : Calls Tryz.prog 174 #[.int .i64 8] w fun e w' => e = .returned (.bool true) ∧ w = w' := by
  go_enter Tryz.func174, Tryz.ntmps174
  go_wp2
  go_ret
  exact ⟨rfl, rfl⟩
/-- The octal digits of a number. -/
def od (u : Nat) : List UInt8 := if h : u < 8 then [UInt8.ofNat (48 + u)] else od (u / 8) ++ [UInt8.ofNat (48 + u % 8)]
termination_by u
decreasing_by omega
theorem od_lt {u : Nat} (h : u < 8) : od u = [UInt8.ofNat (48 + u)] := by unfold od; rw [dif_pos h]
theorem od_ge {u : Nat} (h : ¬ u < 8) : od u = od (u / 8) ++ [UInt8.ofNat (48 + u % 8)] := by conv => lhs; unfold od; rw [dif_neg h]
theorem and7 (u : Nat) (h : u < 18446744073709551616) : bits .and .u64 (u : Int) 7 = ((u % 8 : Nat) : Int) := by
  have := u64_and_nat u 7 h (by omega)
  rw [show ((7 : Nat) : Int) = 7 from rfl] at this
  rw [this, show (7 : Nat) = 2 ^ 3 - 1 from rfl, Nat.and_two_pow_sub_one_eq_mod]
def digStr : ByteArray := ⟨#[48, 49, 50, 51, 52, 53, 54, 55, 56, 57, 97, 98, 99, 100, 101, 102, 103, 104, 105, 106, 107, 108, 109, 110, 111, 112, 113, 114, 115, 116, 117, 118, 119, 120, 121, 122]⟩
theorem dig_at (r : Nat) (hr : r < 8) : ∀ h : r < digStr.size, (digStr[r]'h).toNat = (UInt8.ofNat (48 + r)).toNat := by
  intro h
  match r, hr with
  | 0, _ => rfl
  | 1, _ => rfl
  | 2, _ => rfl
  | 3, _ => rfl
  | 4, _ => rfl
  | 5, _ => rfl
  | 6, _ => rfl
  | 7, _ => rfl
theorem al235 : Tryz.prog.arrayLen 235 = 65 := by kernel_rfl
theorem el235 : Tryz.prog.elem 235 = 5 := by kernel_rfl
theorem so5 (w : World) : (sizeOf 5).run Tryz.prog w = .ok 1 w := by kernel_rfl
theorem sl235 (n l m : Nat) (hm : l + m = 65) (hm1 : 1 ≤ m) (W : World) : (Instr.sliceAt 235 (.pointer (some ⟨n, 0, none⟩)) (some (.int .i64 l)) none none).run Tryz.prog W = .ok (.slice (some ⟨n, l, none⟩) m m) W := by
  rw [run_sliceAt_array_l (P := Tryz.prog) (t := 235) (h1 := by rw [al235]; omega) (h0 := by omega) (ht := by rw [al235, el235]; exact Tryz.underlying235)]
  simp only [al235, el235, so5, slicedAt, Result.andThen_ok, Int.toNat_natCast]
  rw [if_neg (by omega), Nat.mul_one, show 65 - l = m by omega]
  have e : (⟨n, 0, none⟩ : Addr).add l = ⟨n, l, none⟩ := by unfold Addr.add; split <;> simp_all
  rw [e]
set_option maxRecDepth 100000 in
set_option maxHeartbeats 1000000 in
theorem formatBits8 (x : Nat) (w : World) (hx : x < 9223372036854775808) (h : w.cell? ⟨11, 7, none⟩ = some (.int .u8 3)) (hw : 11 < w.heap.size) :
    Calls Tryz.prog 158 #[.slice none 0 0, .int .u64 x, .int .i64 8, .bool false, .bool false] w fun e w' => e = .returned (.tuple #[.slice none 0 0, .string ⟨(od x).toArray⟩]) ∧ Below w.heap.size w w' := by
  go_enter Tryz.func158, Tryz.ntmps158
  go_wp2_with (first | (go_at_call 174; refine (pow2 _).mono ?_; rintro e w1 ⟨rfl, rfl⟩) | (go_at_call 175; refine (tz8 _ (by go_simp)).mono ?_; rintro e w1 ⟨rfl, rfl⟩))
  have hz : Tryz.zeroCells235.toList.length = 65 := by kernel_rfl
  have hA0 : (w.alloc (.cells Tryz.zeroCells235 235)).heap[w.heap.size]? = some (.cells Tryz.zeroCells235.toList.toArray 235 (0, 0)) := by rw [Array.toArray_toList]; exact heap_alloc_new w _
  have hbl0 : Below w.heap.size w (w.alloc (.cells Tryz.zeroCells235 235)) := (Below.refl _ _).alloc (Nat.le_refl _) _
  obtain ⟨A, hA⟩ : ∃ A, w.heap.size = A := ⟨_, rfl⟩
  obtain ⟨W0, hW0⟩ : ∃ W0, W0 = w.alloc (.cells Tryz.zeroCells235 235) := ⟨_, rfl⟩
  rw [← hW0] at hA0 hbl0 ⊢
  rw [hA] at hA0 hbl0 ⊢
  have HA0 := Asd.mk hA0
  have HZ := Asd.mk hz
  clear hA0 hz hW0
  go_loopw [1, 13] (fun uv iv wr => ∃ (u i j : Nat) (ds : List UInt8) (C : List Value), uv = .int .u64 u ∧ iv = .int .i64 i ∧ i + j = 65 ∧ ds.length = j ∧ Asd (wr.heap[A]? = some (.cells C.toArray 235 (0, 0))) ∧ C.length = 65 ∧ Asd (C.drop i = cells ds) ∧ Asd (od x = od u ++ ds) ∧ j ≤ 20 ∧ Asd (8 ^ j * u ≤ x) ∧ Below A w wr) (fun uv _ _ => (intOf uv).toNat)
  case atStart => exact ⟨x, 65, 0, [], Tryz.zeroCells235.toList, rfl, rfl, rfl, rfl, HA0, HZ.out, ⟨by rw [List.drop_of_length_le (Nat.le_of_eq HZ.out)]; rfl⟩, ⟨by simp⟩, by omega, ⟨by simp⟩, hbl0⟩
  case round =>
    clear HA0 HZ hbl0
    obtain ⟨u, i, j, ds, C, rfl, rfl, hij, hdl, HC, hCl, HD, HO, hj, HP, hbw⟩ := hrel
    have hux : u ≤ x := Nat.le_trans (Nat.le_mul_of_pos_left u (Nat.pow_pos (by omega))) HP.out
    by_cases hu : u < 8
    · have hcell := cell_blk HC.out (j := i - 1) (v := C[i - 1]'(by omega)) (List.getElem?_eq_getElem (by omega))
      generalize C[i - 1]'(by omega) = ov at hcell
      have hfr := frozen_blk HC.out (j := i - 1)
      obtain ⟨dg, hdg⟩ : ∃ dg, UInt8.ofNat (48 + u) = dg := ⟨_, rfl⟩
      have hdig : ∀ h : u < digStr.size, ((digStr[u]'h).toNat : Int) = (dg.toNat : Int) := by
        intro h; rw [dig_at u hu h, hdg]
      unfold digStr at hdig
      have HOD := Asd.mk ((HO.out.trans (by rw [od_lt hu, hdg]; rfl)) : od x = dg :: ds)
      have h8 : (u : Int) < 8 := by omega
      have h1 := set_blk (j := i - 1) (v := u8 dg) HC.out
      have hdr : (C.set (i - 1) (u8 dg)).drop (i - 1) = cells (dg :: ds) := by
        rw [List.drop_eq_getElem_cons (by simp; omega), List.getElem_set_self, show i - 1 + 1 = i by omega, List.drop_set_of_lt (by omega), HD.out]; rfl
      have hsl := fun W => sl235 A (i - 1) (j + 1) (by omega) (by omega) W
      have hi1 : (((i - 1 : Nat) : Nat) : Int) = (i : Int) - 1 := by omega
      rw [hi1] at hsl
      have hlen2 : (dg :: ds).length = j + 1 := by simp [hdl]
      have hcv := run_convert_bytes_back (P := Tryz.prog) (wr.setCell ⟨A, i - 1, none⟩ (u8 dg)) 25 9 5 ⟨A, i - 1, none⟩ (j + 1) (dg :: ds) Tryz.underlying25 Tryz.underlying5 Tryz.underlying9 (fun q hq => by
        have e : (⟨A, i - 1, none⟩ : Addr).add q = ⟨A, i - 1 + q, none⟩ := by unfold Addr.add; split <;> simp_all
        rw [e]
        refine cell_blk h1 ?_
        have := congrArg (fun l => l[q]?) hdr
        simp only [List.getElem?_drop] at this
        rw [this, cells_get, List.getElem?_eq_getElem hq]
        rfl)
      rw [hlen2] at hcv
      have hu8 : u8 dg = .int .u8 (dg.toNat : Int) := rfl
      rw [hu8] at hcv
      have HB := Asd.mk hbw
      have hi2 : 45 ≤ i := by omega
      have hi3 : i ≤ 65 := by omega
      clear hdg h1 hdr hi1 hlen2 hu8 hbw hdl hij
      go_wp2
      go_ret2
      exact ⟨by rw [HOD.out]; rfl, HB.out.setCell (Nat.le_refl _) _⟩
    · have hj2 : j + 1 ≤ 20 := by
        have h1 : 8 ^ (j + 1) ≤ x := Nat.le_trans (by rw [Nat.pow_succ]; exact Nat.mul_le_mul_left _ (by omega)) HP.out
        have h2 : 8 ^ (j + 1) < 8 ^ 21 := by omega
        have := (Nat.pow_lt_pow_iff_right (by omega)).1 h2
        omega
      have hcell := cell_blk HC.out (j := i - 1) (v := C[i - 1]'(by omega)) (List.getElem?_eq_getElem (by omega))
      generalize C[i - 1]'(by omega) = ov at hcell
      have hfr := frozen_blk HC.out (j := i - 1)
      have hb7 := and7 u (by omega)
      obtain ⟨dg, hdg⟩ : ∃ dg, UInt8.ofNat (48 + u % 8) = dg := ⟨_, rfl⟩
      have hdig : ∀ h : u % 8 < digStr.size, ((digStr[u % 8]'h).toNat : Int) = (dg.toNat : Int) := by
        intro h; rw [dig_at (u % 8) (by omega) h, hdg]
      unfold digStr at hdig
      have HOD := Asd.mk ((od_ge hu).trans (by rw [hdg]))
      have h8 : ¬ (u : Int) < 8 := by omega
      clear hdg
      go_wp2
      go_roundw
      case rel =>
        have h1 := set_blk (j := i - 1) (v := u8 dg) HC.out
        refine ⟨u / 8, i - 1, j + 1, dg :: ds, C.set (i - 1) (u8 dg), by congr 1, by congr 1; omega, by omega, by simp; omega, ⟨h1⟩, by simp; omega, ⟨?_⟩, ⟨?_⟩, hj2, ⟨?_⟩, hbw.setCell (by exact Nat.le_refl _) _⟩
        · rw [List.drop_eq_getElem_cons (by simp; omega), List.getElem_set_self, show i - 1 + 1 = i by omega, List.drop_set_of_lt (by omega), HD.out]; rfl
        · rw [HO.out, HOD.out]; simp
        · rw [Nat.pow_succ, Nat.mul_assoc]; exact Nat.le_trans (Nat.mul_le_mul_left _ (by omega)) HP.out
      case measure => simp [intOf]; omega
theorem iFormatInt8 (x : Nat) (w : World) (hx : x < 9223372036854775808) (h : w.cell? ⟨11, 7, none⟩ = some (.int .u8 3)) (hw : 11 < w.heap.size) :
    Calls Tryz.prog 125 #[.int .i64 x, .int .i64 8] w fun e w' => e = .returned (.string ⟨(od x).toArray⟩) ∧ Below w.heap.size w w' := by
  have hu : IntKind.u64.wrap (x : Int) = x := by rw [IntKind.wrap_u64]; omega
  have hx0 : ¬ ((x : Int) < 0) := by omega
  go_enter Tryz.func125, Tryz.ntmps125
  go_wp2_with (go_at_call 158; refine (formatBits8 x _ hx h hw).mono ?_; rintro e w1 ⟨rfl, hb1⟩)
  go_ret
  exact ⟨rfl, hb1⟩
theorem FormatInt8 (x : Nat) (w : World) (hx : x < 9223372036854775808) (h : w.cell? ⟨11, 7, none⟩ = some (.int .u8 3)) (hw : 11 < w.heap.size) :
    Calls Tryz.prog 67 #[.int .i64 x, .int .i64 8] w fun e w' => e = .returned (.string ⟨(od x).toArray⟩) ∧ Below w.heap.size w w' := by
  go_enter Tryz.func67, Tryz.ntmps67
  go_wp2_with (go_at_call 125; refine (iFormatInt8 x _ hx h hw).mono ?_; rintro e w1 ⟨rfl, hb1⟩)
  go_ret
  exact ⟨rfl, hb1⟩
theorem od_len (u : Nat) : ∀ k, 1 ≤ k → u < 8 ^ k → (od u).length ≤ k ∧ 1 ≤ (od u).length
  | 0, h, _ => by omega
  | k + 1, _, hk => by
    by_cases hu : u < 8
    · rw [od_lt hu]; simp
    · rw [od_ge hu]
      have hk1 : 1 ≤ k := by
        rcases Nat.eq_zero_or_pos k with rfl | h
        · simp at hk; omega
        · exact h
      have := od_len (u / 8) k hk1 (by rw [Nat.div_lt_iff_lt_mul (by omega)]; rw [Nat.pow_succ] at hk; exact hk)
      simp
      omega
end Go.Proofs.YtpkilegnokajmaaGreatDoor
