/- Contracts: reset and computeChecksum of a header block. -/
import Derived.Test.YtpkilegnokajmaaGreatDoorA02
import Derived.Test.YtpkilegnokajmaaGreatDoorA00
import Derived.Deep.QuietTactic
import Derived.BigQuiet
set_option linter.unusedVariables false
set_option linter.unusedSimpArgs false
set_option linter.unnecessarySimpa false
set_option linter.unusedSectionVars false
namespace Go.Proofs.YtpkilegnokajmaaGreatDoor
open Go.RowKit
/-- A block of zeros. -/
def zero512 : List UInt8 := List.replicate 512 0
theorem zero512_len : zero512.length = 512 := List.length_replicate ..
theorem zc102 : Tryz.zeroCells102 = (cells zero512).toArray := by kernel_rfl
theorem info102 : (Tryz.prog.info? 102).map (·.size) = some 512 := by kernel_rfl
set_option maxRecDepth 100000 in
set_option maxHeartbeats 1000000 in
theorem reset_any (b o : Nat) (A : List Value) (blk : List UInt8) (Q : List Value) (T : TypeId) (w : World)
    (hb : w.heap[b]? = some (.cells (A ++ cells blk ++ Q).toArray T (0, 0))) (ho : A.length = o) (hl : blk.length = 512) :
    Calls Tryz.prog 130 #[.pointer (some ⟨b, o, none⟩)] w fun e w' => e = .returned (.tuple #[]) ∧ w'.heap[b]? = some (.cells (A ++ cells zero512 ++ Q).toArray T (0, 0)) ∧ Kp (fun k => k = b) w w' := by
  go_enter Tryz.func130, Tryz.ntmps130
  go_wp2_with (with_reducible refine wpList_storeMid rfl 102 (.tmp 4) (.tmp 3) rfl b o A (cells blk) Q (cells zero512) T rfl ?_ hb ho ?_ ?_ ?_ ?_)
  · show Value.agg Tryz.zeroCells102 = _
    rw [zc102]
  · rw [cells_len, cells_len, zero512_len, hl]
  · rw [cells_len, zero512_len]; exact info102
  · exact cells_one _
  · intro w' h1 h2
    go_wp2
    go_end0
    exact ⟨rfl, by simpa using h1, h2⟩
/-- The sum of the first k bytes of a block, the field of the check sum as spaces. -/
def ckTo (blk : List UInt8) : Nat → Nat
  | 0 => 0
  | k + 1 => ckTo blk k + (if 148 ≤ k ∧ k < 156 then 32 else (blk.getD k 0).toNat)
theorem ckTo_le (blk : List UInt8) : ∀ k, ckTo blk k ≤ 255 * k
  | 0 => by simp [ckTo]
  | k + 1 => by
    have := ckTo_le blk k
    have := (blk.getD k 0).toNat_lt
    unfold ckTo
    split <;> omega
set_option maxRecDepth 100000 in
set_option maxHeartbeats 1000000 in
theorem computeChecksum_any (b o : Nat) (A : List Value) (blk : List UInt8) (Q : List Value) (T : TypeId) (w : World)
    (hb : w.heap[b]? = some (.cells (A ++ cells blk ++ Q).toArray T (0, 0))) (ho : A.length = o) (hl : blk.length = 512) :
    Calls Tryz.prog 142 #[.pointer (some ⟨b, o, none⟩)] w fun e w' => ∃ n, w' = w.drewN n ∧ ∃ s2, e = .returned (.tuple #[.int .i64 (ckTo blk 512), s2]) := by
  have HB := Asd.mk hb
  clear hb
  go_enter Tryz.func142, Tryz.ntmps142
  go_wp2
  go_loopw [2, 3, 4, 5, 7] (fun uv sv _ _ iv wr => ∃ (k q : Nat) (s2 : Int), k ≤ 512 ∧ uv = .int .i64 (ckTo blk k : Nat) ∧ sv = .int .i64 s2 ∧ iv = .int .i64 k ∧ wr = w.drewN q) (fun _ _ _ _ iv _ => 512 - (intOf iv).toNat)
  case atStart => exact ⟨0, 0, 0, by omega, rfl, rfl, rfl, rfl⟩
  case round =>
    obtain ⟨k, q, s2, hk, rfl, rfl, rfl, rfl⟩ := hrel
    by_cases hlt : k < 512
    · obtain ⟨c, hc⟩ : ∃ c, blk.getD k 0 = c := ⟨_, rfl⟩
      have hcl : w.cell? ⟨b, o + k, none⟩ = some (.int .u8 (c.toNat : Int)) := by
        have := cell_blk HB.out (get_mid A (cells blk) Q k (by rw [cells_len]; omega) |>.trans (by rw [cells_get, List.getElem?_eq_getElem (by omega)]; rfl))
        rw [ho] at this
        rw [this]
        have e : blk[k]'(by omega) = c := by rw [← hc, List.getD_eq_getElem?_getD, List.getElem?_eq_getElem (by omega)]; rfl
        rw [e]; rfl
      have hct := c.toNat_lt
      have hsum := ckTo_le blk k
      have i1 : (0 : Int) ≤ (k : Int) := by omega
      have i2 : (k : Int) < 512 := by omega
      have HS := Asd.mk (show ckTo blk (k + 1) = ckTo blk k + (if 148 ≤ k ∧ k < 156 then 32 else c.toNat) by rw [← hc]; rfl)
      clear hc
      by_cases hin : 148 ≤ k ∧ k < 156
      · rw [if_pos hin] at HS
        obtain ⟨g1, g2⟩ := hin
        go_wp2
        go_quiet (fail)
        go_wp2
        go_roundw
        case rel => exact ⟨k + 1, _, _, by omega, by congr 1; rw [HS.out]; push_cast; rfl, rfl, by congr 1, rfl⟩
        case measure => simp [intOf]; omega
      · rw [if_neg hin] at HS
        have hin2 : k < 148 ∨ 156 ≤ k := by omega
        clear hin
        rcases hin2 with hin | hin
        · go_wp2
          go_quiet (fail)
          go_wp2
          go_roundw
          case rel => exact ⟨k + 1, _, _, by omega, by congr 1; rw [HS.out]; push_cast; rfl, rfl, by congr 1, rfl⟩
          case measure => simp [intOf]; omega
        · go_wp2
          go_quiet (fail)
          go_wp2
          go_roundw
          case rel => exact ⟨k + 1, _, _, by omega, by congr 1; rw [HS.out]; push_cast; rfl, rfl, by congr 1, rfl⟩
          case measure => simp [intOf]; omega
    · have e : k = 512 := by omega
      subst e
      go_wp2
      go_ret2
      exact ⟨q, rfl, _, rfl⟩
end Go.Proofs.YtpkilegnokajmaaGreatDoor
