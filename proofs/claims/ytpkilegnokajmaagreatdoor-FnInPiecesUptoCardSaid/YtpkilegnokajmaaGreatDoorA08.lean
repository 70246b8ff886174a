/- Contract: zzTrimRight at a set of one byte. -/
import Derived.Test.YtpkilegnokajmaaGreatDoorA00
import Derived.Deep.QuietTactic
set_option linter.unusedVariables false
set_option linter.unusedSimpArgs false
set_option linter.unnecessarySimpa false
set_option linter.unusedSectionVars false
namespace Go.Proofs.YtpkilegnokajmaaGreatDoor
open Go.RowKit

/-- How many bytes are left when all bytes c at the end are gone. -/
def trimN (s : ByteArray) (c : UInt8) : Nat → Nat
  | 0 => 0
  | n + 1 => if s.data[n]? = some c then trimN s c n else n + 1
def trimR (s : ByteArray) (c : UInt8) : ByteArray := ⟨(s.data.toList.take (trimN s c s.size)).toArray⟩
theorem trimN_le (s : ByteArray) (c : UInt8) : ∀ n, trimN s c n ≤ n
  | 0 => by simp [trimN]
  | n + 1 => by unfold trimN; split; exact Nat.le_succ_of_le (trimN_le s c n); exact Nat.le_refl _
set_option maxRecDepth 100000 in
set_option maxHeartbeats 1000000 in
theorem zzTrimRight_any (s : ByteArray) (c : UInt8) (w : World) (hs : s.size ≤ 140737488351232) :
    Calls Tryz.prog 127 #[.string s, .string ⟨#[c]⟩] w fun e w' => e = .returned (.string (trimR s c)) ∧ ∃ n, w' = w.drewN n := by
  go_enter Tryz.func127, Tryz.ntmps127
  go_wp2
  go_loopw [5, 6, 7] (fun n _ _ wr => ∃ k q : Nat, k ≤ s.size ∧ n = .int .i64 k ∧ wr = w.drewN q ∧ trimN s c s.size = trimN s c k) (fun n _ _ _ => (intOf n).toNat)
  case atStart => exact ⟨s.size, 0, Nat.le_refl _, rfl, rfl, rfl⟩
  case round =>
    obtain ⟨k, q, hk, rfl, rfl, hT⟩ := hrel
    have HT := Asd.mk hT
    clear hT
    by_cases h0 : k = 0
    · subst h0
      go_wp2
      go_ret
      exact ⟨ret_str (by unfold trimR; rw [HT.out]; rfl), q, rfl⟩
    · have hk1 : (0 : Int) < (k : Int) := by omega
      obtain ⟨b, hb⟩ : ∃ b, s.data[k - 1]? = some b := ⟨s.data[k - 1]'(by have : s.size = s.data.size := rfl; omega), Array.getElem?_eq_getElem _⟩
      have p1 := eq_true (show (0 : Int) ≤ (k : Int) - 1 by omega)
      have p1b := eq_true (show (1 : Int) ≤ (k : Int) by omega)
      have p1c := eq_true (show 1 ≤ k by omega)
      have hd1 : decide (0 < k) = true := by rw [decide_eq_true_eq]; omega
      have p2 := eq_true (show (k : Int) - 1 < (s.size : Int) by omega)
      have p3 : ∀ h : ((k : Int) - 1).toNat < s.size, ((s[((k : Int) - 1).toNat]'h).toNat : Int) = (b.toNat : Int) := by
        intro h
        have e : ((k : Int) - 1).toNat = k - 1 := by omega
        have hb2 := (Array.getElem?_eq_some_iff.1 hb).2
        rw [ByteArray.getElem_eq_getElem_data]
        simp only [e]
        rw [hb2]
      have p4 : ∀ h : k - 1 < s.size, ((s[k - 1]'h).toNat : Int) = (b.toNat : Int) := by
        intro h
        have hb2 := (Array.getElem?_eq_some_iff.1 hb).2
        rw [ByteArray.getElem_eq_getElem_data, hb2]
      have hT2 : trimN s c k = if b = c then trimN s c (k - 1) else k := by
        obtain ⟨j, rfl⟩ : ∃ j, k = j + 1 := ⟨k - 1, by omega⟩
        simp only [Nat.add_sub_cancel] at hb ⊢
        rw [trimN, hb]
        simp
      by_cases hbc : b = c
      · subst hbc
        have HT2 := Asd.mk (hT2.trans (if_pos rfl))
        have e1 : ∀ h : 0 < (⟨#[b]⟩ : ByteArray).size, ((((⟨#[b]⟩ : ByteArray)[0]'h).toNat : Int) == (b.toNat : Int)) = true := by
          intro h; rw [beq_iff_eq]; rfl
        clear h0 hb hT2
        go_wp2
        go_loopw [6, 7] (fun f i wr => ∃ q : Nat, wr = w.drewN q ∧ ((i = .int .i64 0 ∧ f = .bool false) ∨ (i = .int .i64 1 ∧ f = .bool true))) (fun _ i _ => (1 - intOf i).toNat)
        case atStart => exact ⟨q, rfl, .inl ⟨rfl, rfl⟩⟩
        case round =>
          obtain ⟨q2, rfl, hor⟩ := hrel
          rcases hor with ⟨rfl, rfl⟩ | ⟨rfl, rfl⟩
          · have hw : IntKind.i64.wrap ((k : Int) - 1) = (k : Int) - 1 := by rw [IntKind.wrap_i64]; omega
            go_wp2
            go_quiet (fail)
            clear hw
            go_wp2
            go_roundw
            case rel => exact ⟨_, rfl, .inr ⟨rfl, rfl⟩⟩
            case measure => simp [intOf]
          · go_wp2
            go_roundw
            case rel => exact ⟨k - 1, _, by omega, by congr 1; omega, rfl, by rw [HT.out, HT2.out]⟩
            case measure => simp [intOf]; omega
      · have HT2 := Asd.mk (hT2.trans (if_neg hbc))
        have e1 : ∀ h : 0 < (⟨#[c]⟩ : ByteArray).size, ((((⟨#[c]⟩ : ByteArray)[0]'h).toNat : Int) == (b.toNat : Int)) = false := by
          intro h; rw [beq_eq_false_iff_ne]; intro e
          exact hbc (by apply UInt8.toNat_inj.1; have e' : c.toNat = b.toNat := by exact_mod_cast e
                        exact e'.symm)
        clear h0 hb hT2 hbc
        go_wp2
        go_loopw [6, 7] (fun f i wr => ∃ q : Nat, wr = w.drewN q ∧ ((i = .int .i64 0 ∧ f = .bool false) ∨ (i = .int .i64 1 ∧ f = .bool false))) (fun _ i _ => (1 - intOf i).toNat)
        case atStart => exact ⟨q, rfl, .inl ⟨rfl, rfl⟩⟩
        case round =>
          obtain ⟨q2, rfl, hor⟩ := hrel
          rcases hor with ⟨rfl, rfl⟩ | ⟨rfl, rfl⟩
          · have hw : IntKind.i64.wrap ((k : Int) - 1) = (k : Int) - 1 := by rw [IntKind.wrap_i64]; omega
            go_wp2
            go_quiet (fail)
            clear hw
            go_wp2
            go_roundw
            case rel => exact ⟨_, rfl, .inr ⟨rfl, rfl⟩⟩
            case measure => simp [intOf]
          · go_wp2
            go_ret
            exact ⟨ret_str (by unfold trimR; rw [HT.out, HT2.out, Lib.extract_eq]; simp), _, rfl⟩
end Go.Proofs.YtpkilegnokajmaaGreatDoor
