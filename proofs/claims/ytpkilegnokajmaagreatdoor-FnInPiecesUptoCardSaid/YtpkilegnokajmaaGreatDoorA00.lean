/- Words for the proofs over archive/tar's Writer: bytes as cells, which blocks a call keeps, a block's cells in three pieces. Contracts: zzIndex, zzContains, hasNUL: where a byte stands in a string. Contracts: small functions over numbers, formats and types. Contracts: the package of times. Contracts: the package of times: Unix, Round. Contracts: the package of times: Unix, Round. Contracts: the package of times: Unix, Round. A header of the package, in twenty cells. Contracts: the formats as a set; whether a record may be told. Contract: isASCII: all bytes are below 128 and none is 0. Contracts: the fields of a header block (laid by a program of mine out of the list of fields). Contract: toASCII: the bytes below 128 that are not 0. -/
import Derived.Test.YtpkilegnokajmaaGreatDoorRows
import Derived.WalkKit
import Derived.WalkSpells
import Derived.WalkLawsBesides
import Derived.Lib.Buffer
import Derived.Lib.OthersKept
import Derived.Lib.Hide
import Derived.BigRegion
import Derived.Deep.RegionWith
import Derived.Laws.IdiomCopy
import Derived.Lib.Strings
import Derived.Lib.PathFns
import Derived.Laws.BitsAllLaws
import Derived.Lib.BufferRead
set_option linter.unusedVariables false
set_option linter.unusedSimpArgs false
set_option linter.unnecessarySimpa false
set_option linter.unusedSectionVars false
namespace Go.Proofs.YtpkilegnokajmaaGreatDoor
open Go.RowKit

/-- A fact laid aside: the walk's simp does not look into it. -/
structure Asd (p : Prop) : Prop where
  mk ::
  out : p

/-- A byte as a cell; bytes as cells. -/
def u8 (c : UInt8) : Value := .int .u8 c.toNat
def cells (l : List UInt8) : List Value := l.map u8
theorem cells_one (l : List UInt8) : ∀ v ∈ cells l, v.oneCell' = true := by
  intro v hv; simp [cells] at hv; obtain ⟨c, _, rfl⟩ := hv; rfl
theorem cells_len (l : List UInt8) : (cells l).length = l.length := by simp [cells]
theorem cells_append (a b : List UInt8) : cells (a ++ b) = cells a ++ cells b := by simp [cells]
theorem cells_get (l : List UInt8) (j : Nat) : (cells l)[j]? = (l[j]?).map u8 := by simp [cells]

theorem ret_int {k : IntKind} {a b : Int} (h : a = b) : Ending.returned (.int k a) = .returned (.int k b) := by rw [h]
theorem ret_bool {a b : Bool} (h : a = b) : Ending.returned (.bool a) = .returned (.bool b) := by rw [h]
theorem ret_str {a b : ByteArray} (h : a = b) : Ending.returned (.string a) = .returned (.string b) := by rw [h]
theorem ba_ext {a b : ByteArray} (h : a.data.toList = b.data.toList) : a = b := by
  cases a; cases b; simp at h; simp [h]

/-- All blocks that are not in S are kept; the streams too; nothing goes away. -/
structure Kp (S : Nat → Prop) (w w' : World) : Prop where
  os : w'.os = w.os
  tape : w'.tape = w.tape
  output : w'.output = w.output
  size : w.heap.size ≤ w'.heap.size
  block : ∀ k, k < w.heap.size → ¬ S k → w'.heap[k]? = w.heap[k]?

variable {S S' : Nat → Prop} {w w1 w2 w' : World}
theorem Kp.refl (S : Nat → Prop) (w : World) : Kp S w w := ⟨rfl, rfl, rfl, Nat.le_refl _, fun _ _ _ => rfl⟩
theorem Kp.trans (h : Kp S w w1) (k : Kp S w1 w2) : Kp S w w2 :=
  ⟨k.os.trans h.os, k.tape.trans h.tape, k.output.trans h.output, Nat.le_trans h.size k.size, fun i hi hs => (k.block i (Nat.lt_of_lt_of_le hi h.size) hs).trans (h.block i hi hs)⟩
theorem Kp.mono (h : Kp S w w1) (hs : ∀ k, S k → S' k) : Kp S' w w1 := ⟨h.os, h.tape, h.output, h.size, fun i hi hn => h.block i hi (fun x => hn (hs i x))⟩
/-- What is written later may also be what was made since. -/
theorem Kp.then_ (h : Kp S w w1) (k : Kp S' w1 w2) (hs : ∀ i, S' i → S i ∨ w.heap.size ≤ i) : Kp S w w2 :=
  ⟨k.os.trans h.os, k.tape.trans h.tape, k.output.trans h.output, Nat.le_trans h.size k.size, fun i hi hn =>
    (k.block i (Nat.lt_of_lt_of_le hi h.size) (fun x => (hs i x).elim hn (fun y => by omega))).trans (h.block i hi hn)⟩
theorem Kp.of_below (h : Below w.heap.size w w1) : Kp S w w1 := ⟨h.os, h.tape, h.output, h.size, fun i hi _ => h.block i hi⟩
theorem Kp.to_below {B : Nat} (h : Kp S w w1) (hB : B ≤ w.heap.size) (hs : ∀ k, S k → B ≤ k) : Below B w w1 :=
  ⟨h.os, h.tape, h.output, h.size, fun i hi => h.block i (Nat.lt_of_lt_of_le hi hB) (fun x => by have := hs i x; omega)⟩
theorem Kp.drew (h : Kp S w w1) : Kp S w w1.drew := ⟨h.os, h.tape, h.output, h.size, h.block⟩
theorem Kp.drewN (h : Kp S w w1) (n : Nat) : Kp S w (w1.drewN n) := ⟨h.os, h.tape, h.output, h.size, h.block⟩
theorem Kp.alloc (h : Kp S w w1) (o : Obj) : Kp S w (w1.alloc o) :=
  h.trans ⟨rfl, rfl, rfl, by simp, fun k hk _ => Below.heap_alloc _ _ _ hk⟩
theorem Kp.setCell (h : Kp S w w1) {p : Addr} (hp : S p.block ∨ w.heap.size ≤ p.block) (u : Value) : Kp S w (w1.setCell p u) :=
  h.then_ (S' := fun k => k = p.block) ⟨rfl, rfl, rfl, by simp [World.setCell], fun k _ hn => Below.heap_setCell _ _ _ _ hn⟩ (fun i hi => by rw [hi]; exact hp)
theorem Kp.get (h : Kp S w w1) {k : Nat} {o : Obj} (ho : w.heap[k]? = some o) (hs : ¬ S k) : w1.heap[k]? = some o := by
  have hlt : k < w.heap.size := by
    rcases Nat.lt_or_ge k w.heap.size with h' | h'
    · exact h'
    · simp [Array.getElem?_eq_none h'] at ho
  rw [h.block k hlt hs, ho]

/-- A block that is there lies in the heap. -/
theorem blk_lt {k : Nat} {o : Obj} (ho : w.heap[k]? = some o) : k < w.heap.size := by
  rcases Nat.lt_or_ge k w.heap.size with h' | h'
  · exact h'
  · simp [Array.getElem?_eq_none h'] at ho
theorem blk_below {k : Nat} {o : Obj} (ho : w.heap[k]? = some o) (h : Below w.heap.size w w1) : w1.heap[k]? = some o := by rw [h.block k (blk_lt ho), ho]
theorem cell_blk {k j : Nat} {C : List Value} {T : TypeId} {fr : Nat × Nat} {v : Value} (ho : w.heap[k]? = some (.cells C.toArray T fr)) (hv : C[j]? = some v) : w.cell? ⟨k, j, none⟩ = some v := by
  simp [World.cell?, ho, hv]
theorem frozen_blk {k j : Nat} {C : List Value} {T : TypeId} (ho : w.heap[k]? = some (.cells C.toArray T (0, 0))) : w.frozen? ⟨k, j, none⟩ = false := by
  simp [World.frozen?, ho]
theorem set_blk {k j : Nat} {C : List Value} {T : TypeId} {fr : Nat × Nat} {v : Value} (ho : w.heap[k]? = some (.cells C.toArray T fr)) : (w.setCell ⟨k, j, none⟩ v).heap[k]? = some (.cells (C.set j v).toArray T fr) := by
  simp [World.setCell, Array.getElem?_modify, ho]
end Go.Proofs.YtpkilegnokajmaaGreatDoor
namespace Go.Proofs.YtpkilegnokajmaaGreatDoor
open Go.RowKit

/-- Is the byte among the bytes? -/
def hasB (s : ByteArray) (c : UInt8) : Bool := s.data.toList.contains c
def idxB (s : ByteArray) (c : UInt8) : Int := match s.data.toList.findIdx? (· == c) with | some i => (i : Int) | none => -1
theorem idxB_none {s : ByteArray} {c : UInt8} (h : ∀ j, j < s.size → s.data[j]? ≠ some c) : idxB s c = -1 := by
  have : s.data.toList.findIdx? (· == c) = none := by
    rw [List.findIdx?_eq_none_iff]
    intro x hx
    obtain ⟨j, hj, rfl⟩ := List.mem_iff_getElem.1 hx
    have hj2 : j < s.data.size := by simpa using hj
    have := h j hj2
    rw [Array.getElem?_eq_getElem hj2] at this
    simpa using this
  unfold idxB; rw [this]
theorem idxB_some {s : ByteArray} {c : UInt8} {k : Nat} (hk : s.data[k]? = some c) (h : ∀ j, j < k → s.data[j]? ≠ some c) : idxB s c = k := by
  have : s.data.toList.findIdx? (· == c) = some k := by
    rw [List.findIdx?_eq_some_iff_getElem]
    obtain ⟨hlt, he⟩ := Array.getElem?_eq_some_iff.1 hk
    refine ⟨by simpa using hlt, by simpa using he, fun j hj => ?_⟩
    have := h j hj
    have hj2 : j < s.data.size := by omega
    rw [Array.getElem?_eq_getElem hj2] at this
    simpa using this
  unfold idxB; rw [this]
theorem idxB_nonneg (s : ByteArray) (c : UInt8) : decide (0 ≤ idxB s c) = hasB s c := by
  unfold idxB hasB
  cases h : s.data.toList.findIdx? (· == c) with
  | none =>
    rw [List.findIdx?_eq_none_iff] at h
    have : s.data.toList.contains c = false := by
      rw [Bool.eq_false_iff]; intro hc
      have := h c (by simpa using hc)
      simp at this
    rw [this]; rfl
  | some i =>
    rw [List.findIdx?_eq_some_iff_getElem] at h
    obtain ⟨hi, he, _⟩ := h
    have : s.data.toList.contains c = true := by
      rw [List.contains_iff_mem]
      rw [← (beq_iff_eq.1 he)]; exact List.getElem_mem hi
    rw [this]; simp
theorem ext1 {s : ByteArray} {k : Nat} {c : UInt8} (hk : k < s.size) : ((s.extract k (k + 1)).toList == [c]) = decide (s.data[k]? = some c) := by
  have : (s.extract k (k + 1)).toList = [s.data[k]'hk] := by
    rw [Lib.extract_toList, Nat.add_sub_cancel_left]
    have hk' : k < s.data.toList.length := by simpa using hk
    rw [List.drop_eq_getElem_cons hk']
    simp
  rw [this]
  have h2 : s.data[k]? = some (s.data[k]'hk) := Array.getElem?_eq_getElem _
  rw [h2]; simp [Bool.beq_eq_decide_eq]

theorem zzIndex_any (s : ByteArray) (c : UInt8) (w : World) (hs : s.size ≤ 140737488351232) :
    Calls Tryz.prog 153 #[.string s, .string ⟨#[c]⟩] w fun e w' => e = .returned (.int .i64 (idxB s c)) ∧ w = w' := by
  go_enter Tryz.func153, Tryz.ntmps153
  go_wp2
  go_loop [5] (fun i => ∃ k : Nat, k ≤ s.size ∧ i = .int .i64 k ∧ ∀ j, j < k → s.data[j]? ≠ some c) (fun i => s.size - (intOf i).toNat)
  case atStart => exact ⟨0, Nat.zero_le _, rfl, by intro j hj; omega⟩
  case round =>
    obtain ⟨k, hk, rfl, hno⟩ := hrel
    by_cases hlt : k < s.size
    · have he := ext1 (c := c) hlt
      by_cases hc : s.data[k]? = some c
      · have hb : ((s.extract k (k + 1)).toList == [c]) = true := by rw [he]; simp [hc]
        have HI := Lib.hid (idxB_some hc hno)
        clear he hc hno
        go_wp2
        go_ret
        exact ⟨ret_int HI.out.symm, rfl⟩
      · have hb : ((s.extract k (k + 1)).toList == [c]) = false := by rw [he]; simp [hc]
        have HC := Lib.hid hc
        have HN := Lib.hid hno
        clear he hc hno
        go_wp2
        go_round
        case rel => exact ⟨k + 1, by omega, by go_num, fun j hj => by rcases Nat.lt_or_ge j k with h | h; exact HN.out j h; rw [show j = k by omega]; exact HC.out⟩
        case measure => simp [intOf]; omega
    · have HI := Lib.hid (idxB_none (s := s) (c := c) (fun j hj => hno j (by omega)))
      clear hno
      go_wp2
      go_ret
      exact ⟨ret_int HI.out.symm, rfl⟩
theorem zzContains_any (s : ByteArray) (c : UInt8) (w : World) (hs : s.size ≤ 140737488351232) :
    Calls Tryz.prog 123 #[.string s, .string ⟨#[c]⟩] w fun e w' => e = .returned (.bool (hasB s c)) ∧ w = w' := by
  go_enter Tryz.func123, Tryz.ntmps123
  go_wp2_with (go_at_call 153; refine (zzIndex_any _ _ _ hs).mono ?_; rintro e w' ⟨rfl, rfl⟩)
  go_ret
  exact ⟨ret_bool (idxB_nonneg s c), rfl⟩
theorem hasNUL_any (s : ByteArray) (w : World) (hs : s.size ≤ 140737488351232) :
    Calls Tryz.prog 60 #[.string s] w fun e w' => e = .returned (.bool (hasB s 0)) ∧ w = w' := by
  go_enter Tryz.func60, Tryz.ntmps60
  go_wp2_with (go_at_call 123; refine (zzContains_any _ _ _ hs).mono ?_; rintro e w' ⟨rfl, rfl⟩)
  go_ret
  exact ⟨rfl, rfl⟩
theorem and511 (x : Int) : bits .and .i64 x 511 = x % 512 := by
  have h : (BitVec.ofInt 64 x &&& BitVec.ofInt 64 511).toNat = (x % 512).toNat := by
    rw [BitVec.toNat_and]
    have h2 : (BitVec.ofInt 64 511).toNat = 2^9 - 1 := by decide
    rw [h2, Nat.and_two_pow_sub_one_eq_mod, BitVec.toNat_ofInt]
    simp
    omega
  show IntKind.i64.wrap (((BitVec.ofInt 64 x &&& BitVec.ofInt 64 511).toNat : Nat) : Int) = x % 512
  rw [h, IntKind.wrap_i64]
  omega
/-- How many bytes of padding stand behind x bytes. -/
def bpad (x : Int) : Int := (-x) % 512
theorem bpad_range (x : Int) : 0 ≤ bpad x ∧ bpad x < 512 := by unfold bpad; omega
theorem blockPadding_any (x : Int) (w : World) :
    Calls Tryz.prog 143 #[.int .i64 x] w fun e w' => e = .returned (.int .i64 (bpad x)) ∧ w = w' := by
  have HB := Asd.mk (show bits .and .i64 (wrap64 (-x)) 511 = bpad x by rw [and511]; unfold bpad wrap64; omega)
  go_enter Tryz.func143, Tryz.ntmps143
  go_wp2
  go_ret
  exact ⟨ret_int HB.out, rfl⟩

/-- Does a number fit in octal in a field of so many bytes? -/
def fitO (n : Nat) (x : Int) : Bool := decide (0 ≤ x) && decide (x < 8 ^ (n - 1))
theorem fitsInOctal_8 (x : Int) (w : World) :
    Calls Tryz.prog 66 #[.int .i64 8, .int .i64 x] w fun e w' => e = .returned (.bool (fitO 8 x)) ∧ w = w' := by
  by_cases h0 : 0 ≤ x
  · go_enter Tryz.func66, Tryz.ntmps66
    go_wp2
    go_ret
    exact ⟨ret_bool (by simp [fitO, h0]), rfl⟩
  · go_enter Tryz.func66, Tryz.ntmps66
    go_wp2
    go_ret
    exact ⟨ret_bool (by simp [fitO]; omega), rfl⟩
theorem fitsInOctal_12 (x : Int) (w : World) :
    Calls Tryz.prog 66 #[.int .i64 12, .int .i64 x] w fun e w' => e = .returned (.bool (fitO 12 x)) ∧ w = w' := by
  by_cases h0 : 0 ≤ x
  · go_enter Tryz.func66, Tryz.ntmps66
    go_wp2
    go_ret
    exact ⟨ret_bool (by simp [fitO, h0]), rfl⟩
  · go_enter Tryz.func66, Tryz.ntmps66
    go_wp2
    go_ret
    exact ⟨ret_bool (by simp [fitO]; omega), rfl⟩
theorem fitsInOctal_7 (x : Int) (w : World) :
    Calls Tryz.prog 66 #[.int .i64 7, .int .i64 x] w fun e w' => e = .returned (.bool (fitO 7 x)) ∧ w = w' := by
  by_cases h0 : 0 ≤ x
  · go_enter Tryz.func66, Tryz.ntmps66
    go_wp2
    go_ret
    exact ⟨ret_bool (by simp [fitO, h0]), rfl⟩
  · go_enter Tryz.func66, Tryz.ntmps66
    go_wp2
    go_ret
    exact ⟨ret_bool (by simp [fitO]; omega), rfl⟩
/-- Does a number fit in base 256? -/
def fitB (n : Nat) (x : Int) : Bool := decide (9 ≤ n) || (decide (-72057594037927936 ≤ x) && decide (x < 72057594037927936))
theorem fitsInBase256_8 (x : Int) (w : World) :
    Calls Tryz.prog 65 #[.int .i64 8, .int .i64 x] w fun e w' => e = .returned (.bool (fitB 8 x)) ∧ w = w' := by
  by_cases h0 : -72057594037927936 ≤ x
  · go_enter Tryz.func65, Tryz.ntmps65
    go_wp2
    go_ret
    exact ⟨ret_bool (by simp [fitB, h0]), rfl⟩
  · go_enter Tryz.func65, Tryz.ntmps65
    go_wp2
    go_ret
    exact ⟨ret_bool (by simp [fitB]; omega), rfl⟩
theorem fitsInBase256_12 (x : Int) (w : World) :
    Calls Tryz.prog 65 #[.int .i64 12, .int .i64 x] w fun e w' => e = .returned (.bool (fitB 12 x)) ∧ w = w' := by
  go_enter Tryz.func65, Tryz.ntmps65
  go_wp2
  go_ret
  exact ⟨ret_bool (by simp [fitB]), rfl⟩

/-- Links, devices, directories and pipes. -/
def hdrOnly (t : UInt8) : Bool := decide (49 ≤ t.toNat) && decide (t.toNat ≤ 54)
theorem isHeaderOnlyType_any (t : UInt8) (w : World) :
    Calls Tryz.prog 91 #[.int .u8 t.toNat] w fun e w' => e = .returned (.bool (hdrOnly t)) ∧ w = w' := by
  have ht := t.toNat_lt
  by_cases h : hdrOnly t = true
  · have HH := Asd.mk h
    unfold hdrOnly at h
    simp at h
    generalize t.toNat = k at *
    clear ht
    have hk : k = 49 ∨ k = 50 ∨ k = 51 ∨ k = 52 ∨ k = 53 ∨ k = 54 := by omega
    rcases hk with rfl | rfl | rfl | rfl | rfl | rfl <;>
    (go_enter Tryz.func91, Tryz.ntmps91
     go_wp2
     go_ret
     exact ⟨ret_bool HH.out.symm, rfl⟩)
  · have h' : hdrOnly t = false := by simpa using h
    have HH := Asd.mk h'
    clear h
    unfold hdrOnly at h'
    simp at h'
    generalize t.toNat = k at *
    have e1 : ((k : Int) == 49) = false := by rw [beq_eq_false_iff_ne]; omega
    have e2 : ((k : Int) == 50) = false := by rw [beq_eq_false_iff_ne]; omega
    have e3 : ((k : Int) == 51) = false := by rw [beq_eq_false_iff_ne]; omega
    have e4 : ((k : Int) == 52) = false := by rw [beq_eq_false_iff_ne]; omega
    have e5 : ((k : Int) == 53) = false := by rw [beq_eq_false_iff_ne]; omega
    have e6 : ((k : Int) == 54) = false := by rw [beq_eq_false_iff_ne]; omega
    clear h' ht
    go_enter Tryz.func91, Tryz.ntmps91
    go_wp2
    go_ret
    exact ⟨ret_bool HH.out.symm, rfl⟩
theorem and30 (n : Nat) (h : n < 1073741824) : bits .and .u64 (n : Int) 1073741823 = n := by
  have h1 : (BitVec.ofInt 64 (n : Int) &&& BitVec.ofInt 64 1073741823).toNat = n := by
    rw [BitVec.toNat_and]
    have h2 : (BitVec.ofInt 64 1073741823).toNat = 2^30 - 1 := by decide
    rw [h2, Nat.and_two_pow_sub_one_eq_mod, BitVec.toNat_ofInt]
    simp
    omega
  show IntKind.u64.wrap (((BitVec.ofInt 64 (n : Int) &&& BitVec.ofInt 64 1073741823).toNat : Nat) : Int) = n
  rw [h1, IntKind.wrap_u64]
  omega
theorem and63 (n : Nat) (h : n < 1073741824) : bits .and .u64 (n : Int) 9223372036854775808 = 0 := by
  have h1 : (BitVec.ofInt 64 (n : Int) &&& BitVec.ofInt 64 9223372036854775808).toNat = 0 := by
    rw [BitVec.toNat_and]
    have h2 : (BitVec.ofInt 64 9223372036854775808).toNat = 2^63 := by decide
    have h3 : (BitVec.ofInt 64 (n : Int)).toNat = n := by rw [BitVec.toNat_ofInt]; simp; omega
    rw [h2, h3]
    apply Nat.eq_of_testBit_eq
    intro i
    rw [Nat.testBit_and, Nat.testBit_two_pow]
    by_cases hi : 63 = i
    · subst hi
      rw [Nat.testBit_lt_two_pow (by omega)]
      simp
    · simp [hi]
  show IntKind.u64.wrap (((BitVec.ofInt 64 (n : Int) &&& BitVec.ofInt 64 9223372036854775808).toNat : Nat) : Int) = 0
  rw [h1]
  rfl
theorem sec_any (b : Nat) (n : Nat) (x : Int) (w : World) (c0 : w.cell? ⟨b, 0, none⟩ = some (.int .u64 n)) (c1 : w.cell? ⟨b, 1, none⟩ = some (.int .i64 x)) (hn : n < 1073741824) :
    Calls Tryz.prog 120 #[.pointer (some ⟨b, 0, none⟩)] w fun e w' => e = .returned (.int .i64 x) ∧ w = w' := by
  have h1 := and63 n hn
  go_enter Tryz.func120, Tryz.ntmps120
  go_wp2
  go_ret
  exact ⟨rfl, rfl⟩
theorem nsec_any (b : Nat) (n : Nat) (w : World) (c0 : w.cell? ⟨b, 0, none⟩ = some (.int .u64 n)) (hn : n < 1073741824) :
    Calls Tryz.prog 121 #[.pointer (some ⟨b, 0, none⟩)] w fun e w' => e = .returned (.int .i32 n) ∧ w = w' := by
  have h1 := and30 n hn
  have h2 : IntKind.i32.wrap (n : Int) = n := by rw [IntKind.wrap_i32]; omega
  go_enter Tryz.func121, Tryz.ntmps121
  go_wp2
  go_ret
  exact ⟨rfl, rfl⟩
theorem unixSec_any (b : Nat) (n : Nat) (x : Int) (w : World) (c0 : w.cell? ⟨b, 0, none⟩ = some (.int .u64 n)) (c1 : w.cell? ⟨b, 1, none⟩ = some (.int .i64 x)) (hn : n < 1073741824) :
    Calls Tryz.prog 126 #[.pointer (some ⟨b, 0, none⟩)] w fun e w' => e = .returned (.int .i64 (wrap64 (x - 62135596800))) ∧ w = w' := by
  go_enter Tryz.func126, Tryz.ntmps126
  go_wp2_with (go_at_call 120; refine (sec_any b n x w c0 c1 hn).mono ?_; rintro e w' ⟨rfl, rfl⟩)
  go_ret
  exact ⟨by congr 1, rfl⟩
/-- A time: nanoseconds, seconds since year 1. -/
def tmV (n : Nat) (x : Int) : Value := .agg #[.int .u64 n, .int .i64 x]
def tmUnix (x : Int) : Int := wrap64 (x - 62135596800)
theorem isZero_any (n : Nat) (x : Int) (w : World) :
    Calls Tryz.prog 69 #[tmV n x] w fun e w' => e = .returned (.bool (decide (n = 0) && decide (x = 0))) ∧ Below w.heap.size w w' := by
  unfold tmV
  by_cases h0 : n = 0
  · subst h0
    go_enter Tryz.func69, Tryz.ntmps69
    go_wp2
    go_ret
    exact ⟨by simp; rfl, (Below.refl _ _).alloc (Nat.le_refl _) _⟩
  · have h1 : ¬ (n : Int) = 0 := by omega
    go_enter Tryz.func69, Tryz.ntmps69
    go_wp2
    go_ret
    exact ⟨by simp [h0], (Below.refl _ _).alloc (Nat.le_refl _) _⟩
theorem tUnix_any (n : Nat) (x : Int) (w : World) (hn : n < 1073741824) :
    Calls Tryz.prog 70 #[tmV n x] w fun e w' => e = .returned (.int .i64 (tmUnix x)) ∧ Below w.heap.size w w' := by
  unfold tmV tmUnix
  go_enter Tryz.func70, Tryz.ntmps70
  go_wp2_with (go_at_call 126; refine (unixSec_any _ n x _ (by go_simp) (by go_simp) hn).mono ?_; rintro e w' ⟨rfl, rfl⟩)
  go_ret
  exact ⟨rfl, (Below.refl _ _).alloc (Nat.le_refl _) _⟩
theorem nano_any (n : Nat) (x : Int) (w : World) (hn : n < 1073741824) :
    Calls Tryz.prog 71 #[tmV n x] w fun e w' => e = .returned (.int .i64 n) ∧ Below w.heap.size w w' := by
  unfold tmV
  have h2 : IntKind.i64.wrap (n : Int) = n := by rw [IntKind.wrap_i64]; omega
  go_enter Tryz.func71, Tryz.ntmps71
  go_wp2_with (go_at_call 121; refine (nsec_any _ n _ (by go_simp) hn).mono ?_; rintro e w' ⟨rfl, rfl⟩)
  go_ret
  exact ⟨by simp [h2], (Below.refl _ _).alloc (Nat.le_refl _) _⟩
theorem info96 : (Tryz.prog.info? 96).map (·.size) = some 2 := by kernel_rfl
theorem unixTime_any (n : Nat) (x : Int) (w : World) (hn : n < 1073741824) :
    Calls Tryz.prog 112 #[.int .i64 x, .int .i32 n] w fun e w' => e = .returned (tmV n (wrap64 (x + 62135596800))) ∧ Below w.heap.size w w' := by
  unfold tmV
  have h2 : IntKind.u64.wrap (n : Int) = n := by rw [IntKind.wrap_u64]; omega
  go_enter Tryz.func112, Tryz.ntmps112
  go_wp2
  refine bodyPost_ret (results_cell_row rfl _ _ w.heap.size 96 #[.int .u64 n, .int .i64 (wrap64 (x + 62135596800))] (0, 0) _ rfl (heap_alloc_new _ _) Tryz.underlying96 rfl info96) rfl ?_
  exact ⟨rfl, (Below.refl _ _).alloc (Nat.le_refl _) _⟩
theorem strip_any (b : Nat) (n : Nat) (w : World) (c0 : w.cell? ⟨b, 0, none⟩ = some (.int .u64 n)) (hn : n < 1073741824) :
    Calls Tryz.prog 55 #[.pointer (some ⟨b, 0, none⟩)] w fun e w' => e = .returned (.tuple #[]) ∧ w = w' := by
  have h1 := and63 n hn
  go_enter Tryz.func55, Tryz.ntmps55
  go_wp2
  refine bodyPost_end (results_none rfl _ _ _) rfl ?_
  exact ⟨rfl, rfl⟩
theorem half_any (x y : Nat) (w : World) (hx : x < 1073741824) (hy : y < 1073741824) :
    Calls Tryz.prog 57 #[.int .i64 x, .int .i64 y] w fun e w' => e = .returned (.bool (decide (2 * x < y))) ∧ w = w' := by
  have h1 : IntKind.u64.wrap (x : Int) = x := by rw [IntKind.wrap_u64]; omega
  have h2 : IntKind.u64.wrap (y : Int) = y := by rw [IntKind.wrap_u64]; omega
  have h3 : IntKind.u64.wrap ((x : Int) + x) = (x : Int) + x := by rw [IntKind.wrap_u64]; omega
  go_enter Tryz.func57, Tryz.ntmps57
  go_wp2
  go_ret
  exact ⟨by congr 2; simp; omega, rfl⟩
theorem div_any (n : Nat) (x : Int) (w : World) (hn : n < 1000000000) (hx : -9223372036854775808 ≤ x ∧ x ≤ 9223372036854775807) :
    Calls Tryz.prog 56 #[tmV n x, .int .i64 1000000000] w fun e w' => (∃ q, e = .returned (.tuple #[q, .int .i64 n])) ∧ Below w.heap.size w w' := by
  unfold tmV
  have hq0 : IntKind.i64.wrap (n : Int) = n := by rw [IntKind.wrap_i64]; omega
  by_cases hneg : x < 0
  · by_cases h0 : n = 0
    · subst h0
      go_enter Tryz.func56, Tryz.ntmps56
      go_wp2_with (first
        | (go_at_call 121; refine (nsec_any _ 0 _ (by go_simp) (by omega)).mono ?_; rintro e w' ⟨rfl, rfl⟩)
        | (go_at_call 120; refine (sec_any _ 0 x _ (by go_simp) (by go_simp) (by omega)).mono ?_; rintro e w' ⟨rfl, rfl⟩))
      go_ret2
      exact ⟨⟨_, rfl⟩, (Below.refl _ _).alloc (Nat.le_refl _) _⟩
    · have g1 : IntKind.i32.wrap (-(n : Int)) = -(n : Int) := by rw [IntKind.wrap_i32]; omega
      have g2 : IntKind.i32.wrap (-(n : Int) + 1000000000) = -(n : Int) + 1000000000 := by rw [IntKind.wrap_i32]; omega
      have g3 : IntKind.i64.wrap (-(n : Int) + 1000000000) = -(n : Int) + 1000000000 := by rw [IntKind.wrap_i64]; omega
      have g4 : -(n : Int) < 0 := by omega
      have g5 : ¬ (-(n : Int) + 1000000000 = 0) := by omega
      go_enter Tryz.func56, Tryz.ntmps56
      go_wp2_with (first
        | (go_at_call 121; refine (nsec_any _ n _ (by go_simp) (by omega)).mono ?_; rintro e w' ⟨rfl, rfl⟩)
        | (go_at_call 120; refine (sec_any _ n x _ (by go_simp) (by go_simp) (by omega)).mono ?_; rintro e w' ⟨rfl, rfl⟩))
      go_ret2
      have e : (1000000000 - (-(n : Int) + 1000000000)) = n := by omega
      exact ⟨⟨_, congrArg (fun z => Ending.returned (.tuple #[_, .int .i64 z])) e⟩, (Below.refl _ _).alloc (Nat.le_refl _) _⟩
  · go_enter Tryz.func56, Tryz.ntmps56
    go_wp2_with (first
      | (go_at_call 121; refine (nsec_any _ n _ (by go_simp) (by omega)).mono ?_; rintro e w' ⟨rfl, rfl⟩)
      | (go_at_call 120; refine (sec_any _ n x _ (by go_simp) (by go_simp) (by omega)).mono ?_; rintro e w' ⟨rfl, rfl⟩))
    go_ret2
    exact ⟨⟨_, rfl⟩, (Below.refl _ _).alloc (Nat.le_refl _) _⟩
theorem addSec0 (b n : Nat) (x : Int) (w : World) (c0 : w.cell? ⟨b, 0, none⟩ = some (.int .u64 n)) (c1 : w.cell? ⟨b, 1, none⟩ = some (.int .i64 x)) (f1 : w.frozen? ⟨b, 1, none⟩ = false) (hn : n < 1073741824) (hx : -9223372036854775808 ≤ x ∧ x ≤ 9223372036854775807) :
    Calls Tryz.prog 122 #[.pointer (some ⟨b, 0, none⟩), .int .i64 0] w fun e w' => e = .returned (.tuple #[]) ∧ w' = w.setCell ⟨b, 1, none⟩ (.int .i64 x) := by
  have h1 := and63 n hn
  have h2 : wrap64 x = x := by unfold wrap64; omega
  go_enter Tryz.func122, Tryz.ntmps122
  go_wp2
  go_end0
  exact ⟨rfl, rfl⟩
theorem addSec1 (b n : Nat) (x : Int) (w : World) (c0 : w.cell? ⟨b, 0, none⟩ = some (.int .u64 n)) (c1 : w.cell? ⟨b, 1, none⟩ = some (.int .i64 x)) (f1 : w.frozen? ⟨b, 1, none⟩ = false) (hn : n < 1073741824) (hx : -9223372036854775808 ≤ x ∧ x ≤ 9223372036854775807) :
    Calls Tryz.prog 122 #[.pointer (some ⟨b, 0, none⟩), .int .i64 1] w fun e w' => e = .returned (.tuple #[]) ∧ w' = w.setCell ⟨b, 1, none⟩ (.int .i64 (if x = 9223372036854775807 then x else x + 1)) := by
  have h1 := and63 n hn
  by_cases hm : x = 9223372036854775807
  · subst hm
    have hw : wrap64 9223372036854775808 = -9223372036854775808 := by unfold wrap64; omega
    go_enter Tryz.func122, Tryz.ntmps122
    go_wp2
    all_goals (go_end0; exact ⟨rfl, rfl⟩)
  · have h2 : wrap64 (x + 1) = x + 1 := by unfold wrap64; omega
    have h3 : x < x + 1 := by omega
    go_enter Tryz.func122, Tryz.ntmps122
    go_wp2
    all_goals (go_end0; exact ⟨rfl, rfl⟩)
theorem andNot30 (n : Nat) (h : n < 1073741824) : bits .andNot .u64 (n : Int) 1073741823 = 0 := by
  have h1 : (BitVec.ofInt 64 (n : Int) &&& ~~~ BitVec.ofInt 64 1073741823).toNat = 0 := by
    have h3 : (BitVec.ofInt 64 (n : Int)).toNat = n := by rw [BitVec.toNat_ofInt]; simp; omega
    rw [BitVec.toNat_and, h3]
    apply Nat.eq_of_testBit_eq
    intro i
    rw [Nat.testBit_and]
    by_cases hi : i < 30
    · have h4 : (~~~ BitVec.ofInt 64 1073741823).toNat = 2 ^ 64 - 2 ^ 30 := by decide
      rw [h4, show (2 : Nat) ^ 64 - 2 ^ 30 = 2 ^ 30 * (2 ^ 34 - 1) by decide, Nat.testBit_two_pow_mul]
      simp [hi]
      omega
    · rw [Nat.testBit_lt_two_pow (Nat.lt_of_lt_of_le (show n < 2 ^ 30 by omega) (Nat.pow_le_pow_right (by omega) (by omega)))]
      simp
  show IntKind.u64.wrap (((BitVec.ofInt 64 (n : Int) &&& ~~~ BitVec.ofInt 64 1073741823).toNat : Nat) : Int) = 0
  rw [h1]
  rfl
theorem or00 : bits .or .u64 0 0 = 0 := by decide
def incT (x : Int) : Int := if x = 9223372036854775807 then x else x + 1
theorem addSec1i (b n : Nat) (x : Int) (w : World) (c0 : w.cell? ⟨b, 0, none⟩ = some (.int .u64 n)) (c1 : w.cell? ⟨b, 1, none⟩ = some (.int .i64 x)) (f1 : w.frozen? ⟨b, 1, none⟩ = false) (hn : n < 1073741824) (hx : -9223372036854775808 ≤ x ∧ x ≤ 9223372036854775807) :
    Calls Tryz.prog 122 #[.pointer (some ⟨b, 0, none⟩), .int .i64 1] w fun e w' => e = .returned (.tuple #[]) ∧ w' = w.setCell ⟨b, 1, none⟩ (.int .i64 (incT x)) := addSec1 b n x w c0 c1 f1 hn hx
theorem add_down (n : Nat) (x : Int) (w : World) (hn : n < 1000000000) (hx : -9223372036854775808 ≤ x ∧ x ≤ 9223372036854775807) :
    Calls Tryz.prog 58 #[tmV n x, .int .i64 (-(n : Int))] w fun e w' => e = .returned (tmV 0 x) ∧ Below w.heap.size w w' := by
  unfold tmV
  have h1 := and63 n (by omega)
  have h2 := andNot30 n (by omega)
  have q1 : (-(n : Int)).tdiv 1000000000 = 0 := by rw [Int.neg_tdiv, Int.tdiv_eq_ediv_of_nonneg (by omega)]; omega
  have q2 : (-(n : Int)).tmod 1000000000 = -(n : Int) := by rw [Int.neg_tmod, Int.tmod_eq_emod_of_nonneg (by omega)]; omega
  have q3 : IntKind.i32.wrap (-(n : Int)) = -(n : Int) := by rw [IntKind.wrap_i32]; omega
  have q4 : (n : Int) + -(n : Int) = 0 := by omega
  have q5 := or00
  have q6 : bits .and .u64 0 9223372036854775808 = 0 := and63 0 (by omega)
  go_enter Tryz.func58, Tryz.ntmps58
  go_wp2_with (first
    | (go_at_call 121; refine (nsec_any _ n _ (by go_simp) (by omega)).mono ?_; rintro e w' ⟨rfl, rfl⟩)
    | (go_at_call 122; refine (addSec0 _ 0 x _ (by go_simp) (by go_simp) (by go_simp) (by omega) hx).mono ?_; rintro e w' ⟨rfl, rfl⟩))
  refine bodyPost_ret (results_cell_row rfl _ _ (w.heap.size + 1) 96 #[.int .u64 0, .int .i64 x] (0, 0) _ rfl (heap_alloc2_new _ _ _) Tryz.underlying96 rfl info96) rfl ?_
  exact ⟨rfl, ((Below.refl w.heap.size w).alloc (Nat.le_refl _) _).alloc (by show w.heap.size ≤ (w.heap.push _).size; simp) _⟩
theorem add_up (n : Nat) (x : Int) (w : World) (hn : n < 1000000000) (hn0 : 0 < n) (hx : -9223372036854775808 ≤ x ∧ x ≤ 9223372036854775807) :
    Calls Tryz.prog 58 #[tmV n x, .int .i64 (1000000000 - (n : Int))] w fun e w' => e = .returned (tmV 0 (incT x)) ∧ Below w.heap.size w w' := by
  unfold tmV
  have h1 := and63 n (by omega)
  have h2 := andNot30 n (by omega)
  have q1 : (1000000000 - (n : Int)).tdiv 1000000000 = 0 := by rw [Int.tdiv_eq_ediv_of_nonneg (by omega)]; omega
  have q2 : (1000000000 - (n : Int)).tmod 1000000000 = 1000000000 - (n : Int) := by rw [Int.tmod_eq_emod_of_nonneg (by omega)]; omega
  have q3 : IntKind.i32.wrap (1000000000 - (n : Int)) = 1000000000 - (n : Int) := by rw [IntKind.wrap_i32]; omega
  have q4 : (n : Int) + (1000000000 - (n : Int)) = 1000000000 := by omega
  have q5 := or00
  have q6 : bits .and .u64 0 9223372036854775808 = 0 := and63 0 (by omega)
  go_enter Tryz.func58, Tryz.ntmps58
  go_wp2_with (first
    | (go_at_call 121; refine (nsec_any _ n _ (by go_simp) (by omega)).mono ?_; rintro e w' ⟨rfl, rfl⟩)
    | (go_at_call 122; refine (addSec1i _ 0 x _ (by go_simp) (by go_simp) (by go_simp) (by omega) hx).mono ?_; rintro e w' ⟨rfl, rfl⟩))
  refine bodyPost_ret (results_cell_row rfl _ _ (w.heap.size + 1) 96 #[.int .u64 0, .int .i64 (incT x)] (0, 0) _ rfl (heap_alloc2_new _ _ _) Tryz.underlying96 rfl info96) rfl ?_
  exact ⟨rfl, ((Below.refl w.heap.size w).alloc (Nat.le_refl _) _).alloc (by show w.heap.size ≤ (w.heap.push _).size; simp) _⟩
theorem two_blk (w w2 : World) (A B : Obj) (f : Below ((w.alloc A).alloc B).heap.size ((w.alloc A).alloc B) w2) : w2.heap[w.heap.size]? = some A ∧ w2.heap[w.heap.size + 1]? = some B := by
  refine ⟨blk_below ?_ f, blk_below (heap_alloc2_new _ _ _) f⟩
  rw [heap_alloc_old _ _ (by show w.heap.size < (w.heap.push _).size; simp)]
  exact heap_alloc_new _ _
/-- Round to the second: the seconds. -/
def roundT (n : Nat) (x : Int) : Int := if 2 * n < 1000000000 then x else incT x
set_option maxRecDepth 100000 in
theorem round_any (n : Nat) (x : Int) (w : World) (hn : n < 1000000000) (hx : -9223372036854775808 ≤ x ∧ x ≤ 9223372036854775807) :
    Calls Tryz.prog 34 #[tmV n x, .int .i64 1000000000] w fun e w' => e = .returned (tmV 0 (roundT n x)) ∧ Below w.heap.size w w' := by
  by_cases hh : 2 * n < 1000000000
  · have hr : roundT n x = x := by unfold roundT; rw [if_pos hh]
    rw [hr]
    clear hr
    unfold tmV
    go_enter Tryz.func34, Tryz.ntmps34
    go_wp2_with (first
      | (go_at_call 55; refine (strip_any _ n _ (by go_simp) (by omega)).mono ?_; rintro e w' ⟨rfl, rfl⟩)
      | (go_at_call 56
         refine (div_any n x _ hn hx).mono ?_
         rintro e w2 ⟨⟨q, rfl⟩, f2⟩
         obtain ⟨g0, g1⟩ := two_blk _ _ _ _ f2
         have d0 : w2.cell? ⟨w.heap.size, 0, none⟩ = some (.int .u64 n) := cell_blk (C := [.int .u64 n, .int .i64 x]) g0 rfl
         have d1 : w2.cell? ⟨w.heap.size, 1, none⟩ = some (.int .i64 x) := cell_blk (C := [.int .u64 n, .int .i64 x]) g0 rfl)
      | (go_at_call 57; refine (half_any n 1000000000 _ (by omega) (by omega)).mono ?_; rintro e w' ⟨rfl, rfl⟩)
      | (go_at_call 58
         refine (add_down n x _ hn hx).mono ?_
         unfold tmV
         rintro e w3 ⟨rfl, f3⟩
         have g3 := blk_below g1 f3
         have d3 : w3.cell? ⟨w.heap.size + 1, 0, none⟩ = some (.int .u64 0) := cell_blk (C := [.int .u64 0, .int .i64 0]) g3 rfl
         have d4 : w3.cell? ⟨w.heap.size + 1, 1, none⟩ = some (.int .i64 0) := cell_blk (C := [.int .u64 0, .int .i64 0]) g3 rfl
         have d5 : ∀ j, w3.frozen? ⟨w.heap.size + 1, j, none⟩ = false := fun j => frozen_blk (C := [.int .u64 0, .int .i64 0]) g3))
    have g4 := set_blk (C := [.int .u64 0, .int .i64 0]) (j := 0) (v := .int .u64 0) g3
    have g5 := set_blk (j := 1) (v := .int .i64 x) g4
    refine bodyPost_ret (results_cell_row rfl _ _ (w.heap.size + 1) 96 #[.int .u64 0, .int .i64 x] (0, 0) _ rfl g5 Tryz.underlying96 rfl info96) rfl ?_
    have b0 : Below w.heap.size w ((w.alloc (.cells #[.int .u64 n, .int .i64 x] 96 (0, 0))).alloc (.cells #[.int .u64 0, .int .i64 0] 96 (0, 0))) := ((Below.refl w.heap.size w).alloc (Nat.le_refl _) _).alloc (by show w.heap.size ≤ (w.heap.push _).size; simp) _
    have b1 : Below w.heap.size w w2 := b0.trans (f2.mono b0.size)
    have b2 : Below w.heap.size w w3 := b1.trans (f3.mono b1.size)
    exact ⟨rfl, (b2.setCell (p := ⟨w.heap.size + 1, 0, none⟩) (by show w.heap.size ≤ w.heap.size + 1; omega) _).setCell (p := ⟨w.heap.size + 1, 1, none⟩) (by show w.heap.size ≤ w.heap.size + 1; omega) _⟩
  · have hr : roundT n x = incT x := by unfold roundT; rw [if_neg hh]
    rw [hr]
    clear hr
    unfold tmV
    have hn0 : 0 < n := by omega
    go_enter Tryz.func34, Tryz.ntmps34
    go_wp2_with (first
      | (go_at_call 55; refine (strip_any _ n _ (by go_simp) (by omega)).mono ?_; rintro e w' ⟨rfl, rfl⟩)
      | (go_at_call 56
         refine (div_any n x _ hn hx).mono ?_
         rintro e w2 ⟨⟨q, rfl⟩, f2⟩
         obtain ⟨g0, g1⟩ := two_blk _ _ _ _ f2
         have d0 : w2.cell? ⟨w.heap.size, 0, none⟩ = some (.int .u64 n) := cell_blk (C := [.int .u64 n, .int .i64 x]) g0 rfl
         have d1 : w2.cell? ⟨w.heap.size, 1, none⟩ = some (.int .i64 x) := cell_blk (C := [.int .u64 n, .int .i64 x]) g0 rfl)
      | (go_at_call 57; refine (half_any n 1000000000 _ (by omega) (by omega)).mono ?_; rintro e w' ⟨rfl, rfl⟩)
      | (go_at_call 58
         refine (add_up n x _ hn hn0 hx).mono ?_
         unfold tmV
         rintro e w3 ⟨rfl, f3⟩
         have g3 := blk_below g1 f3
         have d3 : w3.cell? ⟨w.heap.size + 1, 0, none⟩ = some (.int .u64 0) := cell_blk (C := [.int .u64 0, .int .i64 0]) g3 rfl
         have d4 : w3.cell? ⟨w.heap.size + 1, 1, none⟩ = some (.int .i64 0) := cell_blk (C := [.int .u64 0, .int .i64 0]) g3 rfl
         have d5 : ∀ j, w3.frozen? ⟨w.heap.size + 1, j, none⟩ = false := fun j => frozen_blk (C := [.int .u64 0, .int .i64 0]) g3))
    have g4 := set_blk (C := [.int .u64 0, .int .i64 0]) (j := 0) (v := .int .u64 0) g3
    have g5 := set_blk (j := 1) (v := .int .i64 (incT x)) g4
    refine bodyPost_ret (results_cell_row rfl _ _ (w.heap.size + 1) 96 #[.int .u64 0, .int .i64 (incT x)] (0, 0) _ rfl g5 Tryz.underlying96 rfl info96) rfl ?_
    have b0 : Below w.heap.size w ((w.alloc (.cells #[.int .u64 n, .int .i64 x] 96 (0, 0))).alloc (.cells #[.int .u64 0, .int .i64 0] 96 (0, 0))) := ((Below.refl w.heap.size w).alloc (Nat.le_refl _) _).alloc (by show w.heap.size ≤ (w.heap.push _).size; simp) _
    have b1 : Below w.heap.size w w2 := b0.trans (f2.mono b0.size)
    have b2 : Below w.heap.size w w3 := b1.trans (f3.mono b1.size)
    exact ⟨rfl, (b2.setCell (p := ⟨w.heap.size + 1, 0, none⟩) (by show w.heap.size ≤ w.heap.size + 1; omega) _).setCell (p := ⟨w.heap.size + 1, 1, none⟩) (by show w.heap.size ≤ w.heap.size + 1; omega) _⟩
/-- Seconds and nanoseconds since 1970 as a time. -/
def unixX (s n : Int) : Int := wrap64 (s + n / 1000000000 + 62135596800)
def unixN (n : Int) : Nat := (n % 1000000000).toNat
set_option maxRecDepth 100000 in
theorem unix_out (s n Q R : Int) (k : Nat) (w : World) (hb : (decide (n < 0) || decide (1000000000 ≤ n)) = true) (hQ : n.tdiv 1000000000 = Q) (hW : wrap64 Q = Q) (hM : wrap64 (Q * 1000000000) = Q * 1000000000) (hR : wrap64 (n - Q * 1000000000) = R) (hk : R = k) (hk2 : k < 1000000000) :
    Calls Tryz.prog 40 #[.int .i64 s, .int .i64 n] w fun e w' => e = .returned (.agg #[.int .u64 k, .int .i64 (wrap64 (wrap64 (s + Q) + 62135596800))]) ∧ Below w.heap.size w w' := by
      subst hk
      have h3 : IntKind.i32.wrap (k : Int) = k := by rw [IntKind.wrap_i32]; omega
      have h4 : ¬ ((k : Int) < 0) := by omega
      go_enter Tryz.func40, Tryz.ntmps40
      go_wp2_with (
        go_at_call 112
        refine (unixTime_any k (wrap64 (s + Q)) _ (by omega)).mono ?_
        unfold tmV
        rintro e w2 ⟨rfl, f2⟩
        have g1 := blk_below (heap_alloc_new _ _) f2
        have d3 : w2.cell? ⟨w.heap.size, 0, none⟩ = some (.int .u64 0) := cell_blk (C := [.int .u64 0, .int .i64 0]) g1 rfl
        have d4 : w2.cell? ⟨w.heap.size, 1, none⟩ = some (.int .i64 0) := cell_blk (C := [.int .u64 0, .int .i64 0]) g1 rfl
        have d5 : ∀ j, w2.frozen? ⟨w.heap.size, j, none⟩ = false := fun j => frozen_blk (C := [.int .u64 0, .int .i64 0]) g1)
      all_goals (
        have g4 := set_blk (C := [.int .u64 0, .int .i64 0]) (j := 0) (v := .int .u64 k) g1
        have g5 := set_blk (j := 1) (v := .int .i64 (wrap64 ((wrap64 (s + Q)) + 62135596800))) g4
        refine bodyPost_ret (results_cell_row rfl _ _ w.heap.size 96 #[.int .u64 k, .int .i64 (wrap64 ((wrap64 (s + Q)) + 62135596800))] (0, 0) _ rfl g5 Tryz.underlying96 rfl info96) rfl ?_
        have b0 : Below w.heap.size w (w.alloc (.cells #[.int .u64 0, .int .i64 0] 96 (0, 0))) := (Below.refl w.heap.size w).alloc (Nat.le_refl _) _
        have b1 : Below w.heap.size w w2 := b0.trans (f2.mono b0.size)
        exact ⟨rfl, (b1.setCell (p := ⟨w.heap.size, 0, none⟩) (Nat.le_refl _) _).setCell (p := ⟨w.heap.size, 1, none⟩) (Nat.le_refl _) _⟩)
set_option maxRecDepth 100000 in
theorem unix_neg (s n Q R : Int) (k : Nat) (w : World) (hb : (decide (n < 0) || decide (1000000000 ≤ n)) = true) (hQ : n.tdiv 1000000000 = Q) (hW : wrap64 Q = Q) (hM : wrap64 (Q * 1000000000) = Q * 1000000000) (hR : wrap64 (n - Q * 1000000000) = R) (hR0 : R < 0) (hk : wrap64 (R + 1000000000) = k) (hk2 : k < 1000000000) :
    Calls Tryz.prog 40 #[.int .i64 s, .int .i64 n] w fun e w' => e = .returned (.agg #[.int .u64 k, .int .i64 (wrap64 (wrap64 (wrap64 (s + Q) - 1) + 62135596800))]) ∧ Below w.heap.size w w' := by
      have h3 : IntKind.i32.wrap (k : Int) = k := by rw [IntKind.wrap_i32]; omega
      go_enter Tryz.func40, Tryz.ntmps40
      go_wp2_with (
        go_at_call 112
        refine (unixTime_any k (wrap64 (wrap64 (s + Q) - 1)) _ (by omega)).mono ?_
        unfold tmV
        rintro e w2 ⟨rfl, f2⟩
        have g1 := blk_below (heap_alloc_new _ _) f2
        have d3 : w2.cell? ⟨w.heap.size, 0, none⟩ = some (.int .u64 0) := cell_blk (C := [.int .u64 0, .int .i64 0]) g1 rfl
        have d4 : w2.cell? ⟨w.heap.size, 1, none⟩ = some (.int .i64 0) := cell_blk (C := [.int .u64 0, .int .i64 0]) g1 rfl
        have d5 : ∀ j, w2.frozen? ⟨w.heap.size, j, none⟩ = false := fun j => frozen_blk (C := [.int .u64 0, .int .i64 0]) g1)
      all_goals (
        have g4 := set_blk (C := [.int .u64 0, .int .i64 0]) (j := 0) (v := .int .u64 k) g1
        have g5 := set_blk (j := 1) (v := .int .i64 (wrap64 ((wrap64 (wrap64 (s + Q) - 1)) + 62135596800))) g4
        refine bodyPost_ret (results_cell_row rfl _ _ w.heap.size 96 #[.int .u64 k, .int .i64 (wrap64 ((wrap64 (wrap64 (s + Q) - 1)) + 62135596800))] (0, 0) _ rfl g5 Tryz.underlying96 rfl info96) rfl ?_
        have b0 : Below w.heap.size w (w.alloc (.cells #[.int .u64 0, .int .i64 0] 96 (0, 0))) := (Below.refl w.heap.size w).alloc (Nat.le_refl _) _
        have b1 : Below w.heap.size w w2 := b0.trans (f2.mono b0.size)
        exact ⟨rfl, (b1.setCell (p := ⟨w.heap.size, 0, none⟩) (Nat.le_refl _) _).setCell (p := ⟨w.heap.size, 1, none⟩) (Nat.le_refl _) _⟩)
set_option maxRecDepth 100000 in
theorem unix_in (s : Int) (k : Nat) (w : World) (h5 : k < 1000000000) :
    Calls Tryz.prog 40 #[.int .i64 s, .int .i64 k] w fun e w' => e = .returned (.agg #[.int .u64 k, .int .i64 (wrap64 (s + 62135596800))]) ∧ Below w.heap.size w w' := by
      have h3 : IntKind.i32.wrap (k : Int) = k := by rw [IntKind.wrap_i32]; omega
      have hb : (decide ((k : Int) < 0) || decide ((1000000000 : Int) ≤ k)) = false := by simp; omega
      go_enter Tryz.func40, Tryz.ntmps40
      go_wp2_with (
        go_at_call 112
        refine (unixTime_any k s _ (by omega)).mono ?_
        unfold tmV
        rintro e w2 ⟨rfl, f2⟩
        have g1 := blk_below (heap_alloc_new _ _) f2
        have d3 : w2.cell? ⟨w.heap.size, 0, none⟩ = some (.int .u64 0) := cell_blk (C := [.int .u64 0, .int .i64 0]) g1 rfl
        have d4 : w2.cell? ⟨w.heap.size, 1, none⟩ = some (.int .i64 0) := cell_blk (C := [.int .u64 0, .int .i64 0]) g1 rfl
        have d5 : ∀ j, w2.frozen? ⟨w.heap.size, j, none⟩ = false := fun j => frozen_blk (C := [.int .u64 0, .int .i64 0]) g1)
      all_goals (
        have g4 := set_blk (C := [.int .u64 0, .int .i64 0]) (j := 0) (v := .int .u64 k) g1
        have g5 := set_blk (j := 1) (v := .int .i64 (wrap64 (s + 62135596800))) g4
        refine bodyPost_ret (results_cell_row rfl _ _ w.heap.size 96 #[.int .u64 k, .int .i64 (wrap64 (s + 62135596800))] (0, 0) _ rfl g5 Tryz.underlying96 rfl info96) rfl ?_
        have b0 : Below w.heap.size w (w.alloc (.cells #[.int .u64 0, .int .i64 0] 96 (0, 0))) := (Below.refl w.heap.size w).alloc (Nat.le_refl _) _
        have b1 : Below w.heap.size w w2 := b0.trans (f2.mono b0.size)
        exact ⟨rfl, (b1.setCell (p := ⟨w.heap.size, 0, none⟩) (Nat.le_refl _) _).setCell (p := ⟨w.heap.size, 1, none⟩) (Nat.le_refl _) _⟩)
theorem unix_any (s n : Int) (w : World) (hs : -9223372036854775808 ≤ s ∧ s ≤ 9223372036854775807) (hn : -9223372036854775808 ≤ n ∧ n ≤ 9223372036854775807) :
    Calls Tryz.prog 40 #[.int .i64 s, .int .i64 n] w fun e w' => e = .returned (tmV (unixN n) (unixX s n)) ∧ Below w.heap.size w w' := by
  have fin : ∀ (k : Nat) (X : Int), k = unixN n → X = unixX s n → Calls Tryz.prog 40 #[.int .i64 s, .int .i64 n] w (fun e w' => e = .returned (.agg #[.int .u64 k, .int .i64 X]) ∧ Below w.heap.size w w') → Calls Tryz.prog 40 #[.int .i64 s, .int .i64 n] w fun e w' => e = .returned (tmV (unixN n) (unixX s n)) ∧ Below w.heap.size w w' := by
    rintro k X rfl rfl h
    exact h
  by_cases h1 : 0 ≤ n
  · have hQ : n.tdiv 1000000000 = n / 1000000000 := Int.tdiv_eq_ediv_of_nonneg h1
    by_cases h2 : n < 1000000000
    · obtain ⟨k, rfl⟩ : ∃ k : Nat, n = k := ⟨n.toNat, by omega⟩
      exact fin k _ (by unfold unixN; omega) (by unfold unixX; congr 1; omega) (unix_in s k w (by omega))
    · exact fin (n % 1000000000).toNat _ rfl (by unfold unixX wrap64; omega) (unix_out s n (n / 1000000000) (n % 1000000000) (n % 1000000000).toNat w (by simp; omega) hQ (by unfold wrap64; omega) (by unfold wrap64; omega) (by unfold wrap64; omega) (by omega) (by omega))
  · have hQ : n.tdiv 1000000000 = -((-n) / 1000000000) := by
      rw [show n = -(-n) by omega, Int.neg_tdiv, Int.tdiv_eq_ediv_of_nonneg (by omega)]
      omega
    by_cases h2 : (-n) % 1000000000 = 0
    · exact fin 0 _ (by unfold unixN; omega) (by unfold unixX wrap64; omega) (unix_out s n _ 0 0 w (by simp; omega) hQ (by unfold wrap64; omega) (by unfold wrap64; omega) (by unfold wrap64; omega) (by omega) (by omega))
    · exact fin (1000000000 - (-n) % 1000000000).toNat _ (by unfold unixN; omega) (by unfold unixX wrap64; omega) (unix_neg s n _ (-((-n) % 1000000000)) _ w (by simp; omega) hQ (by unfold wrap64; omega) (by unfold wrap64; omega) (by unfold wrap64; omega) (by omega) (by unfold wrap64; omega) (by omega))
/-- A header of the package. -/
structure Hd where
  tf : UInt8
  name : ByteArray
  link : ByteArray
  size : Int
  mode : Int
  uid : Int
  gid : Int
  uname : ByteArray
  gname : ByteArray
  mn : Nat
  mx : Int
  an : Nat
  ax : Int
  cn : Nat
  cx : Int
  maj : Int
  min : Int
  xat : Value
  recs : Value
  fmt : Int
def Hd.cells (h : Hd) : List Value := [.int .u8 h.tf.toNat, .string h.name, .string h.link, .int .i64 h.size, .int .i64 h.mode, .int .i64 h.uid, .int .i64 h.gid, .string h.uname, .string h.gname, .int .u64 h.mn, .int .i64 h.mx, .int .u64 h.an, .int .i64 h.ax, .int .u64 h.cn, .int .i64 h.cx, .int .i64 h.maj, .int .i64 h.min, h.xat, h.recs, .int .i64 h.fmt]
theorem Hd.cells_len (h : Hd) : h.cells.length = 20 := rfl
/-- What the Writer needs of a header. -/
structure Hd.Ok (h : Hd) : Prop where
  name : h.name.size ≤ 1073741824
  link : h.link.size ≤ 1073741824
  uname : h.uname.size ≤ 1073741824
  gname : h.gname.size ≤ 1073741824
  size : -9223372036854775808 ≤ h.size ∧ h.size ≤ 9223372036854775807
  mode : -9223372036854775808 ≤ h.mode ∧ h.mode ≤ 9223372036854775807
  uid : -9223372036854775808 ≤ h.uid ∧ h.uid ≤ 9223372036854775807
  gid : -9223372036854775808 ≤ h.gid ∧ h.gid ≤ 9223372036854775807
  maj : -9223372036854775808 ≤ h.maj ∧ h.maj ≤ 9223372036854775807
  min : -9223372036854775808 ≤ h.min ∧ h.min ≤ 9223372036854775807
  mn : h.mn < 1000000000
  an : h.an < 1000000000
  cn : h.cn < 1000000000
  mx : -9223372036854775808 ≤ h.mx ∧ h.mx ≤ 9223372036854775807
  ax : -9223372036854775808 ≤ h.ax ∧ h.ax ≤ 9223372036854775807
  cx : -9223372036854775808 ≤ h.cx ∧ h.cx ≤ 9223372036854775807
def isZ (n : Nat) (x : Int) : Bool := decide (n = 0) && decide (x = 0)
/-- The modification time's seconds as they are written. -/
def Hd.secs (h : Hd) : Int := if isZ h.mn h.mx then 0 else tmUnix h.mx
theorem tmUnix_range (x : Int) : -9223372036854775808 ≤ tmUnix x ∧ tmUnix x ≤ 9223372036854775807 := by unfold tmUnix wrap64; omega
theorem Hd.secs_range (h : Hd) : -9223372036854775808 ≤ h.secs ∧ h.secs ≤ 9223372036854775807 := by
  unfold Hd.secs
  split
  · omega
  · exact tmUnix_range _
/-- A set of formats: USTAR, PAX, GNU. -/
def fm (u p g : Bool) : Int := (if u then 2 else 0) + (if p then 4 else 0) + (if g then 8 else 0)
theorem fm_not2 (u p g : Bool) : bits .andNot .i64 (fm u p g) 2 = fm false p g := by cases u <;> cases p <;> cases g <;> rfl
theorem fm_not4 (u p g : Bool) : bits .andNot .i64 (fm u p g) 4 = fm u false g := by cases u <;> cases p <;> cases g <;> rfl
theorem fm_not8 (u p g : Bool) : bits .andNot .i64 (fm u p g) 8 = fm u p false := by cases u <;> cases p <;> cases g <;> rfl
theorem fm_and (u p g u' p' g' : Bool) : bits .and .i64 (fm u p g) (fm u' p' g') = fm (u && u') (p && p') (g && g') := by
  cases u <;> cases p <;> cases g <;> cases u' <;> cases p' <;> cases g' <;> rfl
theorem fm_or2 (u p g : Bool) : bits .or .i64 (fm u p g) 2 = fm true p g := by cases u <;> cases p <;> cases g <;> rfl
theorem fm_and4 (u p g : Bool) : bits .and .i64 (fm u p g) 4 = fm false p false := by cases u <;> cases p <;> cases g <;> rfl
theorem fm_has2 (u p g : Bool) : (bits .and .i64 (fm u p g) 2 != 0) = u := by cases u <;> cases p <;> cases g <;> rfl
theorem fm_has4 (u p g : Bool) : (bits .and .i64 (fm u p g) 4 != 0) = p := by cases u <;> cases p <;> cases g <;> rfl
theorem fm_has8 (u p g : Bool) : (bits .and .i64 (fm u p g) 8 != 0) = g := by cases u <;> cases p <;> cases g <;> rfl

theorem has_any (f k : Int) (w : World) :
    Calls Tryz.prog 36 #[.int .i64 f, .int .i64 k] w fun e w' => e = .returned (.bool (bits .and .i64 f k != 0)) ∧ w = w' := by
  go_enter Tryz.func36, Tryz.ntmps36
  go_wp2
  go_ret
  exact ⟨rfl, rfl⟩
theorem mustNotBe_any (a : Addr) (f k : Int) (w : World) (hc : w.cell? a = some (.int .i64 f)) (hf : w.frozen? a = false) :
    Calls Tryz.prog 61 #[.pointer (some a), .int .i64 k] w fun e w' => e = .returned (.tuple #[]) ∧ w' = w.setCell a (.int .i64 (bits .andNot .i64 f k)) := by
  go_enter Tryz.func61, Tryz.ntmps61
  go_wp2
  go_end0
  exact ⟨rfl, rfl⟩
theorem mayOnlyBe_any (a : Addr) (f k : Int) (w : World) (hc : w.cell? a = some (.int .i64 f)) (hf : w.frozen? a = false) :
    Calls Tryz.prog 90 #[.pointer (some a), .int .i64 k] w fun e w' => e = .returned (.tuple #[]) ∧ w' = w.setCell a (.int .i64 (bits .and .i64 f k)) := by
  go_enter Tryz.func90, Tryz.ntmps90
  go_wp2
  go_end0
  exact ⟨rfl, rfl⟩
theorem mayBe_any (a : Addr) (f k : Int) (w : World) (hc : w.cell? a = some (.int .i64 f)) (hf : w.frozen? a = false) :
    Calls Tryz.prog 94 #[.pointer (some a), .int .i64 k] w fun e w' => e = .returned (.tuple #[]) ∧ w' = w.setCell a (.int .i64 (bits .or .i64 f k)) := by
  go_enter Tryz.func94, Tryz.ntmps94
  go_wp2
  go_end0
  exact ⟨rfl, rfl⟩

/-- The keys of the text fields. -/
def kPath : List UInt8 := [112, 97, 116, 104]
def kLink : List UInt8 := [108, 105, 110, 107, 112, 97, 116, 104]
def kUname : List UInt8 := [117, 110, 97, 109, 101]
def kGname : List UInt8 := [103, 110, 97, 109, 101]
def textKey (k : List UInt8) : Bool := k == kPath || k == kLink || k == kUname || k == kGname
/-- May a record be told? -/
def vRec (k v : ByteArray) : Bool := !(k.data.toList == []) && !(hasB k 61) && (if textKey k.data.toList then !(hasB v 0) else !(hasB k 0))
set_option maxRecDepth 100000 in
set_option maxHeartbeats 1000000 in
theorem validPAXRecord_any (k v : ByteArray) (w : World) (hk : k.size ≤ 140737488351232) (hv : v.size ≤ 140737488351232) :
    Calls Tryz.prog 93 #[.string k, .string v] w fun e w' => e = .returned (.bool (vRec k v)) ∧ w = w' := by
  by_cases h0 : k.toList = []
  · have h0' : k.toList.isEmpty = true := by rw [h0]; rfl
    have HV : Asd (vRec k v = false) := ⟨by unfold vRec; rw [← Lib.toList_data, h0]; rfl⟩
    go_enter Tryz.func93, Tryz.ntmps93
    go_wp2_with (first | (go_at_call 123; refine (zzContains_any _ _ _ hk).mono ?_; rintro e w' ⟨rfl, rfl⟩) | (go_at_call 60; refine (hasNUL_any _ _ (by assumption)).mono ?_; rintro e w' ⟨rfl, rfl⟩))
    go_ret
    exact ⟨ret_bool HV.out.symm, rfl⟩
  · have h0' : k.toList.isEmpty = false := by simpa using h0
    go_enter Tryz.func93, Tryz.ntmps93
    go_wp2_with (first | (go_at_call 123; refine (zzContains_any _ _ _ hk).mono ?_; rintro e w' ⟨rfl, rfl⟩) | (go_at_call 60; refine (hasNUL_any _ _ (by assumption)).mono ?_; rintro e w' ⟨rfl, rfl⟩))
    all_goals (go_ret; refine ⟨ret_bool ?_, rfl⟩; simp_all [vRec, textKey, kPath, kLink, kUname, kGname, ← Lib.toList_data])
def ascB (c : UInt8) : Bool := c != 0 && c < 128
/-- All bytes below 128, none 0. -/
def asc (s : ByteArray) : Bool := s.data.toList.all ascB
theorem asc_no {s : ByteArray} {k : Nat} (hk : k < s.size) (h : ascB (s[k]'hk) = false) : asc s = false := by
  unfold asc
  rw [List.all_eq_false]
  exact ⟨s[k]'hk, by simp [ByteArray.getElem_eq_getElem_data], by simpa using h⟩
theorem asc_yes {s : ByteArray} (h : ∀ k (hk : k < s.size), ascB (s[k]'hk) = true) : asc s = true := by
  unfold asc
  rw [List.all_eq_true]
  intro x hx
  obtain ⟨j, hj, rfl⟩ := List.mem_iff_getElem.1 hx
  exact h j (by simpa using hj)
theorem iterPos_of {w : World} {k : Nat} {s : ByteArray} {p : Nat} (h : w.heap[k]? = some (.stringIter s p)) : w.iterPos k = p := by simp [World.iterPos, h]

set_option maxRecDepth 100000 in
set_option maxHeartbeats 400000 in
theorem isASCII_any (s : ByteArray) (w : World) (hs : s.size ≤ 140737488351232) :
    Calls Tryz.prog 62 #[.string s] w fun e w' => e = .returned (.bool (asc s)) ∧ Below w.heap.size w w' := by
  go_enter Tryz.func62, Tryz.ntmps62
  go_wp2
  go_loopw [4] (fun _ wr => ∃ pos : Nat, wr.heap[w.heap.size]? = some (.stringIter s pos) ∧ Below w.heap.size w wr ∧ ∀ k (hk : k < s.size), k < pos → ascB (s[k]'hk) = true) (fun _ wr => s.size - wr.iterPos w.heap.size)
  case atStart => exact ⟨0, World.iter_heap w s 0, (Below.refl _ _).alloc (Nat.le_refl _) _, by intro k _ h; omega⟩
  case round =>
    obtain ⟨pos, hit, hbw, hall⟩ := hrel
    have hpos0 := iterPos_of hit
    by_cases hp : pos < s.size
    · have hnx : ∀ ty, (Instr.next (.pointer (some ⟨w.heap.size, 0, none⟩)) true ty).run Tryz.prog wr = _ := fun ty => Lib.run_next_any_at wr w.heap.size s pos ty hit hp
      have hit2 := Lib.iterAt_heap wr w.heap.size s pos (pos + (Utf8.decode s pos).2) hit
      have hbw2 := Lib.below_iterAt hbw (k := w.heap.size) (Nat.le_refl _) s (pos + (Utf8.decode s pos).2)
      obtain ⟨W1, hW1⟩ : ∃ W1, W1 = wr.iterAt w.heap.size s (pos + (Utf8.decode s pos).2) := ⟨_, rfl⟩
      rw [← hW1] at hnx hit2 hbw2
      clear hW1
      by_cases ha : (s[pos]'hp).toNat < 128
      · have hd := decode_ascii s pos hp ha
        rw [hd] at hnx hit2
        clear hd
        by_cases hz : s[pos]'hp = 0
        · have HA := Asd.mk (asc_no hp (by rw [hz]; rfl))
          rw [hz] at hnx
          clear hz hall
          go_wp2
          go_ret
          exact ⟨ret_bool HA.out.symm, hbw2⟩
        · have hz' : (((s[pos]'hp).toNat : Int) == 0) = false := by
            rw [beq_eq_false_iff_ne]; intro e; exact hz (by apply UInt8.toNat_inj.1; simpa using e)
          have hlt : ((s[pos]'hp).toNat : Int) < 128 := by omega
          have HB : Asd (ascB (s[pos]'hp) = true) := ⟨by unfold ascB; rw [Bool.and_eq_true]; exact ⟨by simpa using hz, by rw [decide_eq_true_eq, UInt8.lt_iff_toNat_lt]; exact ha⟩⟩
          have HAll := Asd.mk hall
          clear hall hz
          generalize (s[pos]'hp).toNat = nb at *
          go_wp2
          go_roundw
          case rel => exact ⟨_, hit2, hbw2, fun k hk h => by rcases Nat.lt_or_ge k pos with h' | h'; exact HAll.out k hk h'; (have e : k = pos := by omega); subst e; exact HB.out⟩
          case measure => rw [iterPos_of hit2, hpos0]; omega
      · have hh := decode_high s pos hp (by omega)
        have HA := Asd.mk (asc_no hp (by unfold ascB; rw [Bool.and_eq_false_iff]; right; rw [decide_eq_false_iff_not, UInt8.lt_iff_toNat_lt]; exact ha))
        have hge : (128 : Int) ≤ ((Utf8.decode s pos).1 : Int) := by omega
        clear hall hh
        go_wp2
        go_ret
        exact ⟨ret_bool HA.out.symm, hbw2⟩
    · have hnx : ∀ ty, (Instr.next (.pointer (some ⟨w.heap.size, 0, none⟩)) true ty).run Tryz.prog wr = _ := fun ty => Lib.run_next_end_at wr w.heap.size s pos ty hit hp
      have HA := Asd.mk (asc_yes (s := s) (fun k hk => hall k hk (by omega)))
      clear hall
      go_wp2
      go_ret
      exact ⟨ret_bool HA.out.symm, hbw⟩
theorem so5b (w : World) : (sizeOf 5).run Tryz.prog w = .ok 1 w := by kernel_rfl
theorem slice_at (T : TypeId) (ha : Tryz.prog.arrayLen T = 512) (he : Tryz.prog.elem T = 5) (hu : Tryz.prog.underlying T = some (.array 512 5)) (n o l m : Nat) (hm : l + m = 512) (hm1 : 1 ≤ m) (W : World) :
    (Instr.sliceAt T (.pointer (some ⟨n, o, none⟩)) (some (.int .i64 l)) none none).run Tryz.prog W = .ok (.slice (some ⟨n, o + l, none⟩) m m) W := by
  rw [run_sliceAt_array_l (P := Tryz.prog) (t := T) (h1 := by rw [ha]; omega) (h0 := by omega) (ht := by rw [ha, he]; exact hu)]
  simp only [ha, he, so5b, slicedAt, Result.andThen_ok, Int.toNat_natCast]
  rw [if_neg (by omega), Nat.mul_one, show 512 - l = m by omega]
  have e : (⟨n, o, none⟩ : Addr).add l = ⟨n, o + l, none⟩ := by unfold Addr.add; split <;> simp_all
  rw [e]
theorem alen276 : Tryz.prog.arrayLen 276 = 512 := by kernel_rfl
theorem aelem276 : Tryz.prog.elem 276 = 5 := by kernel_rfl
theorem alen277 : Tryz.prog.arrayLen 277 = 512 := by kernel_rfl
theorem aelem277 : Tryz.prog.elem 277 = 5 := by kernel_rfl
theorem alen278 : Tryz.prog.arrayLen 278 = 512 := by kernel_rfl
theorem aelem278 : Tryz.prog.elem 278 = 5 := by kernel_rfl
theorem alen283 : Tryz.prog.arrayLen 283 = 512 := by kernel_rfl
theorem aelem283 : Tryz.prog.elem 283 = 5 := by kernel_rfl
theorem alen102 : Tryz.prog.arrayLen 102 = 512 := by kernel_rfl
theorem aelem102 : Tryz.prog.elem 102 = 5 := by kernel_rfl
theorem acc73 (a : Addr) (w : World) : Calls Tryz.prog 73 #[.pointer (some a)] w fun e w' => e = .returned (.pointer (some a)) ∧ w = w' := by
  go_enter Tryz.func73, Tryz.ntmps73
  go_wp2
  go_ret
  exact ⟨rfl, rfl⟩
theorem acc74 (a : Addr) (w : World) : Calls Tryz.prog 74 #[.pointer (some a)] w fun e w' => e = .returned (.pointer (some a)) ∧ w = w' := by
  go_enter Tryz.func74, Tryz.ntmps74
  go_wp2
  go_ret
  exact ⟨rfl, rfl⟩
theorem acc75 (a : Addr) (w : World) : Calls Tryz.prog 75 #[.pointer (some a)] w fun e w' => e = .returned (.pointer (some a)) ∧ w = w' := by
  go_enter Tryz.func75, Tryz.ntmps75
  go_wp2
  go_ret
  exact ⟨rfl, rfl⟩
theorem acc135 (a : Addr) (w : World) : Calls Tryz.prog 135 #[.pointer (some a)] w fun e w' => e = .returned (.pointer (some a)) ∧ w = w' := by
  go_enter Tryz.func135, Tryz.ntmps135
  go_wp2
  go_ret
  exact ⟨rfl, rfl⟩
theorem acc76 (n o : Nat) (w : World) : Calls Tryz.prog 76 #[.pointer (some ⟨n, o, none⟩)] w fun e w' => e = .returned (.slice (some ⟨n, o + 0, none⟩) 100 512) ∧ w = w' := by
  have hs := slice_at 276 alen276 aelem276 Tryz.underlying276 n o 0 512 rfl (by omega) w
  have hs' : (Instr.sliceAt 276 (.pointer (some ⟨n, o, none⟩)) (some (.int .i64 0)) none none).run Tryz.prog w = .ok (.slice (some ⟨n, o + 0, none⟩) 512 512) w := hs
  clear hs
  go_enter Tryz.func76, Tryz.ntmps76
  go_wp2
  go_ret
  exact ⟨rfl, rfl⟩
theorem acc77 (n o : Nat) (w : World) : Calls Tryz.prog 77 #[.pointer (some ⟨n, o, none⟩)] w fun e w' => e = .returned (.slice (some ⟨n, o + 157, none⟩) 100 355) ∧ w = w' := by
  have hs := slice_at 276 alen276 aelem276 Tryz.underlying276 n o 157 355 rfl (by omega) w
  have hs' : (Instr.sliceAt 276 (.pointer (some ⟨n, o, none⟩)) (some (.int .i64 157)) none none).run Tryz.prog w = .ok (.slice (some ⟨n, o + 157, none⟩) 355 355) w := hs
  clear hs
  go_enter Tryz.func77, Tryz.ntmps77
  go_wp2
  go_ret
  exact ⟨rfl, rfl⟩
theorem acc78 (n o : Nat) (w : World) : Calls Tryz.prog 78 #[.pointer (some ⟨n, o, none⟩)] w fun e w' => e = .returned (.slice (some ⟨n, o + 265, none⟩) 32 247) ∧ w = w' := by
  have hs := slice_at 277 alen277 aelem277 Tryz.underlying277 n o 265 247 rfl (by omega) w
  have hs' : (Instr.sliceAt 277 (.pointer (some ⟨n, o, none⟩)) (some (.int .i64 265)) none none).run Tryz.prog w = .ok (.slice (some ⟨n, o + 265, none⟩) 247 247) w := hs
  clear hs
  go_enter Tryz.func78, Tryz.ntmps78
  go_wp2
  go_ret
  exact ⟨rfl, rfl⟩
theorem acc79 (n o : Nat) (w : World) : Calls Tryz.prog 79 #[.pointer (some ⟨n, o, none⟩)] w fun e w' => e = .returned (.slice (some ⟨n, o + 297, none⟩) 32 215) ∧ w = w' := by
  have hs := slice_at 277 alen277 aelem277 Tryz.underlying277 n o 297 215 rfl (by omega) w
  have hs' : (Instr.sliceAt 277 (.pointer (some ⟨n, o, none⟩)) (some (.int .i64 297)) none none).run Tryz.prog w = .ok (.slice (some ⟨n, o + 297, none⟩) 215 215) w := hs
  clear hs
  go_enter Tryz.func79, Tryz.ntmps79
  go_wp2
  go_ret
  exact ⟨rfl, rfl⟩
theorem acc80 (n o : Nat) (w : World) : Calls Tryz.prog 80 #[.pointer (some ⟨n, o, none⟩)] w fun e w' => e = .returned (.slice (some ⟨n, o + 100, none⟩) 8 412) ∧ w = w' := by
  have hs := slice_at 276 alen276 aelem276 Tryz.underlying276 n o 100 412 rfl (by omega) w
  have hs' : (Instr.sliceAt 276 (.pointer (some ⟨n, o, none⟩)) (some (.int .i64 100)) none none).run Tryz.prog w = .ok (.slice (some ⟨n, o + 100, none⟩) 412 412) w := hs
  clear hs
  go_enter Tryz.func80, Tryz.ntmps80
  go_wp2
  go_ret
  exact ⟨rfl, rfl⟩
theorem acc81 (n o : Nat) (w : World) : Calls Tryz.prog 81 #[.pointer (some ⟨n, o, none⟩)] w fun e w' => e = .returned (.slice (some ⟨n, o + 108, none⟩) 8 404) ∧ w = w' := by
  have hs := slice_at 276 alen276 aelem276 Tryz.underlying276 n o 108 404 rfl (by omega) w
  have hs' : (Instr.sliceAt 276 (.pointer (some ⟨n, o, none⟩)) (some (.int .i64 108)) none none).run Tryz.prog w = .ok (.slice (some ⟨n, o + 108, none⟩) 404 404) w := hs
  clear hs
  go_enter Tryz.func81, Tryz.ntmps81
  go_wp2
  go_ret
  exact ⟨rfl, rfl⟩
theorem acc82 (n o : Nat) (w : World) : Calls Tryz.prog 82 #[.pointer (some ⟨n, o, none⟩)] w fun e w' => e = .returned (.slice (some ⟨n, o + 116, none⟩) 8 396) ∧ w = w' := by
  have hs := slice_at 276 alen276 aelem276 Tryz.underlying276 n o 116 396 rfl (by omega) w
  have hs' : (Instr.sliceAt 276 (.pointer (some ⟨n, o, none⟩)) (some (.int .i64 116)) none none).run Tryz.prog w = .ok (.slice (some ⟨n, o + 116, none⟩) 396 396) w := hs
  clear hs
  go_enter Tryz.func82, Tryz.ntmps82
  go_wp2
  go_ret
  exact ⟨rfl, rfl⟩
theorem acc83 (n o : Nat) (w : World) : Calls Tryz.prog 83 #[.pointer (some ⟨n, o, none⟩)] w fun e w' => e = .returned (.slice (some ⟨n, o + 124, none⟩) 12 388) ∧ w = w' := by
  have hs := slice_at 276 alen276 aelem276 Tryz.underlying276 n o 124 388 rfl (by omega) w
  have hs' : (Instr.sliceAt 276 (.pointer (some ⟨n, o, none⟩)) (some (.int .i64 124)) none none).run Tryz.prog w = .ok (.slice (some ⟨n, o + 124, none⟩) 388 388) w := hs
  clear hs
  go_enter Tryz.func83, Tryz.ntmps83
  go_wp2
  go_ret
  exact ⟨rfl, rfl⟩
theorem acc84 (n o : Nat) (w : World) : Calls Tryz.prog 84 #[.pointer (some ⟨n, o, none⟩)] w fun e w' => e = .returned (.slice (some ⟨n, o + 329, none⟩) 8 183) ∧ w = w' := by
  have hs := slice_at 277 alen277 aelem277 Tryz.underlying277 n o 329 183 rfl (by omega) w
  have hs' : (Instr.sliceAt 277 (.pointer (some ⟨n, o, none⟩)) (some (.int .i64 329)) none none).run Tryz.prog w = .ok (.slice (some ⟨n, o + 329, none⟩) 183 183) w := hs
  clear hs
  go_enter Tryz.func84, Tryz.ntmps84
  go_wp2
  go_ret
  exact ⟨rfl, rfl⟩
theorem acc85 (n o : Nat) (w : World) : Calls Tryz.prog 85 #[.pointer (some ⟨n, o, none⟩)] w fun e w' => e = .returned (.slice (some ⟨n, o + 337, none⟩) 8 175) ∧ w = w' := by
  have hs := slice_at 277 alen277 aelem277 Tryz.underlying277 n o 337 175 rfl (by omega) w
  have hs' : (Instr.sliceAt 277 (.pointer (some ⟨n, o, none⟩)) (some (.int .i64 337)) none none).run Tryz.prog w = .ok (.slice (some ⟨n, o + 337, none⟩) 175 175) w := hs
  clear hs
  go_enter Tryz.func85, Tryz.ntmps85
  go_wp2
  go_ret
  exact ⟨rfl, rfl⟩
theorem acc86 (n o : Nat) (w : World) : Calls Tryz.prog 86 #[.pointer (some ⟨n, o, none⟩)] w fun e w' => e = .returned (.slice (some ⟨n, o + 136, none⟩) 12 376) ∧ w = w' := by
  have hs := slice_at 276 alen276 aelem276 Tryz.underlying276 n o 136 376 rfl (by omega) w
  have hs' : (Instr.sliceAt 276 (.pointer (some ⟨n, o, none⟩)) (some (.int .i64 136)) none none).run Tryz.prog w = .ok (.slice (some ⟨n, o + 136, none⟩) 376 376) w := hs
  clear hs
  go_enter Tryz.func86, Tryz.ntmps86
  go_wp2
  go_ret
  exact ⟨rfl, rfl⟩
theorem acc87 (n o : Nat) (w : World) : Calls Tryz.prog 87 #[.pointer (some ⟨n, o, none⟩)] w fun e w' => e = .returned (.slice (some ⟨n, o + 345, none⟩) 12 167) ∧ w = w' := by
  have hs := slice_at 278 alen278 aelem278 Tryz.underlying278 n o 345 167 rfl (by omega) w
  have hs' : (Instr.sliceAt 278 (.pointer (some ⟨n, o, none⟩)) (some (.int .i64 345)) none none).run Tryz.prog w = .ok (.slice (some ⟨n, o + 345, none⟩) 167 167) w := hs
  clear hs
  go_enter Tryz.func87, Tryz.ntmps87
  go_wp2
  go_ret
  exact ⟨rfl, rfl⟩
theorem acc88 (n o : Nat) (w : World) : Calls Tryz.prog 88 #[.pointer (some ⟨n, o, none⟩)] w fun e w' => e = .returned (.slice (some ⟨n, o + 357, none⟩) 12 155) ∧ w = w' := by
  have hs := slice_at 278 alen278 aelem278 Tryz.underlying278 n o 357 155 rfl (by omega) w
  have hs' : (Instr.sliceAt 278 (.pointer (some ⟨n, o, none⟩)) (some (.int .i64 357)) none none).run Tryz.prog w = .ok (.slice (some ⟨n, o + 357, none⟩) 155 155) w := hs
  clear hs
  go_enter Tryz.func88, Tryz.ntmps88
  go_wp2
  go_ret
  exact ⟨rfl, rfl⟩
theorem acc98 (n o : Nat) (w : World) : Calls Tryz.prog 98 #[.pointer (some ⟨n, o, none⟩)] w fun e w' => e = .returned (.slice (some ⟨n, o + 345, none⟩) 155 167) ∧ w = w' := by
  have hs := slice_at 277 alen277 aelem277 Tryz.underlying277 n o 345 167 rfl (by omega) w
  have hs' : (Instr.sliceAt 277 (.pointer (some ⟨n, o, none⟩)) (some (.int .i64 345)) none none).run Tryz.prog w = .ok (.slice (some ⟨n, o + 345, none⟩) 167 167) w := hs
  clear hs
  go_enter Tryz.func98, Tryz.ntmps98
  go_wp2
  go_ret
  exact ⟨rfl, rfl⟩
theorem acc131 (n o : Nat) (w : World) : Calls Tryz.prog 131 #[.pointer (some ⟨n, o, none⟩)] w fun e w' => e = .returned (.slice (some ⟨n, o + 156, none⟩) 1 356) ∧ w = w' := by
  have hs := slice_at 276 alen276 aelem276 Tryz.underlying276 n o 156 356 rfl (by omega) w
  have hs' : (Instr.sliceAt 276 (.pointer (some ⟨n, o, none⟩)) (some (.int .i64 156)) none none).run Tryz.prog w = .ok (.slice (some ⟨n, o + 156, none⟩) 356 356) w := hs
  clear hs
  go_enter Tryz.func131, Tryz.ntmps131
  go_wp2
  go_ret
  exact ⟨rfl, rfl⟩
theorem acc133 (n o : Nat) (w : World) : Calls Tryz.prog 133 #[.pointer (some ⟨n, o, none⟩)] w fun e w' => e = .returned (.slice (some ⟨n, o + 257, none⟩) 6 255) ∧ w = w' := by
  have hs := slice_at 278 alen278 aelem278 Tryz.underlying278 n o 257 255 rfl (by omega) w
  have hs' : (Instr.sliceAt 278 (.pointer (some ⟨n, o, none⟩)) (some (.int .i64 257)) none none).run Tryz.prog w = .ok (.slice (some ⟨n, o + 257, none⟩) 255 255) w := hs
  clear hs
  go_enter Tryz.func133, Tryz.ntmps133
  go_wp2
  go_ret
  exact ⟨rfl, rfl⟩
theorem acc134 (n o : Nat) (w : World) : Calls Tryz.prog 134 #[.pointer (some ⟨n, o, none⟩)] w fun e w' => e = .returned (.slice (some ⟨n, o + 263, none⟩) 2 249) ∧ w = w' := by
  have hs := slice_at 278 alen278 aelem278 Tryz.underlying278 n o 263 249 rfl (by omega) w
  have hs' : (Instr.sliceAt 278 (.pointer (some ⟨n, o, none⟩)) (some (.int .i64 263)) none none).run Tryz.prog w = .ok (.slice (some ⟨n, o + 263, none⟩) 249 249) w := hs
  clear hs
  go_enter Tryz.func134, Tryz.ntmps134
  go_wp2
  go_ret
  exact ⟨rfl, rfl⟩
theorem acc136 (n o : Nat) (w : World) : Calls Tryz.prog 136 #[.pointer (some ⟨n, o, none⟩)] w fun e w' => e = .returned (.slice (some ⟨n, o + 257, none⟩) 6 255) ∧ w = w' := by
  have hs := slice_at 283 alen283 aelem283 Tryz.underlying283 n o 257 255 rfl (by omega) w
  have hs' : (Instr.sliceAt 283 (.pointer (some ⟨n, o, none⟩)) (some (.int .i64 257)) none none).run Tryz.prog w = .ok (.slice (some ⟨n, o + 257, none⟩) 255 255) w := hs
  clear hs
  go_enter Tryz.func136, Tryz.ntmps136
  go_wp2
  go_ret
  exact ⟨rfl, rfl⟩
theorem acc137 (n o : Nat) (w : World) : Calls Tryz.prog 137 #[.pointer (some ⟨n, o, none⟩)] w fun e w' => e = .returned (.slice (some ⟨n, o + 263, none⟩) 2 249) ∧ w = w' := by
  have hs := slice_at 283 alen283 aelem283 Tryz.underlying283 n o 263 249 rfl (by omega) w
  have hs' : (Instr.sliceAt 283 (.pointer (some ⟨n, o, none⟩)) (some (.int .i64 263)) none none).run Tryz.prog w = .ok (.slice (some ⟨n, o + 263, none⟩) 249 249) w := hs
  clear hs
  go_enter Tryz.func137, Tryz.ntmps137
  go_wp2
  go_ret
  exact ⟨rfl, rfl⟩
theorem acc138 (n o : Nat) (w : World) : Calls Tryz.prog 138 #[.pointer (some ⟨n, o, none⟩)] w fun e w' => e = .returned (.slice (some ⟨n, o + 508, none⟩) 4 4) ∧ w = w' := by
  have hs := slice_at 283 alen283 aelem283 Tryz.underlying283 n o 508 4 rfl (by omega) w
  have hs' : (Instr.sliceAt 283 (.pointer (some ⟨n, o, none⟩)) (some (.int .i64 508)) none none).run Tryz.prog w = .ok (.slice (some ⟨n, o + 508, none⟩) 4 4) w := hs
  clear hs
  go_enter Tryz.func138, Tryz.ntmps138
  go_wp2
  go_ret
  exact ⟨rfl, rfl⟩
theorem acc139 (n o : Nat) (w : World) : Calls Tryz.prog 139 #[.pointer (some ⟨n, o, none⟩)] w fun e w' => e = .returned (.slice (some ⟨n, o + 257, none⟩) 6 255) ∧ w = w' := by
  have hs := slice_at 277 alen277 aelem277 Tryz.underlying277 n o 257 255 rfl (by omega) w
  have hs' : (Instr.sliceAt 277 (.pointer (some ⟨n, o, none⟩)) (some (.int .i64 257)) none none).run Tryz.prog w = .ok (.slice (some ⟨n, o + 257, none⟩) 255 255) w := hs
  clear hs
  go_enter Tryz.func139, Tryz.ntmps139
  go_wp2
  go_ret
  exact ⟨rfl, rfl⟩
theorem acc140 (n o : Nat) (w : World) : Calls Tryz.prog 140 #[.pointer (some ⟨n, o, none⟩)] w fun e w' => e = .returned (.slice (some ⟨n, o + 263, none⟩) 2 249) ∧ w = w' := by
  have hs := slice_at 277 alen277 aelem277 Tryz.underlying277 n o 263 249 rfl (by omega) w
  have hs' : (Instr.sliceAt 277 (.pointer (some ⟨n, o, none⟩)) (some (.int .i64 263)) none none).run Tryz.prog w = .ok (.slice (some ⟨n, o + 263, none⟩) 249 249) w := hs
  clear hs
  go_enter Tryz.func140, Tryz.ntmps140
  go_wp2
  go_ret
  exact ⟨rfl, rfl⟩
theorem acc141 (n o : Nat) (w : World) : Calls Tryz.prog 141 #[.pointer (some ⟨n, o, none⟩)] w fun e w' => e = .returned (.slice (some ⟨n, o + 148, none⟩) 8 364) ∧ w = w' := by
  have hs := slice_at 276 alen276 aelem276 Tryz.underlying276 n o 148 364 rfl (by omega) w
  have hs' : (Instr.sliceAt 276 (.pointer (some ⟨n, o, none⟩)) (some (.int .i64 148)) none none).run Tryz.prog w = .ok (.slice (some ⟨n, o + 148, none⟩) 364 364) w := hs
  clear hs
  go_enter Tryz.func141, Tryz.ntmps141
  go_wp2
  go_ret
  exact ⟨rfl, rfl⟩
theorem info5 : (Tryz.prog.info? 5).map (fun i => (i.zero, i.size, i.bytes)) = some (some (.int .u8 0), 1, 1) := by kernel_rfl
def toAsc (s : ByteArray) : ByteArray := ⟨(s.data.toList.filter ascB).toArray⟩
theorem toAsc_of {s : ByteArray} (h : asc s = true) : toAsc s = s := by
  unfold asc at h
  unfold toAsc
  rw [List.filter_eq_self.2 (by intro x hx; exact List.all_eq_true.1 h x hx)]
theorem ownsRow_iterAt {w : World} {base : Nat} {e : TypeId} {size : Nat} {v : Value} {n : Nat} {xs : List Value} (h : w.ownsRow base e size v n xs) {k : Nat} (hk : ∀ g, v.ownBlock = some g → g ≠ k) (s : ByteArray) (p : Nat) : (w.iterAt k s p).ownsRow base e size v n xs := by
  obtain ⟨h1, h2⟩ := h
  refine ⟨h1, ?_⟩
  rcases h2 with h2 | ⟨g, cap, cur, a, b, c, d⟩
  · exact .inl h2
  · exact .inr ⟨g, cap, cur, a, b, by rw [Lib.iterAt_other _ _ _ _ _ (hk g (by rw [a]; rfl))]; exact c, d⟩
/-- The bytes that one step of the iterator passes over behind a high one are high. -/
theorem decode_skip (s : ByteArray) (pos : Nat) (h : pos < s.size) (ha : 128 ≤ (s[pos]'h).toNat) :
    pos + (Utf8.decode s pos).2 ≤ s.size ∧ ∀ j (hj : j < s.size), pos ≤ j → j < pos + (Utf8.decode s pos).2 → ascB (s[j]'hj) = false := by
  have hn : ¬ (s[pos]'h).toNat < 128 := by omega
  have hg : ∀ k (hk : pos + k < s.size), s.get! (pos + k) = s[pos + k]'hk := fun k hk => by
    simp [ByteArray.get!, getElem!_pos, hk]; rfl
  have key : ∀ j (hj : j < s.size), 128 ≤ (s[j]'hj).toNat → ascB (s[j]'hj) = false := fun j hj hx => by
    unfold ascB; rw [Bool.and_eq_false_iff]; right; rw [decide_eq_false_iff_not, UInt8.lt_iff_toNat_lt]
    show ¬ _ < 128
    omega
  have hc : ∀ k, (decide (pos + k < s.size) && (s.get! (pos + k)).toNat / 64 == 2) = true → ∃ hk : pos + k < s.size, 128 ≤ (s[pos + k]'hk).toNat := by
    intro k hk
    simp at hk
    obtain ⟨h1, h2⟩ := hk
    refine ⟨h1, ?_⟩
    rw [hg k h1] at h2
    omega
  have h1 : ∀ j (hj : j < s.size), pos ≤ j → j < pos + 1 → ascB (s[j]'hj) = false := fun j hj a b => by
    have e : j = pos := by omega
    subst e; exact key j hj ha
  simp only [Utf8.decode, get_at s pos h, hn, if_false]
  split
  · rename_i hh
    rw [Bool.and_eq_true] at hh
    obtain ⟨k1, b1⟩ := hc 1 hh.2
    split
    · exact ⟨by simp; omega, fun j hj a b => by
        simp at b
        rcases Nat.lt_or_ge j (pos + 1) with q | q
        · exact h1 j hj a q
        · have e : j = pos + 1 := by omega
          subst e; exact key _ hj b1⟩
    · exact ⟨by simp; omega, fun j hj a b => h1 j hj a (by simpa using b)⟩
  · split
    · rename_i hh
      rw [Bool.and_eq_true, Bool.and_eq_true] at hh
      obtain ⟨k1, b1⟩ := hc 1 hh.1.2
      obtain ⟨k2, b2⟩ := hc 2 hh.2
      split
      · exact ⟨by simp; omega, fun j hj a b => by
          simp at b
          rcases Nat.lt_or_ge j (pos + 1) with q | q
          · exact h1 j hj a q
          · rcases Nat.lt_or_ge j (pos + 2) with q2 | q2
            · have e : j = pos + 1 := by omega
              subst e; exact key _ hj b1
            · have e : j = pos + 2 := by omega
              subst e; exact key _ hj b2⟩
      · exact ⟨by simp; omega, fun j hj a b => h1 j hj a (by simpa using b)⟩
    · split
      · rename_i hh
        rw [Bool.and_eq_true, Bool.and_eq_true, Bool.and_eq_true] at hh
        obtain ⟨k1, b1⟩ := hc 1 hh.1.1.2
        obtain ⟨k2, b2⟩ := hc 2 hh.1.2
        obtain ⟨k3, b3⟩ := hc 3 hh.2
        split
        · exact ⟨by simp; omega, fun j hj a b => by
            simp at b
            rcases Nat.lt_or_ge j (pos + 1) with q | q
            · exact h1 j hj a q
            · rcases Nat.lt_or_ge j (pos + 2) with q2 | q2
              · have e : j = pos + 1 := by omega
                subst e; exact key _ hj b1
              · rcases Nat.lt_or_ge j (pos + 3) with q3 | q3
                · have e : j = pos + 2 := by omega
                  subst e; exact key _ hj b2
                · have e : j = pos + 3 := by omega
                  subst e; exact key _ hj b3⟩
        · exact ⟨by simp; omega, fun j hj a b => h1 j hj a (by simpa using b)⟩
      · exact ⟨by simp; omega, fun j hj a b => h1 j hj a (by simpa using b)⟩
/-- What was collected ahead of place p. -/
def ascTo (s : ByteArray) (p : Nat) : List UInt8 := (s.data.toList.take p).filter ascB
theorem take_add (l : List UInt8) (p n : Nat) : l.take (p + n) = l.take p ++ (l.drop p).take n := by rw [List.take_add]
theorem this_x {s : ByteArray} {p n : Nat} (h : ∀ j (hj : j < s.size), p ≤ j → j < p + n → ascB (s[j]'hj) = false) : ∀ x ∈ (s.data.toList.drop p).take n, ¬ ascB x = true := by
  intro x hx
  obtain ⟨i, hi, rfl⟩ := List.mem_iff_getElem.1 hx
  simp at hi
  have hz : s.size = s.data.size := rfl
  have := h (p + i) (by omega) (by omega) (by omega)
  rw [List.getElem_take, List.getElem_drop]
  rw [ByteArray.getElem_eq_getElem_data] at this
  simp [this]
theorem ascTo_skip {s : ByteArray} {p n : Nat} (h : ∀ j (hj : j < s.size), p ≤ j → j < p + n → ascB (s[j]'hj) = false) : ascTo s (p + n) = ascTo s p := by
  unfold ascTo
  rw [take_add, List.filter_append]
  have e : ((s.data.toList.drop p).take n).filter ascB = [] := by
    rw [List.filter_eq_nil_iff]
    intro x hx
    exact this_x h x hx
  rw [e, List.append_nil]
theorem ascTo_one {s : ByteArray} {p : Nat} (hp : p < s.size) (h : ascB (s[p]'hp) = true) : ascTo s (p + 1) = ascTo s p ++ [s[p]'hp] := by
  unfold ascTo
  have hp' : p < s.data.toList.length := by simpa using hp
  rw [take_add, List.filter_append, List.drop_eq_getElem_cons hp']
  simp only [List.take_succ_cons, List.take_zero]
  rw [List.filter_cons_of_pos (by rw [ByteArray.getElem_eq_getElem_data] at h; simpa using h)]
  simp [ByteArray.getElem_eq_getElem_data]
theorem ascTo_len (s : ByteArray) (p : Nat) : (ascTo s p).length ≤ p := by
  unfold ascTo
  have := List.length_filter_le ascB (s.data.toList.take p)
  have := List.length_take_le p s.data.toList
  omega
theorem ascTo_all (s : ByteArray) : (⟨(ascTo s s.size).toArray⟩ : ByteArray) = toAsc s := by
  unfold ascTo toAsc
  rw [List.take_of_length_le (by simp)]
set_option maxRecDepth 100000 in
set_option maxHeartbeats 1000000 in
theorem toASCII_any (s : ByteArray) (w : World) (hs : s.size ≤ 140737488351232) :
    Calls Tryz.prog 110 #[.string s] w fun e w' => e = .returned (.string (toAsc s)) ∧ Below w.heap.size w w' := by
  obtain ⟨i0, hi, hz0, hz1, hz2⟩ := info_parts info5
  by_cases hA : asc s = true
  · have HA := Asd.mk (toAsc_of hA)
    go_enter Tryz.func110, Tryz.ntmps110
    go_wp2_with (go_at_call 62; refine (isASCII_any _ _ hs).mono ?_; rintro e w1 ⟨rfl, hb1⟩)
    go_ret
    exact ⟨ret_str HA.out.symm, hb1⟩
  · have hA' : asc s = false := by simpa using hA
    clear hA
    go_enter Tryz.func110, Tryz.ntmps110
    go_wp2_with (first
      | (go_at_call 62; refine (isASCII_any _ _ hs).mono ?_; rintro e w1 ⟨rfl, hb1⟩)
      | (at_make; refine wpList_make_own _ rfl _ _ 25 rfl w.heap.size 5 i0 (.int .u8 0) 1 Tryz.underlying25 hi hz0 hz1 .i64 .i64 _ s.size rfl rfl rfl (by rw [hz2]; omega) (by unfold maxLen; omega) ?_ ?_; rotate_left; intro w2 hown2 hgrow2))
    · obtain ⟨it, hitd⟩ : ∃ it, w2.heap.size = it := ⟨_, rfl⟩
      have hit0 := World.iter_heap w2 s 0
      have hown0 : (w2.iter s 0).ownsRow w.heap.size 5 1 (.slice (some ⟨w1.heap.size, 0, none⟩) 0 s.size) 0 [] := hown2.alloc (.stringIter s 0)
      have hbw0 : Below w.heap.size w (w2.iter s 0) := ((hb1.grown hgrow2 hb1.size (fun _ h => by cases h)).alloc (Nat.le_trans hb1.size hgrow2.size) _)
      have hlt0 : w.heap.size ≤ it := by rw [← hitd]; exact Nat.le_trans hb1.size hgrow2.size
      rw [hitd] at hit0 ⊢
      obtain ⟨W0, hW0⟩ : ∃ W0, W0 = w2.iter s 0 := ⟨_, rfl⟩
      rw [← hW0] at hit0 hown0 hbw0 ⊢
      clear hW0 hitd hgrow2 hown2
      go_loopw [3, 5] (fun v _ wr => ∃ pos : Nat, wr.heap[it]? = some (.stringIter s pos) ∧ pos ≤ s.size ∧ wr.ownsRow w.heap.size 5 1 v (ascTo s pos).length (cells (ascTo s pos)) ∧ Below w.heap.size w wr) (fun _ _ wr => s.size - wr.iterPos it)
      case atStart => exact ⟨0, hit0, Nat.zero_le _, by simpa [ascTo, cells] using hown0, hbw0⟩
      case round =>
        clear hit0 hown0 hbw0
        obtain ⟨pos, hit, hple, hown, hbw⟩ := hrel
        have hpos0 := iterPos_of hit
        have hne : ∀ g, u3.ownBlock = some g → g ≠ it := by
          intro g hg e
          subst e
          rcases hown.2 with ⟨h1, _⟩ | ⟨g', cap', cur, h1, _, h2, _⟩
          · rw [h1] at hg; simp [Value.ownBlock] at hg
          · rw [h1] at hg; simp [Value.ownBlock] at hg; subst hg; rw [hit] at h2; cases h2
        by_cases hp : pos < s.size
        · have hnx : ∀ ty, (Instr.next (.pointer (some ⟨it, 0, none⟩)) true ty).run Tryz.prog wr = _ := fun ty => Lib.run_next_any_at wr it s pos ty hit hp
          have hit2 := Lib.iterAt_heap wr it s pos (pos + (Utf8.decode s pos).2) hit
          have hbw2 := Lib.below_iterAt hbw (k := it) hlt0 s (pos + (Utf8.decode s pos).2)
          have hown2 := ownsRow_iterAt hown hne s (pos + (Utf8.decode s pos).2)
          obtain ⟨W1, hW1⟩ : ∃ W1, W1 = wr.iterAt it s (pos + (Utf8.decode s pos).2) := ⟨_, rfl⟩
          rw [← hW1] at hnx hit2 hbw2 hown2
          clear hW1 hit hown hbw
          by_cases ha : (s[pos]'hp).toNat < 128
          · have hd := decode_ascii s pos hp ha
            rw [hd] at hnx hit2
            clear hd
            by_cases hz : s[pos]'hp = 0
            · have HS := Asd.mk (ascTo_skip (s := s) (p := pos) (n := 1) (fun j hj a b => by
                have e : j = pos := by omega
                subst e; rw [hz]; rfl))
              rw [hz] at hnx
              clear hz
              go_wp2
              go_roundw
              case rel => exact ⟨_, hit2, by show pos + 1 ≤ _; omega, by show World.ownsRow _ _ _ _ _ (ascTo s (pos + 1)).length (cells (ascTo s (pos + 1))); rw [HS.out]; exact hown2, hbw2⟩
              case measure => rw [iterPos_of hit2, hpos0]; show s.size - (pos + 1) < _; omega
            · have HB : ascB (s[pos]'hp) = true := by unfold ascB; rw [Bool.and_eq_true]; exact ⟨by simpa using hz, by rw [decide_eq_true_eq, UInt8.lt_iff_toNat_lt]; exact ha⟩
              have HS := Asd.mk (ascTo_one hp HB)
              have hz' : (((s[pos]'hp).toNat : Int) != 0) = true := by
                rw [bne_iff_ne]; intro e; exact hz (by apply UInt8.toNat_inj.1; simpa using e)
              have hlt : ((s[pos]'hp).toNat : Int) < 128 := by omega
              have hLen := ascTo_len s pos
              have HU : Asd (u8 (s[pos]'hp) = .int .u8 ((s[pos]'hp).toNat : Int)) := ⟨rfl⟩
              have hwr8 : IntKind.u8.wrap ((s[pos]'hp).toNat : Int) = ((s[pos]'hp).toNat : Int) := by rw [IntKind.wrap_u8]; omega
              clear hz HB
              generalize (s[pos]'hp).toNat = nb at *
              go_wp2_with (at_builtin; refine wpList_append_own _ rfl _ _ 25 rfl w.heap.size 5 i0 (.int .u8 0) 1 1 Tryz.underlying25 hi hz0 hz1 hz2 rfl (by decide) _ _ _ rfl (hown2.alloc _) ⟨W1.heap.size, 0, none⟩ 1 1 [.int .u8 (nb : Int)] rfl rfl (cell_one_new _ _ _) ?_ ?_ ?_ ?_ ?_; rotate_right; intro v' w3 hown' hgrow3 hnil3)
              case roundEnd =>
                have hg2 : W1.grownBy w3 u3.ownBlock := (World.grownBy_alloc W1 _ _).trans hgrow3
                have hit3 : w3.heap[it]? = some (.stringIter s (pos + 1)) := by
                  rw [hg2.block it (blk_lt hit2) (fun e => hne it e.symm rfl)]; exact hit2
                refine ⟨⟨pos + 1, hit3, by omega, ?_, ?_⟩, ?_⟩
                · have e : cells (ascTo s (pos + 1)) = cells (ascTo s pos) ++ [.int .u8 (nb : Int)] := by rw [HS.out, cells_append, ← HU.out]; rfl
                  rw [e, HS.out]; simpa using hown'
                · exact hbw2.grown hg2 hbw2.size (fun k hk => (hown2.lt k hk).1)
                · rw [iterPos_of hit3, hpos0]; omega
              · rfl
              · unfold maxLen; omega
              · omega
              · exact Nat.le_succ_of_le hbw2.size
          · have hh := decode_high s pos hp (by omega)
            obtain ⟨hk1, hk2⟩ := decode_skip s pos hp (by omega)
            have HS := Asd.mk (ascTo_skip hk2)
            have hge : (128 : Int) ≤ ((Utf8.decode s pos).1 : Int) := by omega
            have HH := Asd.mk hh.2
            clear hh hk2
            go_wp2
            go_roundw
            case rel => exact ⟨_, hit2, hk1, by rw [HS.out]; exact hown2, hbw2⟩
            case measure => rw [iterPos_of hit2, hpos0]; have := HH.out; omega
        · have hnx : ∀ ty, (Instr.next (.pointer (some ⟨it, 0, none⟩)) true ty).run Tryz.prog wr = _ := fun ty => Lib.run_next_end_at wr it s pos ty hit hp
          have e : pos = s.size := by omega
          subst e
          have HA := Asd.mk (ascTo_all s)
          rcases hown.2 with ⟨rfl, h0⟩ | ⟨g, cap, cur, rfl, hg, hh, hn, _, hsz, htake⟩
          · have hcv := fun W => Lib.run_convert_nil_bytes (P := Tryz.prog) W 25 9 5 0 Tryz.underlying25 Tryz.underlying5 Tryz.underlying9
            go_wp2
            go_ret
            have h1 : ascTo s s.size = [] := List.eq_nil_of_length_eq_zero h0
            exact ⟨ret_str (by rw [← HA.out, h1]), hbw⟩
          · have hcv := run_convert_bytes_back (P := Tryz.prog) wr 25 9 5 ⟨g, 0, none⟩ cap (ascTo s s.size) Tryz.underlying25 Tryz.underlying5 Tryz.underlying9 (fun j hj => by
              have e : (⟨g, 0, none⟩ : Addr).add j = ⟨g, j, none⟩ := by unfold Addr.add; split <;> simp_all
              rw [e, hown.cellAt j (by omega), cells_get, List.getElem?_eq_getElem hj]; rfl)
            have hla : ((ascTo s s.size).length : Int) = (ascTo s s.size).length := rfl
            clear hla
            go_wp2
            go_ret
            exact ⟨ret_str HA.out, hbw⟩
    · exact hb1.size
end Go.Proofs.YtpkilegnokajmaaGreatDoor
