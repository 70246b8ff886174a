/- maps.Keys and slices.Sorted at this dump (laid by the kit's tools, in plain words); a map's keys in their order. -/
import Derived.Test.YtpkilegnokajmaaGreatDoorA01
import Derived.Shelf.SlIter.Nil
import Derived.Shelf.SortM.Plain
import Derived.Shelf.SortM.SortNone
import Derived.Ground.GgzProg
import Derived.Ground.SlgmProg
import Derived.Sort.Grow
set_option linter.unusedVariables false
set_option linter.unusedSimpArgs false
set_option linter.unnecessarySimpa false
set_option linter.unusedSectionVars false
namespace Go.Proofs
open Go.Shelf
def Tryz.keys102_ren : Go.Shelf.Ren := ⟨fun | 7 => 102 | 10 => 146 | n => n, fun | 23 => 97 | 26 => 9 | 3 => 9 | 28 => 165 | 0 => 0 | 27 => 164 | 33 => 121 | 4 => 4 | n => n, fun | n => n⟩
theorem Tryz.keys102 : Go.Proofs.SlLaysZ.n7 Tryz.prog Tryz.keys102_ren := {
  mixed := by kernel_rfl
  f7 := ⟨Tryz.f102.name, by decide, Tryz.func102.trans (congrArg some (by kernel_rfl))⟩
  f10 := ⟨Tryz.f146.name, by decide, Tryz.func146.trans (congrArg some (by kernel_rfl))⟩
  t0 := Tryz.underlying0
  a0 := Tryz.isAgg0
  z0 := Tryz.sizeOf0
  v0 := Tryz.zeroValue0
  t4 := Tryz.underlying4
  a4 := Tryz.isAgg4
  z4 := Tryz.sizeOf4
  v4 := Tryz.zeroValue4
  t23 := Tryz.underlying97
  a23 := Tryz.isAgg97
  z23 := Tryz.sizeOf97
  v23 := Tryz.zeroValue97
  t26 := Tryz.underlying9
  a26 := Tryz.isAgg9
  z26 := Tryz.sizeOf9
  v26 := Tryz.zeroValue9
  t27 := Tryz.underlying164
  a27 := Tryz.isAgg164
  z27 := Tryz.sizeOf164
  v27 := Tryz.zeroValue164
  t28 := Tryz.underlying165
  a28 := Tryz.isAgg165
  z28 := Tryz.sizeOf165
  v28 := Tryz.zeroValue165
  t33 := Tryz.underlying121
  a33 := Tryz.isAgg121
  z33 := Tryz.sizeOf121
  v33 := Tryz.zeroValue121 }
def Tryz.sorted101_ren : Go.Shelf.Ren := ⟨fun | 6 => 101 | 8 => 144 | 9 => 145 | 11 => 162 | 13 => 164 | 12 => 163 | 23 => 188 | 24 => 172 | 14 => 179 | 15 => 180 | 16 => 181 | 17 => 182 | 18 => 183 | 19 => 184 | 20 => 185 | 21 => 186 | 22 => 187 | 25 => 192 | 26 => 193 | 27 => 194 | 28 => 195 | 29 => 196 | 30 => 197 | 31 => 198 | n => n, fun | 26 => 9 | 28 => 165 | 24 => 150 | 0 => 0 | 3 => 3 | 37 => 190 | 48 => 230 | 50 => 94 | 4 => 4 | 40 => 242 | 39 => 241 | 45 => 246 | 5 => 5 | 9 => 9 | 51 => 251 | 55 => 255 | 57 => 259 | 58 => 260 | 33 => 121 | n => n, fun | n => n⟩
theorem Tryz.sorted101 : Go.Proofs.SlLaysZ.n6 Tryz.prog Tryz.sorted101_ren := {
  mixed := by kernel_rfl
  f6 := ⟨Tryz.f101.name, by decide, Tryz.func101.trans (congrArg some (by kernel_rfl))⟩
  f8 := ⟨Tryz.f144.name, by decide, Tryz.func144.trans (congrArg some (by kernel_rfl))⟩
  f11 := ⟨Tryz.f162.name, by decide, Tryz.func162.trans (congrArg some (by kernel_rfl))⟩
  t0 := Tryz.underlying0
  a0 := Tryz.isAgg0
  z0 := Tryz.sizeOf0
  v0 := Tryz.zeroValue0
  t24 := Tryz.underlying150
  a24 := Tryz.isAgg150
  z24 := Tryz.sizeOf150
  v24 := Tryz.zeroValue150
  t26 := Tryz.underlying9
  a26 := Tryz.isAgg9
  z26 := Tryz.sizeOf9
  v26 := Tryz.zeroValue9
  t28 := Tryz.underlying165
  a28 := Tryz.isAgg165
  z28 := Tryz.sizeOf165
  v28 := Tryz.zeroValue165
  i26 := by kernel_rfl }
def Tryz.sort145_ren : Go.Shelf.Ren := ⟨fun | 6 => 145 | 8 => 164 | 9 => 163 | 19 => 188 | 20 => 172 | 21 => 179 | 22 => 180 | 23 => 181 | 24 => 182 | 25 => 183 | 26 => 184 | 27 => 185 | 28 => 186 | 29 => 187 | 36 => 192 | 31 => 193 | 32 => 194 | 37 => 195 | 38 => 196 | 39 => 197 | 41 => 198 | n => n, fun | 27 => 150 | 29 => 9 | 3 => 3 | 32 => 190 | 26 => 150 | 0 => 0 | 44 => 230 | 46 => 94 | 4 => 4 | 36 => 242 | 35 => 241 | 41 => 246 | 5 => 5 | 9 => 9 | 53 => 251 | 57 => 255 | 63 => 259 | 64 => 260 | n => n, fun | n => n⟩
theorem Tryz.sort145 : Go.Proofs.SlLaysM.n6 Tryz.prog Tryz.sort145_ren := {
  mixed := by kernel_rfl
  f6 := ⟨Tryz.f145.name, by decide, Tryz.func145.trans (congrArg some (by kernel_rfl))⟩
  f8 := Tryz.func164.trans (congrArg some (by kernel_rfl))
  f9 := ⟨Tryz.f163.name, by decide, Tryz.func163.trans (congrArg some (by kernel_rfl))⟩
  f19 := Tryz.func188.trans (congrArg some (by kernel_rfl))
  f20 := Tryz.func172.trans (congrArg some (by kernel_rfl))
  f21 := ⟨Tryz.f179.name, by decide, Tryz.func179.trans (congrArg some (by kernel_rfl))⟩
  f22 := ⟨Tryz.f180.name, by decide, Tryz.func180.trans (congrArg some (by kernel_rfl))⟩
  f23 := ⟨Tryz.f181.name, by decide, Tryz.func181.trans (congrArg some (by kernel_rfl))⟩
  f24 := ⟨Tryz.f182.name, by decide, Tryz.func182.trans (congrArg some (by kernel_rfl))⟩
  f25 := ⟨Tryz.f183.name, by decide, Tryz.func183.trans (congrArg some (by kernel_rfl))⟩
  f26 := ⟨Tryz.f184.name, by decide, Tryz.func184.trans (congrArg some (by kernel_rfl))⟩
  f27 := ⟨Tryz.f185.name, by decide, Tryz.func185.trans (congrArg some (by kernel_rfl))⟩
  f28 := ⟨Tryz.f186.name, by decide, Tryz.func186.trans (congrArg some (by kernel_rfl))⟩
  f29 := ⟨Tryz.f187.name, by decide, Tryz.func187.trans (congrArg some (by kernel_rfl))⟩
  f31 := Tryz.func193.trans (congrArg some (by kernel_rfl))
  f32 := Tryz.func194.trans (congrArg some (by kernel_rfl))
  f36 := ⟨Tryz.f192.name, by decide, Tryz.func192.trans (congrArg some (by kernel_rfl))⟩
  f37 := ⟨Tryz.f195.name, by decide, Tryz.func195.trans (congrArg some (by kernel_rfl))⟩
  f38 := ⟨Tryz.f196.name, by decide, Tryz.func196.trans (congrArg some (by kernel_rfl))⟩
  f39 := ⟨Tryz.f197.name, by decide, Tryz.func197.trans (congrArg some (by kernel_rfl))⟩
  f41 := ⟨Tryz.f198.name, by decide, Tryz.func198.trans (congrArg some (by kernel_rfl))⟩
  t0 := Tryz.underlying0
  a0 := Tryz.isAgg0
  z0 := Tryz.sizeOf0
  v0 := Tryz.zeroValue0
  t3 := Tryz.underlying3
  a3 := Tryz.isAgg3
  z3 := Tryz.sizeOf3
  v3 := Tryz.zeroValue3
  t4 := Tryz.underlying4
  a4 := Tryz.isAgg4
  z4 := Tryz.sizeOf4
  v4 := Tryz.zeroValue4
  t5 := Tryz.underlying5
  a5 := Tryz.isAgg5
  z5 := Tryz.sizeOf5
  v5 := Tryz.zeroValue5
  t9 := Tryz.underlying9
  a9 := Tryz.isAgg9
  z9 := Tryz.sizeOf9
  v9 := Tryz.zeroValue9
  t26 := Tryz.underlying150
  a26 := Tryz.isAgg150
  z26 := Tryz.sizeOf150
  v26 := Tryz.zeroValue150
  t27 := Tryz.underlying150
  a27 := Tryz.isAgg150
  z27 := Tryz.sizeOf150
  v27 := Tryz.zeroValue150
  t29 := Tryz.underlying9
  a29 := Tryz.isAgg9
  z29 := Tryz.sizeOf9
  v29 := Tryz.zeroValue9
  t32 := Tryz.underlying190
  a32 := Tryz.isAgg190
  z32 := Tryz.sizeOf190
  v32 := Tryz.zeroValue190
  t35 := Tryz.underlying241
  a35 := Tryz.isAgg241
  z35 := Tryz.sizeOf241
  v35 := Tryz.zeroValue241
  t36 := Tryz.underlying242
  a36 := Tryz.isAgg242
  z36 := Tryz.sizeOf242
  v36 := Tryz.zeroValue242
  t41 := Tryz.underlying246
  a41 := Tryz.isAgg246
  z41 := Tryz.sizeOf246
  v41 := Tryz.zeroValue246
  t44 := Tryz.underlying230
  a44 := Tryz.isAgg230
  z44 := Tryz.sizeOf230
  v44 := Tryz.zeroValue230
  t46 := Tryz.underlying94
  a46 := Tryz.isAgg94
  z46 := Tryz.sizeOf94
  v46 := Tryz.zeroValue94
  t53 := Tryz.underlying251
  a53 := Tryz.isAgg251
  z53 := Tryz.sizeOf251
  v53 := Tryz.zeroValue251
  t57 := Tryz.underlying255
  a57 := Tryz.isAgg255
  z57 := Tryz.sizeOf255
  v57 := Tryz.zeroValue255
  t63 := Tryz.underlying259
  a63 := Tryz.isAgg259
  z63 := Tryz.sizeOf259
  v63 := Tryz.zeroValue259
  t64 := Tryz.underlying260
  a64 := Tryz.isAgg260
  z64 := Tryz.sizeOf260
  v64 := Tryz.zeroValue260 }
end Go.Proofs
namespace Go.Proofs
open Go.RowKit Go.Maps Go.Sort Go.Shelf
theorem Tryz.sorts101 (m : Nat) : AnyZ.SortsIn Tryz.prog Tryz.sorted101_ren Fence.wide m :=
  ⟨fun blk off cap ss W hH hblk hsz => callsIn_wide.2 (AnyM.slices_Sort_string Tryz.sort145 blk off cap ss W hH hblk hsz),
   fun p cap W => callsIn_wide.2 (AnyM.slices_Sort_string_none Tryz.sort145 p cap W)⟩

theorem Tryz.maps_Keys_102 (mb : Option Nat) (W : World) : CallsIn Fence.wide 5 Tryz.prog 102 #[.map mb] W fun e w' => e = .returned (.func (.func 146) #[] #[.pointer (some ⟨W.heap.size, 0, none⟩)]) ∧ w' = W.alloc (.cells #[.map mb] 97) :=
  AnyZ.keys_in Tryz.keys102 Fence.wide 5 trivial rfl mb W

set_option maxHeartbeats 1000000 in
theorem Tryz.slices_Sorted_keys_101_102 {H : Type} (b nn : Nat) (D0 : DataW H) (R : Value → Option (DataW H × List MemPlace)) (w : World) (hown : w.ownsMap Tryz.prog 9 R b nn D0) (hmax : Maps.size D0 ≤ maxLen) (hbytes : Maps.size D0 * 16 ≤ 140737488355328) :
    CallsIn Fence.wide 5 Tryz.prog 101 #[.func (.func 146) #[] #[.pointer (some ⟨w.heap.size, 0, none⟩)]] (w.alloc (.cells #[.map (some b)] 97)) fun e w' => ∃ (v : Value) (ss : List (List UInt8)), e = .returned v ∧ ss.Perm (strKeys D0) ∧
      w'.ownsRow (w.alloc (.cells #[.map (some b)] 97)).heap.size 9 1 v ss.length ((ss.mergeSort (fun x y => decide (x ≤ y))).map encStr) ∧ (v = .slice none 0 0 ↔ ss = []) ∧ Below (w.alloc (.cells #[.map (some b)] 97)).heap.size (w.alloc (.cells #[.map (some b)] 97)) w' := by
  have hbl := hown.lt
  have hseq : SeqGives Fence.wide 2 Tryz.prog 146 #[.pointer (some ⟨w.heap.size, 0, none⟩)] encStr (fun ss => ss.Perm (strKeys D0)) (Maps.size D0) (w.alloc (.cells #[.map (some b)] 97)) :=
    AnyZ.keys_gives (ρ := Tryz.keys102_ren) { Tryz.keys102 with } Fence.wide _ trivial rfl (by omega) w.heap.size b nn D0 _ (by simp) (by simp) (by
      obtain ⟨es, clock, hb, Ft, hs, hD⟩ := hown
      exact ⟨es, clock, (Below.heap_alloc _ _ b hbl).trans hb, Ft, hs, hD⟩)
  exact AnyZ.sorted_in Tryz.sorted101 Fence.wide 5 trivial trivial trivial trivial rfl (by omega) (Tryz.sorts101 _) (enters_of Tryz.func145 (by kernel_rfl) rfl) 146 #[.pointer (some ⟨w.heap.size, 0, none⟩)] trivial (enters_of Tryz.func146 (by kernel_rfl) rfl) _ _ hmax hbytes _ hseq

set_option maxHeartbeats 1000000 in
theorem Tryz.slices_Sorted_keys_nil_101_102 (w : World) :
    CallsIn Fence.wide 5 Tryz.prog 101 #[.func (.func 146) #[] #[.pointer (some ⟨w.heap.size, 0, none⟩)]] (w.alloc (.cells #[.map none] 97)) fun e w' => ∃ (v : Value) (ss : List (List UInt8)), e = .returned v ∧ ss = [] ∧
      w'.ownsRow (w.alloc (.cells #[.map none] 97)).heap.size 9 1 v ss.length ((ss.mergeSort (fun x y => decide (x ≤ y))).map encStr) ∧ (v = .slice none 0 0 ↔ ss = []) ∧ Below (w.alloc (.cells #[.map none] 97)).heap.size (w.alloc (.cells #[.map none] 97)) w' := by
  have hseq : SeqGives Fence.wide 2 Tryz.prog 146 #[.pointer (some ⟨w.heap.size, 0, none⟩)] encStr (fun ss : List (List UInt8) => ss = []) 0 (w.alloc (.cells #[.map none] 97)) :=
    AnyZ.keys_gives_nil (ρ := Tryz.keys102_ren) { Tryz.keys102 with } Fence.wide _ trivial rfl w.heap.size _ (by simp) (by simp)
  exact AnyZ.sorted_in Tryz.sorted101 Fence.wide 5 trivial trivial trivial trivial rfl (by omega) (Tryz.sorts101 _) (enters_of Tryz.func145 (by kernel_rfl) rfl) 146 #[.pointer (some ⟨w.heap.size, 0, none⟩)] trivial (enters_of Tryz.func146 (by kernel_rfl) rfl) _ 0 (Nat.zero_le _) (by omega) _ hseq

end Go.Proofs
namespace Go.Proofs.YtpkilegnokajmaaGreatDoor
open Go.RowKit Go.Maps Go.Sort
/-- A map's keys, in their order. -/
def keysOf (D : DataW Unit) : List (List UInt8) := (strKeys D).mergeSort (fun x y => decide (x ≤ y))
theorem le_tr (a b c : List UInt8) (h1 : decide (a ≤ b) = true) (h2 : decide (b ≤ c) = true) : decide (a ≤ c) = true := by
  simp only [decide_eq_true_eq] at *
  exact List.le_trans h1 h2
theorem le_tot (a b : List UInt8) : (decide (a ≤ b) || decide (b ≤ a)) = true := by
  simp only [Bool.or_eq_true, decide_eq_true_eq]
  exact List.le_total a b
theorem sort_perm {l1 l2 : List (List UInt8)} (h : l1.Perm l2) : l1.mergeSort (fun x y => decide (x ≤ y)) = l2.mergeSort (fun x y => decide (x ≤ y)) := by
  refine List.Perm.eq_of_pairwise (le := fun x y => decide (x ≤ y) = true) ?_ (List.pairwise_mergeSort le_tr le_tot l1) (List.pairwise_mergeSort le_tr le_tot l2) ((List.mergeSort_perm _ _).trans (h.trans (List.mergeSort_perm _ _).symm))
  intro a b _ _ h1 h2
  simp only [decide_eq_true_eq] at h1 h2
  exact List.le_antisymm h1 h2
theorem keys_call (b : Nat) (w : World) : Calls Tryz.prog 102 #[.map (some b)] w fun e w' => e = .returned (.func (.func 146) #[] #[.pointer (some ⟨w.heap.size, 0, none⟩)]) ∧ w' = w.alloc (.cells #[.map (some b)] 97) :=
  callsIn_wide.1 (Tryz.maps_Keys_102 (some b) w)
/-- The keys of a map that is not nil, sorted, in a slice of the call's own. -/
theorem sorted_call (b n : Nat) (D : DataW Unit) (w : World) (hm : SM w b n D) (hn : n ≤ 1073741824) :
    Calls Tryz.prog 101 #[.func (.func 146) #[] #[.pointer (some ⟨w.heap.size, 0, none⟩)]] (w.alloc (.cells #[.map (some b)] 97)) fun e w' => ∃ ao c, e = .returned (.slice ao (keysOf D).length c) ∧ (keysOf D).length ≤ c ∧ c ≤ maxLen ∧ Below w.heap.size w w' ∧
      (keysOf D ≠ [] → ∃ g, w.heap.size ≤ g ∧ ao = some ⟨g, 0, none⟩ ∧ ∃ cur fz, w'.heap[g]? = some (.cells cur 9 fz) ∧ ∀ (j : Nat) k, (keysOf D)[j]? = some k → cur[j]? = some (encStr k)) := by
  have hs := World.ownsMap.size_le hm
  refine (callsIn_wide.1 (Tryz.slices_Sorted_keys_101_102 b n D (plainElem Tryz.prog 9) w hm (by unfold maxLen; omega) (by omega))).mono ?_
  rintro e w' ⟨v, ss, rfl, hp, hrow, hnil, hb⟩
  have hk : ss.mergeSort (fun x y => decide (x ≤ y)) = keysOf D := sort_perm hp
  have hl : ss.length = (keysOf D).length := by rw [← hk, List.length_mergeSort]
  rw [hk, hl] at hrow
  have hb2 : Below w.heap.size w w' := ((Below.refl _ w).alloc (Nat.le_refl _) _).trans (hb.mono (by simp))
  obtain ⟨h1, h2⟩ := hrow
  rcases h2 with ⟨rfl, h0⟩ | ⟨g, cap, cur, rfl, hg, hgb, hc, hcm, _, ht⟩
  · refine ⟨none, 0, by rw [h0], by omega, by unfold maxLen; omega, hb2, fun hne => absurd (List.eq_nil_of_length_eq_zero h0) hne⟩
  · refine ⟨_, cap, rfl, hc, hcm, hb2, fun _ => ⟨g, ?_, rfl, cur, _, hgb, fun j k hj => ?_⟩⟩
    · have : (w.alloc (.cells #[.map (some b)] 97)).heap.size = w.heap.size + 1 := by simp
      omega
    · have h3 : ((keysOf D).map encStr)[j]? = some (encStr k) := by rw [List.getElem?_map, hj]; rfl
      rw [← ht] at h3
      rw [List.getElem?_take] at h3
      split at h3
      · simpa using h3
      · cases h3
end Go.Proofs.YtpkilegnokajmaaGreatDoor
