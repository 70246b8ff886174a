/- headerEqual, a header held against one that has its records alone. -/
import Derived.Test.YtpkilegnokajmaaGreatDoorA00
set_option linter.unusedVariables false
set_option linter.unusedSimpArgs false
set_option linter.unnecessarySimpa false
set_option linter.unusedSectionVars false
namespace Go.Proofs.YtpkilegnokajmaaGreatDoor
open Go.RowKit
/-- Nothing but the records (of a header for all files). -/
def hdPlain (h : Hd) : Bool := h.link.toList.isEmpty && (h.size == 0) && (h.mode == 0) && (h.uid == 0) && (h.gid == 0) && h.uname.toList.isEmpty && h.gname.toList.isEmpty &&
  isZ h.mn h.mx && isZ h.an h.ax && isZ h.cn h.cx && (h.maj == 0) && (h.min == 0)
def gHd (H : Hd) : Hd := ⟨H.tf, H.name, ⟨#[]⟩, 0, 0, 0, 0, ⟨#[]⟩, ⟨#[]⟩, 0, 0, 0, 0, 0, 0, 0, 0, H.xat, H.recs, H.fmt⟩
theorem te0 (w : World) : (binOp .eql 96 (.agg #[.int .u64 ((0 : Nat) : Int), .int .i64 0]) (.agg #[.int .u64 0, .int .i64 0])).run Tryz.prog w = .ok (.bool true) w := by kernel_rfl
theorem te1 (k : Nat) (w : World) : (binOp .eql 96 (.agg #[.int .u64 ((0 : Nat) : Int), .int .i64 (Int.ofNat (k + 1))]) (.agg #[.int .u64 0, .int .i64 0])).run Tryz.prog w = .ok (.bool false) w := by kernel_rfl
theorem te2 (k : Nat) (w : World) : (binOp .eql 96 (.agg #[.int .u64 ((0 : Nat) : Int), .int .i64 (Int.negSucc k)]) (.agg #[.int .u64 0, .int .i64 0])).run Tryz.prog w = .ok (.bool false) w := by kernel_rfl
theorem te3 (k : Nat) (x : Int) (w : World) : (binOp .eql 96 (.agg #[.int .u64 ((k + 1 : Nat) : Int), .int .i64 x]) (.agg #[.int .u64 0, .int .i64 0])).run Tryz.prog w = .ok (.bool false) w := by kernel_rfl
theorem time_eq (n : Nat) (x : Int) (w : World) : (binOp .eql 96 (.agg #[.int .u64 n, .int .i64 x]) (.agg #[.int .u64 0, .int .i64 0])).run Tryz.prog w = .ok (.bool (isZ n x)) w := by
  cases n with
  | zero =>
    cases x with
    | ofNat k =>
      cases k with
      | zero => exact te0 w
      | succ k =>
        have e : isZ 0 (Int.ofNat (k + 1)) = false := by unfold isZ; simp; omega
        rw [e]; exact te1 k w
    | negSucc k =>
      have e : isZ 0 (Int.negSucc k) = false := by unfold isZ; simp
      rw [e]; exact te2 k w
  | succ k =>
    have e : isZ (k + 1) x = false := by unfold isZ; simp
    rw [e]; exact te3 k x w
set_option maxRecDepth 100000 in
set_option maxHeartbeats 4000000 in
theorem hdrEq_0 (H : Hd) (w : World)  (h0 : H.link.toList.isEmpty = false) : Calls Tryz.prog 89 #[.agg H.cells.toArray, .agg (gHd H).cells.toArray] w fun e w' => e = .returned (.bool false) ∧ Below w.heap.size w w' := by
  have te := time_eq
  unfold gHd Hd.cells
  go_enter Tryz.func89, Tryz.ntmps89
  go_wp2
  go_ret
  exact ⟨rfl, ((Below.refl _ _).alloc (Nat.le_refl _) _).alloc (by simp) _⟩
set_option maxRecDepth 100000 in
set_option maxHeartbeats 4000000 in
theorem hdrEq_1 (H : Hd) (w : World) (h0 : H.link.toList.isEmpty = true) (h1 : (H.size == 0) = false) : Calls Tryz.prog 89 #[.agg H.cells.toArray, .agg (gHd H).cells.toArray] w fun e w' => e = .returned (.bool false) ∧ Below w.heap.size w w' := by
  have te := time_eq
  unfold gHd Hd.cells
  go_enter Tryz.func89, Tryz.ntmps89
  go_wp2
  go_ret
  exact ⟨rfl, ((Below.refl _ _).alloc (Nat.le_refl _) _).alloc (by simp) _⟩
set_option maxRecDepth 100000 in
set_option maxHeartbeats 4000000 in
theorem hdrEq_2 (H : Hd) (w : World) (h0 : H.link.toList.isEmpty = true) (h1 : (H.size == 0) = true) (h2 : (H.mode == 0) = false) : Calls Tryz.prog 89 #[.agg H.cells.toArray, .agg (gHd H).cells.toArray] w fun e w' => e = .returned (.bool false) ∧ Below w.heap.size w w' := by
  have te := time_eq
  unfold gHd Hd.cells
  go_enter Tryz.func89, Tryz.ntmps89
  go_wp2
  go_ret
  exact ⟨rfl, ((Below.refl _ _).alloc (Nat.le_refl _) _).alloc (by simp) _⟩
set_option maxRecDepth 100000 in
set_option maxHeartbeats 4000000 in
theorem hdrEq_3 (H : Hd) (w : World) (h0 : H.link.toList.isEmpty = true) (h1 : (H.size == 0) = true) (h2 : (H.mode == 0) = true) (h3 : (H.uid == 0) = false) : Calls Tryz.prog 89 #[.agg H.cells.toArray, .agg (gHd H).cells.toArray] w fun e w' => e = .returned (.bool false) ∧ Below w.heap.size w w' := by
  have te := time_eq
  unfold gHd Hd.cells
  go_enter Tryz.func89, Tryz.ntmps89
  go_wp2
  go_ret
  exact ⟨rfl, ((Below.refl _ _).alloc (Nat.le_refl _) _).alloc (by simp) _⟩
set_option maxRecDepth 100000 in
set_option maxHeartbeats 4000000 in
theorem hdrEq_4 (H : Hd) (w : World) (h0 : H.link.toList.isEmpty = true) (h1 : (H.size == 0) = true) (h2 : (H.mode == 0) = true) (h3 : (H.uid == 0) = true) (h4 : (H.gid == 0) = false) : Calls Tryz.prog 89 #[.agg H.cells.toArray, .agg (gHd H).cells.toArray] w fun e w' => e = .returned (.bool false) ∧ Below w.heap.size w w' := by
  have te := time_eq
  unfold gHd Hd.cells
  go_enter Tryz.func89, Tryz.ntmps89
  go_wp2
  go_ret
  exact ⟨rfl, ((Below.refl _ _).alloc (Nat.le_refl _) _).alloc (by simp) _⟩
set_option maxRecDepth 100000 in
set_option maxHeartbeats 4000000 in
theorem hdrEq_5 (H : Hd) (w : World) (h0 : H.link.toList.isEmpty = true) (h1 : (H.size == 0) = true) (h2 : (H.mode == 0) = true) (h3 : (H.uid == 0) = true) (h4 : (H.gid == 0) = true) (h5 : H.uname.toList.isEmpty = false) : Calls Tryz.prog 89 #[.agg H.cells.toArray, .agg (gHd H).cells.toArray] w fun e w' => e = .returned (.bool false) ∧ Below w.heap.size w w' := by
  have te := time_eq
  unfold gHd Hd.cells
  go_enter Tryz.func89, Tryz.ntmps89
  go_wp2
  go_ret
  exact ⟨rfl, ((Below.refl _ _).alloc (Nat.le_refl _) _).alloc (by simp) _⟩
set_option maxRecDepth 100000 in
set_option maxHeartbeats 4000000 in
theorem hdrEq_6 (H : Hd) (w : World) (h0 : H.link.toList.isEmpty = true) (h1 : (H.size == 0) = true) (h2 : (H.mode == 0) = true) (h3 : (H.uid == 0) = true) (h4 : (H.gid == 0) = true) (h5 : H.uname.toList.isEmpty = true) (h6 : H.gname.toList.isEmpty = false) : Calls Tryz.prog 89 #[.agg H.cells.toArray, .agg (gHd H).cells.toArray] w fun e w' => e = .returned (.bool false) ∧ Below w.heap.size w w' := by
  have te := time_eq
  unfold gHd Hd.cells
  go_enter Tryz.func89, Tryz.ntmps89
  go_wp2
  go_ret
  exact ⟨rfl, ((Below.refl _ _).alloc (Nat.le_refl _) _).alloc (by simp) _⟩
set_option maxRecDepth 100000 in
set_option maxHeartbeats 4000000 in
theorem hdrEq_7 (H : Hd) (w : World) (h0 : H.link.toList.isEmpty = true) (h1 : (H.size == 0) = true) (h2 : (H.mode == 0) = true) (h3 : (H.uid == 0) = true) (h4 : (H.gid == 0) = true) (h5 : H.uname.toList.isEmpty = true) (h6 : H.gname.toList.isEmpty = true) (h7 : isZ H.mn H.mx = false) : Calls Tryz.prog 89 #[.agg H.cells.toArray, .agg (gHd H).cells.toArray] w fun e w' => e = .returned (.bool false) ∧ Below w.heap.size w w' := by
  have te := time_eq
  unfold gHd Hd.cells
  go_enter Tryz.func89, Tryz.ntmps89
  go_wp2
  go_ret
  exact ⟨rfl, ((Below.refl _ _).alloc (Nat.le_refl _) _).alloc (by simp) _⟩
set_option maxRecDepth 100000 in
set_option maxHeartbeats 4000000 in
theorem hdrEq_8 (H : Hd) (w : World) (h0 : H.link.toList.isEmpty = true) (h1 : (H.size == 0) = true) (h2 : (H.mode == 0) = true) (h3 : (H.uid == 0) = true) (h4 : (H.gid == 0) = true) (h5 : H.uname.toList.isEmpty = true) (h6 : H.gname.toList.isEmpty = true) (h7 : isZ H.mn H.mx = true) (h8 : isZ H.an H.ax = false) : Calls Tryz.prog 89 #[.agg H.cells.toArray, .agg (gHd H).cells.toArray] w fun e w' => e = .returned (.bool false) ∧ Below w.heap.size w w' := by
  have te := time_eq
  unfold gHd Hd.cells
  go_enter Tryz.func89, Tryz.ntmps89
  go_wp2
  go_ret
  exact ⟨rfl, ((Below.refl _ _).alloc (Nat.le_refl _) _).alloc (by simp) _⟩
set_option maxRecDepth 100000 in
set_option maxHeartbeats 4000000 in
theorem hdrEq_9 (H : Hd) (w : World) (h0 : H.link.toList.isEmpty = true) (h1 : (H.size == 0) = true) (h2 : (H.mode == 0) = true) (h3 : (H.uid == 0) = true) (h4 : (H.gid == 0) = true) (h5 : H.uname.toList.isEmpty = true) (h6 : H.gname.toList.isEmpty = true) (h7 : isZ H.mn H.mx = true) (h8 : isZ H.an H.ax = true) (h9 : isZ H.cn H.cx = false) : Calls Tryz.prog 89 #[.agg H.cells.toArray, .agg (gHd H).cells.toArray] w fun e w' => e = .returned (.bool false) ∧ Below w.heap.size w w' := by
  have te := time_eq
  unfold gHd Hd.cells
  go_enter Tryz.func89, Tryz.ntmps89
  go_wp2
  go_ret
  exact ⟨rfl, ((Below.refl _ _).alloc (Nat.le_refl _) _).alloc (by simp) _⟩
set_option maxRecDepth 100000 in
set_option maxHeartbeats 4000000 in
theorem hdrEq_10 (H : Hd) (w : World) (h0 : H.link.toList.isEmpty = true) (h1 : (H.size == 0) = true) (h2 : (H.mode == 0) = true) (h3 : (H.uid == 0) = true) (h4 : (H.gid == 0) = true) (h5 : H.uname.toList.isEmpty = true) (h6 : H.gname.toList.isEmpty = true) (h7 : isZ H.mn H.mx = true) (h8 : isZ H.an H.ax = true) (h9 : isZ H.cn H.cx = true) (h10 : (H.maj == 0) = false) : Calls Tryz.prog 89 #[.agg H.cells.toArray, .agg (gHd H).cells.toArray] w fun e w' => e = .returned (.bool false) ∧ Below w.heap.size w w' := by
  have te := time_eq
  unfold gHd Hd.cells
  go_enter Tryz.func89, Tryz.ntmps89
  go_wp2
  go_ret
  exact ⟨rfl, ((Below.refl _ _).alloc (Nat.le_refl _) _).alloc (by simp) _⟩
set_option maxRecDepth 100000 in
set_option maxHeartbeats 4000000 in
theorem hdrEq_11 (H : Hd) (w : World) (h0 : H.link.toList.isEmpty = true) (h1 : (H.size == 0) = true) (h2 : (H.mode == 0) = true) (h3 : (H.uid == 0) = true) (h4 : (H.gid == 0) = true) (h5 : H.uname.toList.isEmpty = true) (h6 : H.gname.toList.isEmpty = true) (h7 : isZ H.mn H.mx = true) (h8 : isZ H.an H.ax = true) (h9 : isZ H.cn H.cx = true) (h10 : (H.maj == 0) = true) (h11 : (H.min == 0) = false) : Calls Tryz.prog 89 #[.agg H.cells.toArray, .agg (gHd H).cells.toArray] w fun e w' => e = .returned (.bool false) ∧ Below w.heap.size w w' := by
  have te := time_eq
  unfold gHd Hd.cells
  go_enter Tryz.func89, Tryz.ntmps89
  go_wp2
  go_ret
  exact ⟨rfl, ((Below.refl _ _).alloc (Nat.le_refl _) _).alloc (by simp) _⟩
set_option maxRecDepth 100000 in
set_option maxHeartbeats 4000000 in
theorem hdrEq_12 (H : Hd) (w : World) (h0 : H.link.toList.isEmpty = true) (h1 : (H.size == 0) = true) (h2 : (H.mode == 0) = true) (h3 : (H.uid == 0) = true) (h4 : (H.gid == 0) = true) (h5 : H.uname.toList.isEmpty = true) (h6 : H.gname.toList.isEmpty = true) (h7 : isZ H.mn H.mx = true) (h8 : isZ H.an H.ax = true) (h9 : isZ H.cn H.cx = true) (h10 : (H.maj == 0) = true) (h11 : (H.min == 0) = true) : Calls Tryz.prog 89 #[.agg H.cells.toArray, .agg (gHd H).cells.toArray] w fun e w' => e = .returned (.bool true) ∧ Below w.heap.size w w' := by
  have te := time_eq
  unfold gHd Hd.cells
  go_enter Tryz.func89, Tryz.ntmps89
  go_wp2
  go_ret
  exact ⟨rfl, ((Below.refl _ _).alloc (Nat.le_refl _) _).alloc (by simp) _⟩
end Go.Proofs.YtpkilegnokajmaaGreatDoor
