/- Words: a run of cells in the middle of a block, read and written whole. -/
import Derived.Test.YtpkilegnokajmaaGreatDoorA00
import Derived.Deep.MidRow
set_option linter.unusedVariables false
set_option linter.unusedSimpArgs false
set_option linter.unnecessarySimpa false
set_option linter.unusedSectionVars false
namespace Go.Proofs.YtpkilegnokajmaaGreatDoor
open Go.RowKit
variable {P : Program}

theorem splice_eq (A X Q Y : List Value) (h : Y.length = X.length) : (A ++ X ++ Q).take A.length ++ Y ++ (A ++ X ++ Q).drop (A.length + Y.length) = A ++ Y ++ Q := by
  rw [List.append_assoc A X Q, List.take_left' rfl, List.drop_append, List.drop_of_length_le (by omega), Nat.add_sub_cancel_left, List.drop_append, h, List.drop_length, Nat.sub_self]
  simp
theorem get_mid (A X Q : List Value) (j : Nat) (hj : j < X.length) : (A ++ X ++ Q)[A.length + j]? = X[j]? := by
  rw [List.append_assoc, List.getElem?_append_right (by omega), Nat.add_sub_cancel_left, List.getElem?_append_left hj]
theorem set_mid (A X Q : List Value) (j : Nat) (v : Value) (hj : j < X.length) : (A ++ X ++ Q).set (A.length + j) v = A ++ X.set j v ++ Q := by
  rw [List.append_assoc, List.set_append_right _ _ (by omega), Nat.add_sub_cancel_left, List.set_append_left _ _ hj, List.append_assoc]
theorem range_of_blk {w : World} {b o : Nat} {A X Q : List Value} {T : TypeId} {fr : Nat × Nat} (hb : w.heap[b]? = some (.cells (A ++ X ++ Q).toArray T fr)) (ho : A.length = o) : w.rangeAt b o X := by
  intro j v hj
  subst ho
  refine cell_blk hb ?_
  rw [get_mid A X Q j (List.getElem?_eq_some_iff.1 hj).1]
  exact hj
theorem run_storeMid (w : World) (b o : Nat) (ty : TypeId) (A X Q Y : List Value) (T : TypeId) (hb : w.heap[b]? = some (.cells (A ++ X ++ Q).toArray T (0, 0))) (ho : A.length = o) (hl : Y.length = X.length)
    (hi : (P.info? ty).map (·.size) = some Y.length) (h1 : ∀ v ∈ Y, v.oneCell' = true) :
    ∃ w', (storeVar ty ⟨b, o, none⟩ (.agg Y.toArray)).run P w = .ok () w' ∧ w'.heap[b]? = some (.cells (A ++ Y ++ Q).toArray T (0, 0)) ∧ Kp (fun k => k = b) w w' := by
  subst ho
  have hst := run_storeCells_at P b A.length T Y 0 (A ++ X ++ Q).toArray w hb (by simp; omega) h1
  rw [List.toList_toArray, Nat.add_zero, splice_eq A X Q Y hl] at hst
  refine ⟨w.setRow b (A ++ Y ++ Q).toArray, ?_, setRow_heap w b _ _ T _ hb, ⟨rfl, rfl, rfl, by simp [World.setRow], fun k _ hk => by simp [World.setRow, Array.getElem?_modify]; omega⟩⟩
  cases hq : P.info? ty with
  | none => simp [hq] at hi
  | some i =>
    have hs : Y.length = i.size := by simp [hq] at hi; omega
    simp [storeVar, sizeOf, typeInfo, hq, Value.cells, hs, hst]
theorem wpList_storeMid {ops : Array Oper} {rest : List Oper} {op : Oper} {a : Act} {w : World} {Q' : Exit → Act → World → Prop} (hgd : op.guard = none) (ty : TypeId) (x y : Operand) (hop : op.op = .store ty x y)
    (b o : Nat) (A X Q Y : List Value) (T : TypeId) (hx : a.eval x = .pointer (some ⟨b, o, none⟩)) (hy : a.eval y = .agg Y.toArray)
    (hb : w.heap[b]? = some (.cells (A ++ X ++ Q).toArray T (0, 0))) (ho : A.length = o) (hl : Y.length = X.length)
    (hi : (P.info? ty).map (·.size) = some Y.length) (h1 : ∀ v ∈ Y, v.oneCell' = true)
    (h : ∀ w', w'.heap[b]? = some (.cells (A ++ Y ++ Q).toArray T (0, 0)) → Kp (fun k => k = b) w w' → wpList P ops Q' rest (a.put op.dst undef) w') : wpList P ops Q' (op :: rest) a w :=
  wpList_plain hgd fun _ hK => by
    obtain ⟨w', hr, h2, h3⟩ := run_storeMid w b o ty A X Q Y T hb ho hl hi h1
    unfold Oper.wp execOp
    simp only [hop, hx, hy, Instr.storeAt, Instr.sureAddr, Sem.run_bind, Sem.run_pure, Result.andThen_ok, hr]
    exact hK _ _ (h w' h2 h3)
end Go.Proofs.YtpkilegnokajmaaGreatDoor
