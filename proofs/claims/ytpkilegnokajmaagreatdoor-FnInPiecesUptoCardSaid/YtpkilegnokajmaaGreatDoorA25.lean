/- The specification's header in memory; promoted. The specification's Strange. The specification's Can: what is known of its verdict. The specification's Can: its statements 9 and 10. The specification's Can: its statements 11 to 15. The specification's Can: its loop and its end. -/
import Derived.Test.YtpkilegnokajmaaGreatDoorA24
import Derived.Deep.DeepCutAuto
import Derived.Deep.RegionHeld3
import Derived.Deep.MidRow
import Derived.Laws.Tables
import Derived.Laws.CopyOwn
import Derived.Deep.CutBlock
import Derived.StillTailTactics
set_option linter.unusedVariables false
set_option linter.unusedSimpArgs false
set_option linter.unnecessarySimpa false
set_option linter.unusedSectionVars false
namespace Go.Proofs.YtpkilegnokajmaaGreatDoor
open Go.RowKit
section
variable {P : Program} {ops : Array Oper} {Q : Exit → Act → World → Prop} {md : Region.Mode} {S : World → Prop} {i : Nat} {oi : Oper} {r : List Oper} {v : Value} {fuel : Nat} {listed : Array Bool} {a : Act} {w : World}
/-- An operation taken first, off the region's list. -/
theorem takeV (hi : ops.toList.drop i = oi :: r) (hb : (Region.noSelect ops && (Region.free md ops listed i && (Region.ready md ops listed).contains i)) = true)
    (hQ : ∀ c a w, Q (.panic c) (a.put oi.dst v) w → Q (.panic c) a w) (hw : Region.wanted oi (yielded ops a.tmps) = true) (hv : ∀ w, S w → (execOp a.eval oi).run P w = .ok (.value v) w) (hS : S w)
    (h : wpAnyH P md ops Q S fuel (listed.setIfInBounds i true) (a.put oi.dst v) w) : wpAnyH P md ops Q S (fuel + 1) listed a w := by
  simp only [Bool.and_eq_true] at hb
  refine wpAnyH_take (i := i) (oi := oi) ?_ hb.1 hb.2.1 hb.2.2 hQ (.inl ⟨hw, hv⟩) hS h
  have e : (ops.toList.drop i)[0]? = some oi := by rw [hi]; rfl
  rw [List.getElem?_drop] at e
  simpa using e
theorem takeU (hi : ops.toList.drop i = oi :: r) (hb : (Region.noSelect ops && (Region.free md ops listed i && (Region.ready md ops listed).contains i)) = true)
    (hQ : ∀ c a w, Q (.panic c) (a.put oi.dst undef) w → Q (.panic c) a w) (hw : Region.wanted oi (yielded ops a.tmps) = false) (hS : S w)
    (h : wpAnyH P md ops Q S fuel (listed.setIfInBounds i true) (a.put oi.dst undef) w) : wpAnyH P md ops Q S (fuel + 1) listed a w := by
  simp only [Bool.and_eq_true] at hb
  refine wpAnyH_take (i := i) (oi := oi) ?_ hb.1 hb.2.1 hb.2.2 hQ (.inr ⟨hw, rfl⟩) hS h
  have e : (ops.toList.drop i)[0]? = some oi := by rw [hi]; rfl
  rw [List.getElem?_drop] at e
  simpa using e
end
/-- A header of the specification. -/
structure SpH where
  tf : UInt8
  name : ByteArray
  link : ByteArray
  size : Int
  mode : Int
  uid : Int
  gid : Int
  uname : ByteArray
  gname : ByteArray
  ms : Int
  mn : Int
  ha : Bool
  hc : Bool
  acs : Int
  acn : Int
  cs : Int
  cn : Int
  maj : Int
  min : Int
  ra : Option Addr
  rn : Nat
  rc : Nat
  fmt : Int
def SpH.cells (h : SpH) : List Value := [.int .u8 h.tf.toNat, .string h.name, .string h.link, .int .i64 h.size, .int .i64 h.mode, .int .i64 h.uid, .int .i64 h.gid, .string h.uname, .string h.gname, .int .i64 h.ms, .int .i64 h.mn, .bool h.ha, .bool h.hc, .int .i64 h.acs, .int .i64 h.acn, .int .i64 h.cs, .int .i64 h.cn, .int .i64 h.maj, .int .i64 h.min, .slice h.ra h.rn h.rc, .int .i64 h.fmt]
theorem SpH.len (h : SpH) : h.cells.length = 21 := rfl
/-- A file of no type is a directory or a regular file. -/
def SpH.prom (h : SpH) : SpH := if h.tf = 0 then { h with tf := if slB h.name then 53 else 48 } else h
/-- Records in memory. -/
def RecS (w : World) (ra : Option Addr) (rn : Nat) (rs : List (ByteArray × ByteArray)) : Prop :=
  rs.length = rn ∧ (rs = [] ∨ ∃ g C T fr, ra = some ⟨g, 0, none⟩ ∧ w.heap[g]? = some (.cells C T fr) ∧ ∀ (j : Nat) kv, rs[j]? = some kv → C[2 * j]? = some (.string kv.1) ∧ C[2 * j + 1]? = some (.string kv.2))
theorem RecS.below {w w' : World} {ra : Option Addr} {rn : Nat} {rs : List (ByteArray × ByteArray)} (h : RecS w ra rn rs) (hb : Below w.heap.size w w') : RecS w' ra rn rs := by
  obtain ⟨h1, h2 | ⟨g, C, T, fr, h2, h3, h4⟩⟩ := h
  · exact ⟨h1, .inl h2⟩
  · exact ⟨h1, .inr ⟨g, C, T, fr, h2, blk_below h3 hb, h4⟩⟩
theorem SpH.one (h : SpH) : ∀ v ∈ h.cells, v.oneCell' = true := by
  intro v hv
  unfold SpH.cells at hv
  simp only [List.mem_cons, List.not_mem_nil, or_false] at hv
  rcases hv with rfl | rfl | rfl | rfl | rfl | rfl | rfl | rfl | rfl | rfl | rfl | rfl | rfl | rfl | rfl | rfl | rfl | rfl | rfl | rfl | rfl <;> rfl
theorem SpH.oneA (h : SpH) : h.cells.toArray.all (·.oneCell') = true := all_oneCell_toArray h.one
theorem info40 : (Tryz.prog.info? 40).map (·.size) = some 21 := by kernel_rfl
theorem alloc2 (w : World) (a b : Obj) (N : Nat) (hN : w.heap.size = N) : ((w.alloc a).alloc b).heap[N]? = some a ∧ ((w.alloc a).alloc b).heap[N + 1]? = some b ∧ Below w.heap.size w ((w.alloc a).alloc b) := by
  subst hN
  have hb : Below w.heap.size w (w.alloc a) := (Below.refl _ _).alloc (Nat.le_refl _) _
  refine ⟨?_, ?_, hb.alloc hb.size _⟩
  · exact blk_below (heap_alloc_new w a) ((Below.refl _ _).alloc (Nat.le_refl _) _)
  · have := heap_alloc_new (w.alloc a) b
    rw [show (w.alloc a).heap.size = w.heap.size + 1 by simp] at this
    exact this
def z40 : Array Value := #[.int .u8 0, .string ⟨#[]⟩, .string ⟨#[]⟩, .int .i64 0, .int .i64 0, .int .i64 0, .int .i64 0, .string ⟨#[]⟩, .string ⟨#[]⟩, .int .i64 0, .int .i64 0, .bool false, .bool false, .int .i64 0, .int .i64 0, .int .i64 0, .int .i64 0, .int .i64 0, .int .i64 0, .slice none 0 0, .int .i64 0]
theorem zero40 : z40.size = 21 := rfl
set_option maxRecDepth 100000 in
set_option maxHeartbeats 1000000 in
theorem promoted_any (h : SpH) (w : World) (hn : h.name.size ≤ 140737488351232) : Calls Tryz.prog 27 #[.agg h.cells.toArray] w fun e w' => e = .returned (.agg h.prom.cells.toArray) ∧ Below w.heap.size w w' := by
  have hsl := Asd.mk (fun W => sSlashed_any h.name W hn)
  obtain ⟨C, hC⟩ : ∃ C, Asd (C = h.cells) := ⟨_, ⟨rfl⟩⟩
  obtain ⟨C2, hC2⟩ : ∃ C, Asd (C = h.prom.cells) := ⟨_, ⟨rfl⟩⟩
  obtain ⟨N, hN⟩ : ∃ N, Asd (w.heap.size = N) := ⟨_, ⟨rfl⟩⟩
  have lC : Asd (C.length = 21) := ⟨by rw [hC.out]; rfl⟩
  have lC2 : Asd (C2.length = 21) := ⟨by rw [hC2.out]; rfl⟩
  have oC2 : Asd (C2.toArray.all (·.oneCell') = true) := ⟨by rw [hC2.out]; exact h.prom.oneA⟩
  rw [← hC.out, ← hC2.out]
  go_enter Tryz.func27, Tryz.ntmps27
  go_upto_region 1 with fail
  obtain ⟨W, hW⟩ : ∃ W, Asd (W = (w.alloc (.cells C.toArray 40 (0, 0))).alloc (.cells #[.int .u8 0, .string ⟨#[]⟩, .string ⟨#[]⟩, .int .i64 0, .int .i64 0, .int .i64 0, .int .i64 0, .string ⟨#[]⟩, .string ⟨#[]⟩, .int .i64 0, .int .i64 0, .bool false, .bool false, .int .i64 0, .int .i64 0, .int .i64 0, .int .i64 0, .int .i64 0, .int .i64 0, .slice none 0 0, .int .i64 0] 40 (0, 0))) := ⟨_, ⟨rfl⟩⟩
  obtain ⟨b0, b1, hb⟩ := alloc2 w (.cells C.toArray 40 (0, 0)) (.cells z40 40 (0, 0)) N hN.out
  have hW' : W = (w.alloc (.cells C.toArray 40 (0, 0))).alloc (.cells z40 40 (0, 0)) := hW.out
  rw [← hW'] at b0 b1 hb
  rw [← hW.out, hN.out]
  clear hW hW'
  have c0 : W.cell? ⟨N, 0, none⟩ = some (.int .u8 h.tf.toNat) := cell_blk b0 (by rw [hC.out]; rfl)
  have c1 : W.cell? ⟨N, 1, none⟩ = some (.string h.name) := cell_blk b0 (by rw [hC.out]; rfl)
  have fz : ∀ j, W.frozen? ⟨N, j, none⟩ = false := fun j => frozen_blk b0
  replace b0 := Asd.mk b0
  replace b1 := Asd.mk b1
  replace hb := Asd.mk hb
  obtain ⟨z0, hz0⟩ : ∃ z, Asd (((h.tf.toNat : Int) == 0) = z) := ⟨_, ⟨rfl⟩⟩
  have ez := hz0.out
  go_upto_if 5 with fail
  clear ez
  go_cut [] from 6 to 10 (fun wx => wx.heap[N]? = some (.cells C2.toArray 40 (0, 0)) ∧ wx.heap[N + 1]? = some (.cells z40 40 (0, 0)) ∧ Below w.heap.size w wx)
  case first =>
    cases z0
    · have h0 : ¬ h.tf = 0 := by intro e; have := hz0.out; rw [e] at this; cases this
      have e : Asd (C2 = C) := ⟨by rw [hC2.out, hC.out]; unfold SpH.prom; rw [if_neg h0]⟩
      clear h0
      go_wp2_with fail
      go_meet
      case rel => exact ⟨by rw [e.out]; exact b0.out, b1.out, hb.out⟩
    · have h0 : h.tf = 0 := by apply UInt8.toNat_inj.1; have := hz0.out; simp only [beq_iff_eq] at this; show h.tf.toNat = 0; omega
      rcases (Bool.eq_false_or_eq_true (slB h.name)).symm with hk | hk
      · have e : Asd (C2 = C.set 0 (.int .u8 48)) := ⟨by rw [hC2.out, hC.out]; unfold SpH.prom; rw [if_pos h0, hk]; rfl⟩
        rw [hk] at hsl
        clear h0 hk
        go_wp2_with (go_at_call 44; refine (hsl.out _).mono ?_; rintro e w3 ⟨rfl, rfl⟩)
        go_meet
        case rel => exact ⟨by rw [e.out]; exact set_blk b0.out, by rw [Below.heap_setCell _ _ _ _ (by show N + 1 ≠ N; omega)]; exact b1.out, hb.out.setCell (p := ⟨N, 0, none⟩) (by show w.heap.size ≤ N; rw [hN.out]; exact Nat.le_refl _) _⟩
      · have e : Asd (C2 = (C.set 0 (.int .u8 48)).set 0 (.int .u8 53)) := ⟨by rw [hC2.out, hC.out]; unfold SpH.prom; rw [if_pos h0, hk]; rfl⟩
        rw [hk] at hsl
        clear h0 hk
        go_wp2_with (go_at_call 44; refine (hsl.out _).mono ?_; rintro e w3 ⟨rfl, rfl⟩)
        go_meet
        case rel => exact ⟨by rw [e.out]; exact set_blk (set_blk b0.out), by rw [Below.heap_setCell _ _ _ _ (by show N + 1 ≠ N; omega), Below.heap_setCell _ _ _ _ (by show N + 1 ≠ N; omega)]; exact b1.out, (hb.out.setCell (p := ⟨N, 0, none⟩) (by show w.heap.size ≤ N; rw [hN.out]; exact Nat.le_refl _) _).setCell (p := ⟨N, 0, none⟩) (by show w.heap.size ≤ N; rw [hN.out]; exact Nat.le_refl _) _⟩
  case rest =>
  obtain ⟨d0, d1, hb2⟩ := hcut
  replace hb2 := Asd.mk hb2
  clear c0 c1 fz b0 b1 hb
  go_wp2_with (first
    | (refine wpList_load_row rfl 40 (.tmp 1) rfl N rfl 40 C2.toArray (0, 0) _ d0 Tryz.underlying40 rfl (by rw [info40, List.size_toArray, lC2.out]) ?_)
    | (refine wpList_store_row rfl 40 (.tmp 2) (.tmp 11) rfl (N + 1) C2.toArray rfl rfl 40 _ d1 (by rw [info40, List.size_toArray, lC2.out]) (by rw [zero40, List.size_toArray, lC2.out]) oC2.out ?_))
  refine bodyPost_ret (results_cell_row rfl _ _ (N + 1) 40 C2.toArray (0, 0) _ rfl (setRow_heap _ _ _ _ _ _ d1) Tryz.underlying40 rfl (by rw [info40, List.size_toArray, lC2.out])) rfl ?_
  exact ⟨rfl, below_setRow hb2.out (by rw [hN.out]; omega) _⟩
/-- How long the records are, each counted with 24 more. -/
def totR (rs : List (ByteArray × ByteArray)) : Nat := (rs.map fun kv => kv.1.size + kv.2.size + 24).sum
def totH (h : SpH) (rs : List (ByteArray × ByteArray)) : Nat := h.name.size + h.link.size + h.uname.size + h.gname.size + totR rs
def strB (h : SpH) (rs : List (ByteArray × ByteArray)) : Bool := decide (524288 < totH h rs) || decide (h.fmt < 0) || decide (3 < h.fmt) || oddB h.ms h.mn || (h.ha && oddB h.acs h.acn) || (h.hc && oddB h.cs h.cn)
theorem totR_take (rs : List (ByteArray × ByteArray)) (k : Nat) (h : k < rs.length) : totR (rs.take (k + 1)) = totR (rs.take k) + (rs[k].1.size + rs[k].2.size + 24) := by
  unfold totR
  rw [List.take_succ_eq_append_getElem h]
  simp only [List.map_append, List.map_cons, List.map_nil, List.sum_append, List.sum_cons, List.sum_nil]
  omega
theorem totR_le (rs : List (ByteArray × ByteArray)) (k : Nat) : totR (rs.take k) ≤ totR rs := by
  conv => rhs; rw [← List.take_append_drop k rs]
  unfold totR
  rw [List.map_append, List.sum_append]
  omega
theorem totR_mem (rs : List (ByteArray × ByteArray)) (k : Nat) (h : k < rs.length) : rs[k].1.size + rs[k].2.size + 24 ≤ totR rs := by
  have h1 := totR_take rs k h
  have h2 := totR_le rs (k + 1)
  omega
theorem totR_len (rs : List (ByteArray × ByteArray)) : 24 * rs.length ≤ totR rs := by
  induction rs with
  | nil => exact Nat.zero_le _
  | cons a t ih => simp only [totR, List.map_cons, List.sum_cons, List.length_cons] at ih ⊢; omega
set_option maxRecDepth 100000 in
set_option maxHeartbeats 2000000 in
theorem strange_any (h : SpH) (rs : List (ByteArray × ByteArray)) (w : World) (hr : RecS w h.ra h.rn rs) (hT : totH h rs ≤ 1099511627776) : Calls Tryz.prog 26 #[.agg h.cells.toArray] w fun e w' => e = .returned (.bool (strB h rs)) ∧ Below w.heap.size w w' := by
  obtain ⟨C, hC⟩ : ∃ C, Asd (C = h.cells) := ⟨_, ⟨rfl⟩⟩
  obtain ⟨N, hN⟩ : ∃ N, Asd (w.heap.size = N) := ⟨_, ⟨rfl⟩⟩
  have hto := Asd.mk (show totH h rs = h.name.size + h.link.size + h.uname.size + h.gname.size + totR rs from rfl)
  have h1 : h.name.size ≤ 1099511627776 := by have := hto.out; omega
  have h2 : h.link.size ≤ 1099511627776 := by have := hto.out; omega
  have h3 : h.uname.size ≤ 1099511627776 := by have := hto.out; omega
  have h4 : h.gname.size ≤ 1099511627776 := by have := hto.out; omega
  have h5 : totR rs ≤ 1099511627776 := by have := hto.out; omega
  have h6 : h.rn ≤ 1099511627776 := by have := totR_len rs; have := hr.1; omega
  rw [← hC.out]
  go_enter Tryz.func26, Tryz.ntmps26
  go_upto_region 1 with fail
  obtain ⟨W, hW⟩ : ∃ W, Asd (W = w.alloc (.cells C.toArray 40 (0, 0))) := ⟨_, ⟨rfl⟩⟩
  have b0 := heap_alloc_new w (.cells C.toArray 40 (0, 0))
  have hb : Below w.heap.size w (w.alloc (.cells C.toArray 40 (0, 0))) := (Below.refl _ _).alloc (Nat.le_refl _) _
  rw [← hW.out] at b0 hb
  rw [hN.out] at b0
  rw [← hW.out, hN.out]
  clear hW
  have c1 : W.cell? ⟨N, 1, none⟩ = some (.string h.name) := cell_blk b0 (by rw [hC.out]; rfl)
  have c2 : W.cell? ⟨N, 2, none⟩ = some (.string h.link) := cell_blk b0 (by rw [hC.out]; rfl)
  have c7 : W.cell? ⟨N, 7, none⟩ = some (.string h.uname) := cell_blk b0 (by rw [hC.out]; rfl)
  have c8 : W.cell? ⟨N, 8, none⟩ = some (.string h.gname) := cell_blk b0 (by rw [hC.out]; rfl)
  have c19 : W.cell? ⟨N, 19, none⟩ = some (.slice h.ra h.rn h.rc) := cell_blk b0 (by rw [hC.out]; rfl)
  have hrW := hr.below hb
  replace b0 := Asd.mk b0
  replace hb := Asd.mk hb
  replace hr := Asd.mk hr
  replace hrW := Asd.mk hrW
  have hlen := Asd.mk hr.out.1
  go_wp2
  go_loopw [3, 24] (fun n i wr => ∃ k : Nat, ∃ X : Nat, k ≤ h.rn ∧ i = .int .i64 k ∧ n = .int .i64 X ∧ X = h.name.size + h.link.size + h.uname.size + h.gname.size + totR (rs.take k) ∧ Below (N + 1) W wr ∧ W.heap.size ≤ wr.heap.size) (fun _ i _ => h.rn - (intOf i).toNat)
  case atStart => exact ⟨0, h.name.size + h.link.size + h.uname.size + h.gname.size, by omega, rfl, by go_num, by simp [totR], Below.refl _ _, Nat.le_refl _⟩
  case round =>
    obtain ⟨k, X, hk, rfl, rfl, hX, hbr, hsz⟩ := hrel
    replace hX := Asd.mk hX
    replace hbr := Asd.mk hbr
    by_cases hlt : k < h.rn
    · have hkl : k < rs.length := by rw [hlen.out]; exact hlt
      have hXk := totR_take rs k hkl
      have hXl := totR_le rs (k + 1)
      obtain ⟨g, R, T, fr, hra, hgb, hcl⟩ : ∃ g R T fr, h.ra = some ⟨g, 0, none⟩ ∧ w.heap[g]? = some (.cells R T fr) ∧ ∀ (j : Nat) kv, rs[j]? = some kv → R[2 * j]? = some (.string kv.1) ∧ R[2 * j + 1]? = some (.string kv.2) := by
        rcases hr.out.2 with h' | h'
        · rw [h'] at hkl; exact absurd hkl (by simp)
        · exact h'
      obtain ⟨e1, e2⟩ := hcl k _ (List.getElem?_eq_getElem hkl)
      have hgr : wr.heap[g]? = some (.cells R T fr) := by
        have hgN : g < N := by rw [← hN.out]; exact blk_lt hgb
        rw [hbr.out.block g (by omega), hb.out.block g (by rw [hN.out]; exact hgN)]
        exact hgb
      have d1 : wr.cell? ⟨g, k * 2, none⟩ = some (.string (rs[k]'hkl).1) := by rw [Nat.mul_comm]; simp [World.cell?, hgr, e1]
      have d2 : wr.cell? ⟨g, k * 2 + 1, none⟩ = some (.string (rs[k]'hkl).2) := by rw [Nat.mul_comm]; simp [World.cell?, hgr, e2]
      generalize hkv : rs[k]'hkl = kv at *
      clear hgr hgb hcl e1 e2
      rw [hra]
      have hB1 : X + (kv.1.size + kv.2.size + 24) ≤ 1099511627776 := by have := hX.out; have := hto.out; omega
      have hk1 : kv.1.size ≤ 1099511627776 := by omega
      have hk2 : kv.2.size ≤ 1099511627776 := by omega
      have hX1 : X ≤ 1099511627776 := by omega
      have HX : Asd (X + (kv.1.size + kv.2.size + 24) = h.name.size + h.link.size + h.uname.size + h.gname.size + totR (rs.take (k + 1))) := ⟨by rw [hXk, hX.out]; omega⟩
      clear hXk hXl hkv
      have hNW : Asd (N + 1 ≤ wr.heap.size) := ⟨by have := blk_lt b0.out; omega⟩
      go_wp2
      go_roundw
      case rel => exact ⟨k + 1, X + (kv.1.size + kv.2.size + 24), by omega, by go_num, by first | rfl | (congr 1; omega) | (congr 1), HX.out, hbr.out.alloc hNW.out _, by show W.heap.size ≤ (wr.heap.push _).size; simp; omega⟩
      case measure => simp [intOf]; omega
    · have hXT : Asd (X = totH h rs) := ⟨by rw [hX.out, hto.out, List.take_of_length_le (by rw [hlen.out]; omega)]⟩
      obtain ⟨za, hza⟩ : ∃ z, Asd (h.ha = z) := ⟨_, ⟨rfl⟩⟩
      obtain ⟨zc, hzc⟩ : ∃ z, Asd (h.hc = z) := ⟨_, ⟨rfl⟩⟩
      have bN : wr.heap[N]? = some (.cells C.toArray 40 (0, 0)) := by rw [hbr.out.block N (by omega)]; exact b0.out
      have hwr : Asd (Below w.heap.size w wr) := ⟨hb.out.trans (hbr.out.mono (by rw [hN.out]; omega))⟩
      have f9 : wr.cell? ⟨N, 9, none⟩ = some (.int .i64 h.ms) := cell_blk bN (by rw [hC.out]; first | rfl | (rw [← hza.out]; rfl) | (rw [← hzc.out]; rfl))
      have f10 : wr.cell? ⟨N, 10, none⟩ = some (.int .i64 h.mn) := cell_blk bN (by rw [hC.out]; first | rfl | (rw [← hza.out]; rfl) | (rw [← hzc.out]; rfl))
      have f11 : wr.cell? ⟨N, 11, none⟩ = some (.bool za) := cell_blk bN (by rw [hC.out]; first | rfl | (rw [← hza.out]; rfl) | (rw [← hzc.out]; rfl))
      have f12 : wr.cell? ⟨N, 12, none⟩ = some (.bool zc) := cell_blk bN (by rw [hC.out]; first | rfl | (rw [← hza.out]; rfl) | (rw [← hzc.out]; rfl))
      have f13 : wr.cell? ⟨N, 13, none⟩ = some (.int .i64 h.acs) := cell_blk bN (by rw [hC.out]; first | rfl | (rw [← hza.out]; rfl) | (rw [← hzc.out]; rfl))
      have f14 : wr.cell? ⟨N, 14, none⟩ = some (.int .i64 h.acn) := cell_blk bN (by rw [hC.out]; first | rfl | (rw [← hza.out]; rfl) | (rw [← hzc.out]; rfl))
      have f15 : wr.cell? ⟨N, 15, none⟩ = some (.int .i64 h.cs) := cell_blk bN (by rw [hC.out]; first | rfl | (rw [← hza.out]; rfl) | (rw [← hzc.out]; rfl))
      have f16 : wr.cell? ⟨N, 16, none⟩ = some (.int .i64 h.cn) := cell_blk bN (by rw [hC.out]; first | rfl | (rw [← hza.out]; rfl) | (rw [← hzc.out]; rfl))
      have f20 : wr.cell? ⟨N, 20, none⟩ = some (.int .i64 h.fmt) := cell_blk bN (by rw [hC.out]; first | rfl | (rw [← hza.out]; rfl) | (rw [← hzc.out]; rfl))
      clear c1 c2 c7 c8 c19
      replace bN := Asd.mk bN
      have o1 := Asd.mk (fun W => odd_any h.ms h.mn W)
      have o2 := Asd.mk (fun W => odd_any h.acs h.acn W)
      have o3 := Asd.mk (fun W => odd_any h.cs h.cn W)
      by_cases q1 : 524288 < X
      · have HS : Asd (strB h rs = true) := ⟨by unfold strB; rw [← hXT.out]; simp [q1]⟩
        go_wp2
        go_ret
        exact ⟨ret_bool HS.out.symm, hwr.out⟩
      by_cases q2 : h.fmt < 0
      · have HS : Asd (strB h rs = true) := ⟨by unfold strB; simp [q2]⟩
        go_wp2
        go_ret
        exact ⟨ret_bool HS.out.symm, hwr.out⟩
      by_cases q3 : 3 < h.fmt
      · have HS : Asd (strB h rs = true) := ⟨by unfold strB; simp [q3]⟩
        go_wp2
        go_ret
        exact ⟨ret_bool HS.out.symm, hwr.out⟩
      have HS1 : Asd (strB h rs = (oddB h.ms h.mn || (za && oddB h.acs h.acn) || (zc && oddB h.cs h.cn))) := ⟨by unfold strB; rw [← hXT.out, hza.out, hzc.out]; simp [q1, q2, q3]⟩
      have q1d : decide ((524288 : Int) < (X : Int)) = false := decide_eq_false (by omega)
      clear q1
      obtain ⟨x1, hx1⟩ : ∃ x, Asd (oddB h.ms h.mn = x) := ⟨_, ⟨rfl⟩⟩
      obtain ⟨x2, hx2⟩ : ∃ x, Asd (oddB h.acs h.acn = x) := ⟨_, ⟨rfl⟩⟩
      obtain ⟨x3, hx3⟩ : ∃ x, Asd (oddB h.cs h.cn = x) := ⟨_, ⟨rfl⟩⟩
      rw [hx1.out] at o1
      rw [hx2.out] at o2
      rw [hx3.out] at o3
      rw [hx1.out, hx2.out, hx3.out] at HS1
      go_wp2_with fail
      refine (o1.out _).mono ?_
      rintro e w2 ⟨rfl, hb2⟩
      have bN2 := blk_below bN.out hb2
      have hb3 := Asd.mk (hwr.out.trans (hb2.mono hwr.out.size))
      clear hb2 f9 f10 f11 f12 f13 f14 f15 f16 f20
      have g11 : w2.cell? ⟨N, 11, none⟩ = some (.bool za) := cell_blk bN2 (by rw [hC.out]; first | rfl | (rw [← hza.out]; rfl) | (rw [← hzc.out]; rfl))
      have g12 : w2.cell? ⟨N, 12, none⟩ = some (.bool zc) := cell_blk bN2 (by rw [hC.out]; first | rfl | (rw [← hza.out]; rfl) | (rw [← hzc.out]; rfl))
      have g13 : w2.cell? ⟨N, 13, none⟩ = some (.int .i64 h.acs) := cell_blk bN2 (by rw [hC.out]; first | rfl | (rw [← hza.out]; rfl) | (rw [← hzc.out]; rfl))
      have g14 : w2.cell? ⟨N, 14, none⟩ = some (.int .i64 h.acn) := cell_blk bN2 (by rw [hC.out]; first | rfl | (rw [← hza.out]; rfl) | (rw [← hzc.out]; rfl))
      have g15 : w2.cell? ⟨N, 15, none⟩ = some (.int .i64 h.cs) := cell_blk bN2 (by rw [hC.out]; first | rfl | (rw [← hza.out]; rfl) | (rw [← hzc.out]; rfl))
      have g16 : w2.cell? ⟨N, 16, none⟩ = some (.int .i64 h.cn) := cell_blk bN2 (by rw [hC.out]; first | rfl | (rw [← hza.out]; rfl) | (rw [← hzc.out]; rfl))
      replace bN2 := Asd.mk bN2
      cases x1
      · cases za
        · cases zc
          · go_wp2
            go_ret
            exact ⟨ret_bool (by rw [HS1.out]; simp), hb3.out⟩
          · go_wp2_with (go_at_call 43; refine (o3.out _).mono ?_; rintro e w4 ⟨rfl, hb4⟩; have hb5 := Asd.mk (hb3.out.trans (hb4.mono hb3.out.size)); clear hb4)
            go_ret
            exact ⟨ret_bool (by rw [HS1.out]; simp), hb5.out⟩
        · cases x2
          · cases zc
            · go_wp2_with (go_at_call 43; refine (o2.out _).mono ?_; rintro e w4 ⟨rfl, hb4⟩; have hb5 := Asd.mk (hb3.out.trans (hb4.mono hb3.out.size)); have bN4 := blk_below bN2.out hb4; clear hb4; have k12 : w4.cell? ⟨N, 12, none⟩ = some (.bool false) := cell_blk bN4 (by rw [hC.out]; first | rfl | (rw [← hzc.out]; rfl)); clear bN4)
              go_ret
              exact ⟨ret_bool (by rw [HS1.out]; simp), hb5.out⟩
            · go_wp2_with fail
              refine (o2.out _).mono ?_
              rintro e w4 ⟨rfl, hb4⟩
              have hb5 := Asd.mk (hb3.out.trans (hb4.mono hb3.out.size))
              have bN4 := blk_below bN2.out hb4
              clear hb4 g11 g12 g13 g14 g15 g16
              have k12 : w4.cell? ⟨N, 12, none⟩ = some (.bool true) := cell_blk bN4 (by rw [hC.out]; first | rfl | (rw [← hza.out]; rfl) | (rw [← hzc.out]; rfl))
              have k15 : w4.cell? ⟨N, 15, none⟩ = some (.int .i64 h.cs) := cell_blk bN4 (by rw [hC.out]; first | rfl | (rw [← hza.out]; rfl) | (rw [← hzc.out]; rfl))
              have k16 : w4.cell? ⟨N, 16, none⟩ = some (.int .i64 h.cn) := cell_blk bN4 (by rw [hC.out]; first | rfl | (rw [← hza.out]; rfl) | (rw [← hzc.out]; rfl))
              clear bN4
              go_wp2_with (go_at_call 43; refine (o3.out _).mono ?_; rintro e w6 ⟨rfl, hb6⟩; have hb7 := Asd.mk (hb5.out.trans (hb6.mono hb5.out.size)); clear hb6)
              go_ret
              exact ⟨ret_bool (by rw [HS1.out]; simp), hb7.out⟩
          · go_wp2_with (go_at_call 43; refine (o2.out _).mono ?_; rintro e w4 ⟨rfl, hb4⟩; have hb5 := Asd.mk (hb3.out.trans (hb4.mono hb3.out.size)); clear hb4)
            go_ret
            exact ⟨ret_bool (by rw [HS1.out]; simp), hb5.out⟩
      · go_wp2
        go_ret
        exact ⟨ret_bool (by rw [HS1.out]; simp), hb3.out⟩
/-- The kind of a file and its names fit. -/
def A1 (p : SpH) : Prop := 48 ≤ p.tf.toNat ∧ p.tf.toNat ≤ 55 ∧ (slB p.name = true → p.tf.toNat = 53)
def cP1 (p : SpH) (F : Int) : Prop := TxOk p.name 256 F ∧ (F = 1 → p.name.size ≤ 100 ∨ splB p.name = true)
def cQ1 (p : SpH) (F : Int) : Prop := TxBad p.name 256 F ∨ (F = 1 ∧ 100 < p.name.size ∧ splB p.name = false)
def cP2 (p : SpH) (F : Int) : Prop := A1 p ∧ cP1 p F ∧ TxOk p.link 100 F ∧ OwOk p.uname F ∧ OwOk p.gname F
def cQ2 (p : SpH) (F : Int) : Prop := False ∨ cQ1 p F ∨ TxBad p.link 100 F ∨ OwBad p.uname F ∨ OwBad p.gname F
def cP3 (p : SpH) (F : Int) : Prop := cP2 p F ∧ SmOk F false p.mode ∧ SmOk F true p.uid ∧ SmOk F true p.gid ∧ SmOk F false p.maj ∧ SmOk F false p.min
def cQ3 (p : SpH) (F : Int) : Prop := cQ2 p F ∨ SmBad F false p.mode ∨ SmBad F true p.uid ∨ SmBad F true p.gid ∨ SmBad F false p.maj ∨ SmBad F false p.min
def datB (p : SpH) : Bool := decide (p.tf.toNat < 49) || decide (54 < p.tf.toNat)
def szB (p : SpH) (F : Int) : Bool := (decide (0 ≤ p.size) || !(datB p)) && (F != 1 || decide (p.size < 8589934592))
def cP4 (p : SpH) (F : Int) : Prop := cP3 p F ∧ szB p F = true ∧ MoOk p.ms p.mn F
def cQ4 (p : SpH) (F : Int) : Prop := cQ3 p F ∨ szB p F = false ∨ False
def cP5 (p : SpH) (F : Int) : Prop := cP4 p F ∧ 0 ≤ p.size
def cQ5 (p : SpH) (F : Int) : Prop := cQ4 p F ∨ False
def mtB (p : SpH) : Bool := decide (0 ≤ p.ms) && decide (p.ms < 8589934592)
def noT (p : SpH) : Bool := !p.ha && !p.hc
def cP6 (p : SpH) (F : Int) : Prop := cP5 p F ∧ (F = 1 → mtB p = true ∧ noT p = true)
def cQ6 (p : SpH) (F : Int) : Prop := cQ5 p F ∨ (F = 1 ∧ (mtB p = false ∨ noT p = false))
def cP7 (p : SpH) (F : Int) : Prop := cP6 p F ∧ (p.ha = true → MoOk p.acs p.acn F)
def cP8 (p : SpH) (F : Int) : Prop := cP7 p F ∧ (p.hc = true → MoOk p.cs p.cn F)
def cP9 (p : SpH) (F : Int) (rs : List (ByteArray × ByteArray)) : Prop := cP8 p F ∧ (0 < rs.length → F = 2)
def cQ9 (p : SpH) (F : Int) (rs : List (ByteArray × ByteArray)) : Prop := cQ6 p F ∨ (0 < rs.length ∧ F ≠ 2)
def cPk (p : SpH) (F : Int) (rs : List (ByteArray × ByteArray)) (k : Nat) : Prop := cP9 p F rs ∧ ∀ kv ∈ rs.take k, RecOk kv.1
def cQk (p : SpH) (F : Int) (rs : List (ByteArray × ByteArray)) (k : Nat) : Prop := cQ9 p F rs ∨ ∃ kv ∈ rs.take k, RecBad kv.1
/-- What is known if a format can tell a header, and if it can't. -/
def CanOk (h : SpH) (rs : List (ByteArray × ByteArray)) (F : Int) : Prop := strB h rs = false ∧ cP9 h.prom F rs ∧ ∀ kv ∈ rs, RecOk kv.1
def CanBad (h : SpH) (rs : List (ByteArray × ByteArray)) (F : Int) : Prop := strB h rs = false ∧ (cQ9 h.prom F rs ∨ ∃ kv ∈ rs, RecBad kv.1)
section
variable {P0 P1 P2 P3 P4 P5 Q0 Q1 Q2 Q3 Q4 Q5 : Prop} {a b c d e f v : Int}
theorem AllR.two (h : AllR [a, b] v) (ha : V3 P0 Q0 a) (hb : V3 P1 Q1 b) : V3 (P0 ∧ P1) (Q0 ∨ Q1) v := by
  refine ⟨h.1, fun e1 => ?_, fun e1 => ?_⟩
  · have := h.2.1 e1
    exact ⟨ha.2.1 (this a (by simp)), hb.2.1 (this b (by simp))⟩
  · obtain ⟨x, hx, rfl⟩ := h.2.2 e1
    simp only [List.mem_cons, List.not_mem_nil, or_false] at hx
    rcases hx with rfl | rfl
    · exact .inl (ha.2.2 rfl)
    · exact .inr (hb.2.2 rfl)
theorem AllR.three (h : AllR [a, b, c] v) (ha : V3 P0 Q0 a) (hb : V3 P1 Q1 b) (hc : V3 P2 Q2 c) : V3 (P0 ∧ P1 ∧ P2) (Q0 ∨ Q1 ∨ Q2) v := by
  refine ⟨h.1, fun e1 => ?_, fun e1 => ?_⟩
  · have := h.2.1 e1
    exact ⟨ha.2.1 (this a (by simp)), hb.2.1 (this b (by simp)), hc.2.1 (this c (by simp))⟩
  · obtain ⟨x, hx, rfl⟩ := h.2.2 e1
    simp only [List.mem_cons, List.not_mem_nil, or_false] at hx
    rcases hx with rfl | rfl | rfl
    · exact .inl (ha.2.2 rfl)
    · exact .inr (.inl (hb.2.2 rfl))
    · exact .inr (.inr (hc.2.2 rfl))
theorem AllR.five (h : AllR [a, b, c, d, e] v) (ha : V3 P0 Q0 a) (hb : V3 P1 Q1 b) (hc : V3 P2 Q2 c) (hd : V3 P3 Q3 d) (he : V3 P4 Q4 e) : V3 (P0 ∧ P1 ∧ P2 ∧ P3 ∧ P4) (Q0 ∨ Q1 ∨ Q2 ∨ Q3 ∨ Q4) v := by
  refine ⟨h.1, fun e1 => ?_, fun e1 => ?_⟩
  · have := h.2.1 e1
    exact ⟨ha.2.1 (this a (by simp)), hb.2.1 (this b (by simp)), hc.2.1 (this c (by simp)), hd.2.1 (this d (by simp)), he.2.1 (this e (by simp))⟩
  · obtain ⟨x, hx, rfl⟩ := h.2.2 e1
    simp only [List.mem_cons, List.not_mem_nil, or_false] at hx
    rcases hx with rfl | rfl | rfl | rfl | rfl
    · exact .inl (ha.2.2 rfl)
    · exact .inr (.inl (hb.2.2 rfl))
    · exact .inr (.inr (.inl (hc.2.2 rfl)))
    · exact .inr (.inr (.inr (.inl (hd.2.2 rfl))))
    · exact .inr (.inr (.inr (.inr (he.2.2 rfl))))
theorem AllR.six (h : AllR [a, b, c, d, e, f] v) (ha : V3 P0 Q0 a) (hb : V3 P1 Q1 b) (hc : V3 P2 Q2 c) (hd : V3 P3 Q3 d) (he : V3 P4 Q4 e) (hf : V3 P5 Q5 f) : V3 (P0 ∧ P1 ∧ P2 ∧ P3 ∧ P4 ∧ P5) (Q0 ∨ Q1 ∨ Q2 ∨ Q3 ∨ Q4 ∨ Q5) v := by
  refine ⟨h.1, fun e1 => ?_, fun e1 => ?_⟩
  · have := h.2.1 e1
    exact ⟨ha.2.1 (this a (by simp)), hb.2.1 (this b (by simp)), hc.2.1 (this c (by simp)), hd.2.1 (this d (by simp)), he.2.1 (this e (by simp)), hf.2.1 (this f (by simp))⟩
  · obtain ⟨x, hx, rfl⟩ := h.2.2 e1
    simp only [List.mem_cons, List.not_mem_nil, or_false] at hx
    rcases hx with rfl | rfl | rfl | rfl | rfl | rfl
    · exact .inl (ha.2.2 rfl)
    · exact .inr (.inl (hb.2.2 rfl))
    · exact .inr (.inr (.inl (hc.2.2 rfl)))
    · exact .inr (.inr (.inr (.inl (hd.2.2 rfl))))
    · exact .inr (.inr (.inr (.inr (.inl (he.2.2 rfl)))))
    · exact .inr (.inr (.inr (.inr (.inr (hf.2.2 rfl)))))
theorem V3.mem2 (ha : V3 P0 Q0 a) (hb : V3 P1 Q1 b) : ∀ x ∈ [a, b], x = 0 ∨ x = 1 ∨ x = 2 := by
  intro x hx; simp only [List.mem_cons, List.not_mem_nil, or_false] at hx; rcases hx with rfl | rfl; exact ha.1; exact hb.1
theorem V3.mem3 (ha : V3 P0 Q0 a) (hb : V3 P1 Q1 b) (hc : V3 P2 Q2 c) : ∀ x ∈ [a, b, c], x = 0 ∨ x = 1 ∨ x = 2 := by
  intro x hx; simp only [List.mem_cons, List.not_mem_nil, or_false] at hx; rcases hx with rfl | rfl | rfl; exact ha.1; exact hb.1; exact hc.1
theorem V3.mem5 (ha : V3 P0 Q0 a) (hb : V3 P1 Q1 b) (hc : V3 P2 Q2 c) (hd : V3 P3 Q3 d) (he : V3 P4 Q4 e) : ∀ x ∈ [a, b, c, d, e], x = 0 ∨ x = 1 ∨ x = 2 := by
  intro x hx; simp only [List.mem_cons, List.not_mem_nil, or_false] at hx; rcases hx with rfl | rfl | rfl | rfl | rfl; exact ha.1; exact hb.1; exact hc.1; exact hd.1; exact he.1
theorem V3.mem6 (ha : V3 P0 Q0 a) (hb : V3 P1 Q1 b) (hc : V3 P2 Q2 c) (hd : V3 P3 Q3 d) (he : V3 P4 Q4 e) (hf : V3 P5 Q5 f) : ∀ x ∈ [a, b, c, d, e, f], x = 0 ∨ x = 1 ∨ x = 2 := by
  intro x hx; simp only [List.mem_cons, List.not_mem_nil, or_false] at hx; rcases hx with rfl | rfl | rfl | rfl | rfl | rfl; exact ha.1; exact hb.1; exact hc.1; exact hd.1; exact he.1; exact hf.1
end
theorem all_at (b n : Nat) (l : List Int) (W : World) (T : TypeId) (hh : W.heap[b]? = some (.cells (l.map fun x => Value.int .i64 x).toArray T (0, 0))) (hl : l.length = n) (hn : n ≤ 8) (hv : ∀ x ∈ l, x = 0 ∨ x = 1 ∨ x = 2) :
    Calls Tryz.prog 48 #[.slice (some ⟨b, 0, none⟩) n n] W (AllPost l W) := by
  refine all_any b n n l _ hl hn hv ?_
  intro j x hx
  refine cell_blk hh ?_
  rw [List.getElem?_map, hx]
  rfl
theorem prom_tf (h : SpH) : h.prom.tf.toNat ≠ 0 := by
  unfold SpH.prom
  split
  · show (if slB h.name then (53 : UInt8) else 48).toNat ≠ 0
    split <;> decide
  · rename_i h0
    intro e
    exact h0 (by apply UInt8.toNat_inj.1; exact e)
theorem prom_same (h : SpH) : h.prom.name = h.name ∧ h.prom.link = h.link ∧ h.prom.uname = h.uname ∧ h.prom.gname = h.gname ∧ h.prom.ra = h.ra ∧ h.prom.rn = h.rn ∧ h.prom.rc = h.rc ∧ h.prom.fmt = h.fmt := by
  unfold SpH.prom; split <;> exact ⟨rfl, rfl, rfl, rfl, rfl, rfl, rfl, rfl⟩
def dropC : Nat → Code → Code
  | 0, c => c
  | n + 1, .seq _ b => dropC n b
  | _ + 1, c => c
def headC : Code → Code
  | .seq a _ => a
  | c => c
noncomputable def code28 (n : Nat) : Code := dropC n (Tryz.f28.body.getD .skip)
/-- From a statement on: with the verdict so far in its slot the rest ends as it should. -/
def Nx28 (n : Nat) (p : SpH) (F : Int) (N : Nat) (w : World) (PQ : Ending → World → Prop) (P Q : Prop) : Prop :=
  ∀ (v : Int) (c0 c3 c4 c6 c7 c8 c9 c10 c11 c12 c13 c14 c15 c16 c17 c18 c19 c20 c21 c22 c23 c24 c25 c26 c27 c28 c29 c30 c31 c32 c33 c34 c35 c36 c37 c38 c39 c40 c41 c42 c43 c44 c45 c46 c47 c48 c49 c50 c51 c52 c53 c54 c55 c56 c57 c58 c59 c60 c61 c62 c63 c64 c65 c66 c67 c68 c69 c70 c71 c72 c73 c74 c75 c76 c77 c78 c79 c80 c81 c82 c83 c84 c85 c86 c87 c88 c89 c90 c91 c92 c93 c94 c95 c96 c97 c98 c99 c100 c101 c102 c103 c104 c105 c106 c107 c108 c109 c110 c111 c112 c113 c114 c115 c116 c117 c118 c119 c120 c121 c122 c123 c124 c125 c126 c127 c128 c129 c130 c131 c132 c133 c134 c135 c136 c137 c138 c139 c140 c141 c142 c143 c144 c145 c146 c147 c148 c149 c150 c151 c152 c153 c154 c155 c156 c157 c158 c159 c160 c161 c162 c163 c164 c165 c166 c167 c168 c169 c170 c171 c172 c173 c174 c175 c176 c177 c178 c179 c180 c181 c182 c183 c184 c185 c186 c187 c188 c189 c190 c191 c192 c193 c194 c195 c196 c197 c198 c199 c200 c201 c202 c203 c204 c205 c206 c207 c208 c209 c210 c211 c212 c213 c214 c215 c216 c217 c218 c219 c220 c221 c222 c223 c224 c225 c226 c227 c228 c229 c230 c231 c232 c233 c234 c235 c236 c237 : Value) (W : World), V3 P Q v → W.heap[N]? = some (.cells p.cells.toArray 40 (0, 0)) → Below w.heap.size w W →
    Code.wp Tryz.prog (code28 n) (bodyPost Tryz.prog Tryz.f28 PQ) ⟨#[c0, .int .i64 F, .pointer (some ⟨N, 0, none⟩), c3, c4, .int .i64 v, c6, c7, c8, c9, c10, c11, c12, c13, c14, c15, c16, c17, c18, c19, c20, c21, c22, c23, c24, c25, c26, c27, c28, c29, c30, c31, c32, c33, c34, c35, c36, c37, c38, c39, c40, c41, c42, c43, c44, c45, c46, c47, c48, c49, c50, c51, c52, c53, c54, c55, c56, c57, c58, c59, c60, c61, c62, c63, c64, c65, c66, c67, c68, c69, c70, c71, c72, c73, c74, c75, c76, c77, c78, c79, c80, c81, c82, c83, c84, c85, c86, c87, c88, c89, c90, c91, c92, c93, c94, c95, c96, c97, c98, c99, c100, c101, c102, c103, c104, c105, c106, c107, c108, c109, c110, c111, c112, c113, c114, c115, c116, c117, c118, c119, c120, c121, c122, c123, c124, c125, c126, c127, c128, c129, c130, c131, c132, c133, c134, c135, c136, c137, c138, c139, c140, c141, c142, c143, c144, c145, c146, c147, c148, c149, c150, c151, c152, c153, c154, c155, c156, c157, c158, c159, c160, c161, c162, c163, c164, c165, c166, c167, c168, c169, c170, c171, c172, c173, c174, c175, c176, c177, c178, c179, c180, c181, c182, c183, c184, c185, c186, c187, c188, c189, c190, c191, c192, c193, c194, c195, c196, c197, c198, c199, c200, c201, c202, c203, c204, c205, c206, c207, c208, c209, c210, c211, c212, c213, c214, c215, c216, c217, c218, c219, c220, c221, c222, c223, c224, c225, c226, c227, c228, c229, c230, c231, c232, c233, c234, c235, c236, c237], []⟩ W
theorem code28_9 : code28 9 = .seq (headC (code28 9)) (code28 10) := by kernel_rfl
set_option maxRecDepth 100000 in
set_option maxHeartbeats 4000000 in
theorem can_s9 (p : SpH) (F : Int) (N : Nat) (w : World) (PQ : Ending → World → Prop) (hF : F = 1 ∨ F = 2 ∨ F = 3) (hN : Asd (w.heap.size = N)) (hn : Asd (Nx28 10 p F N w PQ (cP3 p F) (cQ3 p F))) : Nx28 9 p F N w PQ (cP2 p F) (cQ2 p F) := by
  intro v c0 c3 c4 c6 c7 c8 c9 c10 c11 c12 c13 c14 c15 c16 c17 c18 c19 c20 c21 c22 c23 c24 c25 c26 c27 c28 c29 c30 c31 c32 c33 c34 c35 c36 c37 c38 c39 c40 c41 c42 c43 c44 c45 c46 c47 c48 c49 c50 c51 c52 c53 c54 c55 c56 c57 c58 c59 c60 c61 c62 c63 c64 c65 c66 c67 c68 c69 c70 c71 c72 c73 c74 c75 c76 c77 c78 c79 c80 c81 c82 c83 c84 c85 c86 c87 c88 c89 c90 c91 c92 c93 c94 c95 c96 c97 c98 c99 c100 c101 c102 c103 c104 c105 c106 c107 c108 c109 c110 c111 c112 c113 c114 c115 c116 c117 c118 c119 c120 c121 c122 c123 c124 c125 c126 c127 c128 c129 c130 c131 c132 c133 c134 c135 c136 c137 c138 c139 c140 c141 c142 c143 c144 c145 c146 c147 c148 c149 c150 c151 c152 c153 c154 c155 c156 c157 c158 c159 c160 c161 c162 c163 c164 c165 c166 c167 c168 c169 c170 c171 c172 c173 c174 c175 c176 c177 c178 c179 c180 c181 c182 c183 c184 c185 c186 c187 c188 c189 c190 c191 c192 c193 c194 c195 c196 c197 c198 c199 c200 c201 c202 c203 c204 c205 c206 c207 c208 c209 c210 c211 c212 c213 c214 c215 c216 c217 c218 c219 c220 c221 c222 c223 c224 c225 c226 c227 c228 c229 c230 c231 c232 c233 c234 c235 c236 c237 W hv b5 hb5
  rw [code28_9]
  conv => arg 2; arg 1; whnf
  replace hv := Asd.mk hv
  replace hb5 := Asd.mk hb5
  have hb5d : Asd (Below w.heap.size w W.drew) := ⟨Below.drew hb5.out⟩
  have c_4 : W.cell? ⟨N, 4, none⟩ = some (.int .i64 p.mode) := cell_blk b5 (by first | rfl | (rw [← hza.out]; rfl))
  have c_5 : W.cell? ⟨N, 5, none⟩ = some (.int .i64 p.uid) := cell_blk b5 (by first | rfl | (rw [← hza.out]; rfl))
  have c_6 : W.cell? ⟨N, 6, none⟩ = some (.int .i64 p.gid) := cell_blk b5 (by first | rfl | (rw [← hza.out]; rfl))
  have c_17 : W.cell? ⟨N, 17, none⟩ = some (.int .i64 p.maj) := cell_blk b5 (by first | rfl | (rw [← hza.out]; rfl))
  have c_18 : W.cell? ⟨N, 18, none⟩ = some (.int .i64 p.min) := cell_blk b5 (by first | rfl | (rw [← hza.out]; rfl))
  have hsm := Asd.mk (fun n pax W => small_any n F pax W hF)
  have i1 := Asd.mk (smV_V3 F false p.mode)
  have i2 := Asd.mk (smV_V3 F true p.uid)
  have i3 := Asd.mk (smV_V3 F true p.gid)
  have i4 := Asd.mk (smV_V3 F false p.maj)
  have i5 := Asd.mk (smV_V3 F false p.min)
  replace b5 := Asd.mk b5
  go_wp2_with fail
  refine wp_region_held_drew (S := (fun w' => w'.cell? ⟨N, 4, none⟩ = some (.int .i64 p.mode) ∧ w'.cell? ⟨N, 5, none⟩ = some (.int .i64 p.uid) ∧ w'.cell? ⟨N, 6, none⟩ = some (.int .i64 p.gid) ∧ w'.cell? ⟨N, 17, none⟩ = some (.int .i64 p.maj) ∧ w'.cell? ⟨N, 18, none⟩ = some (.int .i64 p.min))) (by kernel_rfl) ?_ (fun hHeld => ?_)
  · exact ⟨c_4, c_5, c_6, c_17, c_18⟩
  refine takeV (i := 0) (v := ?_) rfl (by kernel_rfl) (fun _ _ _ h => h) (by rfl) ?_ (by assumption) ?_
  rotate_left
  · (intro w hSw; (try dsimp only at hSw); go_simp); all_goals (with_reducible rfl)
  try simp only [Act.put, List.setIfInBounds_toArray, List.set_cons_zero, List.set_cons_succ]
  refine takeV (i := 1) (v := ?_) rfl (by kernel_rfl) (fun _ _ _ h => h) (by rfl) ?_ (by assumption) ?_
  rotate_left
  · (intro w hSw; (try dsimp only at hSw); go_simp); all_goals (with_reducible rfl)
  try simp only [Act.put, List.setIfInBounds_toArray, List.set_cons_zero, List.set_cons_succ]
  refine takeV (i := 2) (v := ?_) rfl (by kernel_rfl) (fun _ _ _ h => h) (by rfl) ?_ (by assumption) ?_
  rotate_left
  · (intro w hSw; (try dsimp only at hSw); go_simp); all_goals (with_reducible rfl)
  try simp only [Act.put, List.setIfInBounds_toArray, List.set_cons_zero, List.set_cons_succ]
  refine takeV (i := 3) (v := ?_) rfl (by kernel_rfl) (fun _ _ _ h => h) (by rfl) ?_ (by assumption) ?_
  rotate_left
  · (intro w hSw; (try dsimp only at hSw); go_simp); all_goals (with_reducible rfl)
  try simp only [Act.put, List.setIfInBounds_toArray, List.set_cons_zero, List.set_cons_succ]
  refine takeV (i := 5) (v := ?_) rfl (by kernel_rfl) (fun _ _ _ h => h) (by rfl) ?_ (by assumption) ?_
  rotate_left
  · (intro w hSw; (try dsimp only at hSw); go_simp); all_goals (with_reducible rfl)
  try simp only [Act.put, List.setIfInBounds_toArray, List.set_cons_zero, List.set_cons_succ]
  refine takeV (i := 6) (v := ?_) rfl (by kernel_rfl) (fun _ _ _ h => h) (by rfl) ?_ (by assumption) ?_
  rotate_left
  · (intro w hSw; (try dsimp only at hSw); go_simp); all_goals (with_reducible rfl)
  try simp only [Act.put, List.setIfInBounds_toArray, List.set_cons_zero, List.set_cons_succ]
  refine takeV (i := 7) (v := ?_) rfl (by kernel_rfl) (fun _ _ _ h => h) (by rfl) ?_ (by assumption) ?_
  rotate_left
  · (intro w hSw; (try dsimp only at hSw); go_simp); all_goals (with_reducible rfl)
  try simp only [Act.put, List.setIfInBounds_toArray, List.set_cons_zero, List.set_cons_succ]
  refine takeV (i := 9) (v := ?_) rfl (by kernel_rfl) (fun _ _ _ h => h) (by rfl) ?_ (by assumption) ?_
  rotate_left
  · (intro w hSw; (try dsimp only at hSw); go_simp); all_goals (with_reducible rfl)
  try simp only [Act.put, List.setIfInBounds_toArray, List.set_cons_zero, List.set_cons_succ]
  refine takeV (i := 10) (v := ?_) rfl (by kernel_rfl) (fun _ _ _ h => h) (by rfl) ?_ (by assumption) ?_
  rotate_left
  · (intro w hSw; (try dsimp only at hSw); go_simp); all_goals (with_reducible rfl)
  try simp only [Act.put, List.setIfInBounds_toArray, List.set_cons_zero, List.set_cons_succ]
  refine takeV (i := 11) (v := ?_) rfl (by kernel_rfl) (fun _ _ _ h => h) (by rfl) ?_ (by assumption) ?_
  rotate_left
  · (intro w hSw; (try dsimp only at hSw); go_simp); all_goals (with_reducible rfl)
  try simp only [Act.put, List.setIfInBounds_toArray, List.set_cons_zero, List.set_cons_succ]
  refine takeV (i := 13) (v := ?_) rfl (by kernel_rfl) (fun _ _ _ h => h) (by rfl) ?_ (by assumption) ?_
  rotate_left
  · (intro w hSw; (try dsimp only at hSw); go_simp); all_goals (with_reducible rfl)
  try simp only [Act.put, List.setIfInBounds_toArray, List.set_cons_zero, List.set_cons_succ]
  refine takeV (i := 14) (v := ?_) rfl (by kernel_rfl) (fun _ _ _ h => h) (by rfl) ?_ (by assumption) ?_
  rotate_left
  · (intro w hSw; (try dsimp only at hSw); go_simp); all_goals (with_reducible rfl)
  try simp only [Act.put, List.setIfInBounds_toArray, List.set_cons_zero, List.set_cons_succ]
  refine takeV (i := 15) (v := ?_) rfl (by kernel_rfl) (fun _ _ _ h => h) (by rfl) ?_ (by assumption) ?_
  rotate_left
  · (intro w hSw; (try dsimp only at hSw); go_simp); all_goals (with_reducible rfl)
  try simp only [Act.put, List.setIfInBounds_toArray, List.set_cons_zero, List.set_cons_succ]
  refine takeV (i := 17) (v := ?_) rfl (by kernel_rfl) (fun _ _ _ h => h) (by rfl) ?_ (by assumption) ?_
  rotate_left
  · (intro w hSw; (try dsimp only at hSw); go_simp); all_goals (with_reducible rfl)
  try simp only [Act.put, List.setIfInBounds_toArray, List.set_cons_zero, List.set_cons_succ]
  refine takeV (i := 18) (v := ?_) rfl (by kernel_rfl) (fun _ _ _ h => h) (by rfl) ?_ (by assumption) ?_
  rotate_left
  · (intro w hSw; (try dsimp only at hSw); go_simp); all_goals (with_reducible rfl)
  try simp only [Act.put, List.setIfInBounds_toArray, List.set_cons_zero, List.set_cons_succ]
  refine takeV (i := 19) (v := ?_) rfl (by kernel_rfl) (fun _ _ _ h => h) (by rfl) ?_ (by assumption) ?_
  rotate_left
  · (intro w hSw; (try dsimp only at hSw); go_simp); all_goals (with_reducible rfl)
  try simp only [Act.put, List.setIfInBounds_toArray, List.set_cons_zero, List.set_cons_succ]
  refine wpAnyH_ready (rs := [4]) (by kernel_rfl) (by simp) ?_
  refine AllReadyH.cons (o := { dst := some 119, op := Op.call { callee := Callee.value (Operand.func 50), args := #[Operand.tmp 117, Operand.tmp 118, Operand.const (Value.bool false)], argTypes := #[2, 3, 4] }, type := 3, pos := "header.go:172", after := #[{ on := 2, ground := Ground.data }, { on := 3, ground := Ground.data }], guard := none }) rfl (fun K hK => ?_) AllReadyH.nil
  go_simp
  refine (hsm.out _ _ _).mono ?_
  rintro e w4 ⟨rfl, rfl⟩
  refine hK.out _ _ ?_ (fun hHeld => ?_)
  · exact hHeld
  clear hK K
  try simp only [Act.put, List.setIfInBounds_toArray, List.set_cons_zero, List.set_cons_succ]
  refine wpAnyH_ready (rs := [8]) (by kernel_rfl) (by simp) ?_
  refine AllReadyH.cons (o := { dst := some 123, op := Op.call { callee := Callee.value (Operand.func 50), args := #[Operand.tmp 121, Operand.tmp 122, Operand.const (Value.bool true)], argTypes := #[2, 3, 4] }, type := 3, pos := "header.go:172", after := #[{ on := 6, ground := Ground.data }, { on := 7, ground := Ground.data }, { on := 4, ground := Ground.chain }], guard := none }) rfl (fun K hK => ?_) AllReadyH.nil
  go_simp
  refine (hsm.out _ _ _).mono ?_
  rintro e w4 ⟨rfl, rfl⟩
  refine hK.out _ _ ?_ (fun hHeld => ?_)
  · exact hHeld
  clear hK K
  try simp only [Act.put, List.setIfInBounds_toArray, List.set_cons_zero, List.set_cons_succ]
  refine wpAnyH_ready (rs := [12]) (by kernel_rfl) (by simp) ?_
  refine AllReadyH.cons (o := { dst := some 127, op := Op.call { callee := Callee.value (Operand.func 50), args := #[Operand.tmp 125, Operand.tmp 126, Operand.const (Value.bool true)], argTypes := #[2, 3, 4] }, type := 3, pos := "header.go:172", after := #[{ on := 10, ground := Ground.data }, { on := 11, ground := Ground.data }, { on := 8, ground := Ground.chain }], guard := none }) rfl (fun K hK => ?_) AllReadyH.nil
  go_simp
  refine (hsm.out _ _ _).mono ?_
  rintro e w4 ⟨rfl, rfl⟩
  refine hK.out _ _ ?_ (fun hHeld => ?_)
  · exact hHeld
  clear hK K
  try simp only [Act.put, List.setIfInBounds_toArray, List.set_cons_zero, List.set_cons_succ]
  refine wpAnyH_ready (rs := [16]) (by kernel_rfl) (by simp) ?_
  refine AllReadyH.cons (o := { dst := some 131, op := Op.call { callee := Callee.value (Operand.func 50), args := #[Operand.tmp 129, Operand.tmp 130, Operand.const (Value.bool false)], argTypes := #[2, 3, 4] }, type := 3, pos := "header.go:172", after := #[{ on := 14, ground := Ground.data }, { on := 15, ground := Ground.data }, { on := 12, ground := Ground.chain }], guard := none }) rfl (fun K hK => ?_) AllReadyH.nil
  go_simp
  refine (hsm.out _ _ _).mono ?_
  rintro e w4 ⟨rfl, rfl⟩
  refine hK.out _ _ ?_ (fun hHeld => ?_)
  · exact hHeld
  clear hK K
  try simp only [Act.put, List.setIfInBounds_toArray, List.set_cons_zero, List.set_cons_succ]
  refine wpAnyH_ready (rs := [20]) (by kernel_rfl) (by simp) ?_
  refine AllReadyH.cons (o := { dst := some 135, op := Op.call { callee := Callee.value (Operand.func 50), args := #[Operand.tmp 133, Operand.tmp 134, Operand.const (Value.bool false)], argTypes := #[2, 3, 4] }, type := 3, pos := "header.go:172", after := #[{ on := 18, ground := Ground.data }, { on := 19, ground := Ground.data }, { on := 16, ground := Ground.chain }], guard := none }) rfl (fun K hK => ?_) AllReadyH.nil
  go_simp
  refine (hsm.out _ _ _).mono ?_
  rintro e w4 ⟨rfl, rfl⟩
  refine hK.out _ _ ?_ (fun hHeld => ?_)
  · exact hHeld
  clear hK K
  try simp only [Act.put, List.setIfInBounds_toArray, List.set_cons_zero, List.set_cons_succ]
  refine wpAnyH_ready (rs := [21]) (by kernel_rfl) (by simp) ?_
  refine AllReadyH.cons (o := { dst := some 136, op := Op.buildSlice 46 6 #[(0, Operand.tmp 115), (1, Operand.tmp 119), (2, Operand.tmp 123), (3, Operand.tmp 127), (4, Operand.tmp 131), (5, Operand.tmp 135)], type := 46, pos := "header.go:172", after := #[{ on := 0, ground := Ground.data }, { on := 4, ground := Ground.data }, { on := 8, ground := Ground.data }, { on := 12, ground := Ground.data }, { on := 16, ground := Ground.data }, { on := 20, ground := Ground.data }], guard := none }) rfl (fun K hK => ?_) AllReadyH.nil
  go_simp
  refine hK.out _ _ ?_ (fun hHeld => ?_)
  · go_keep
  clear hK K
  try simp only [Act.put, List.setIfInBounds_toArray, List.set_cons_zero, List.set_cons_succ]
  refine wpAnyH_ready (rs := [22]) (by kernel_rfl) (by simp) ?_
  refine AllReadyH.cons (o := { dst := some 137, op := Op.call { callee := Callee.value (Operand.func 48), args := #[Operand.tmp 136], argTypes := #[46] }, type := 3, pos := "header.go:172", after := #[{ on := 21, ground := Ground.data }, { on := 20, ground := Ground.chain }], guard := none }) rfl (fun K hK => ?_) AllReadyH.nil
  go_simp
  refine (all_at W.heap.size 6 [v, smV F false p.mode, smV F true p.uid, smV F true p.gid, smV F false p.maj, smV F false p.min] _ 3 (by exact heap_alloc_new W _) rfl (by omega) (V3.mem6 hv.out i1.out i2.out i3.out i4.out i5.out)).mono ?_
  rintro e w7 ⟨rfl, v9, hv9, rfl⟩
  refine hK.out _ _ ?_ (fun hHeld => ?_)
  · exact hHeld
  clear hK K
  try simp only [Act.put, List.setIfInBounds_toArray, List.set_cons_zero, List.set_cons_succ]
  refine takeV (i := 23) (v := ?_) rfl (by kernel_rfl) (fun _ _ _ h => h) (by rfl) ?_ (by assumption) ?_
  rotate_left
  · (intro w hSw; (try dsimp only at hSw); go_simp); all_goals (with_reducible rfl)
  try simp only [Act.put, List.setIfInBounds_toArray, List.set_cons_zero, List.set_cons_succ]
  refine wpAnyH_done (by kernel_rfl) ?_ _
  go_wp2_with fail
  exact hn.out v9 _ _ _ _ _ _ _ _ _ _ _ _ _ _ _ _ _ _ _ _ _ _ _ _ _ _ _ _ _ _ _ _ _ _ _ _ _ _ _ _ _ _ _ _ _ _ _ _ _ _ _ _ _ _ _ _ _ _ _ _ _ _ _ _ _ _ _ _ _ _ _ _ _ _ _ _ _ _ _ _ _ _ _ _ _ _ _ _ _ _ _ _ _ _ _ _ _ _ _ _ _ _ _ _ _ _ _ _ _ _ _ _ _ _ _ _ _ _ _ _ _ _ _ _ _ _ _ _ _ _ _ _ _ _ _ _ _ _ _ _ _ _ _ _ _ _ _ _ _ _ _ _ _ _ _ _ _ _ _ _ _ _ _ _ _ _ _ _ _ _ _ _ _ _ _ _ _ _ _ _ _ _ _ _ _ _ _ _ _ _ _ _ _ _ _ _ _ _ _ _ _ _ _ _ _ _ _ _ _ _ _ _ _ _ _ _ _ _ _ _ _ _ _ _ _ _ _ _ _ _ _ _ _ _ _ _ ((hv9.six hv.out i1.out i2.out i3.out i4.out i5.out).mono (fun h => h) (fun h => h)) (blk_below (w := W.drew) b5.out ((Below.refl _ _).alloc (Nat.le_refl _) _)) (hb5d.out.alloc hb5d.out.size _)
theorem code28_10 : code28 10 = .seq (headC (code28 10)) (code28 11) := by kernel_rfl
set_option maxRecDepth 100000 in
set_option maxHeartbeats 4000000 in
theorem can_s10 (p : SpH) (F : Int) (N : Nat) (w : World) (PQ : Ending → World → Prop) (hF : F = 1 ∨ F = 2 ∨ F = 3) (hN : Asd (w.heap.size = N)) (hn : Asd (Nx28 11 p F N w PQ (cP4 p F) (cQ4 p F))) : Nx28 10 p F N w PQ (cP3 p F) (cQ3 p F) := by
  intro v c0 c3 c4 c6 c7 c8 c9 c10 c11 c12 c13 c14 c15 c16 c17 c18 c19 c20 c21 c22 c23 c24 c25 c26 c27 c28 c29 c30 c31 c32 c33 c34 c35 c36 c37 c38 c39 c40 c41 c42 c43 c44 c45 c46 c47 c48 c49 c50 c51 c52 c53 c54 c55 c56 c57 c58 c59 c60 c61 c62 c63 c64 c65 c66 c67 c68 c69 c70 c71 c72 c73 c74 c75 c76 c77 c78 c79 c80 c81 c82 c83 c84 c85 c86 c87 c88 c89 c90 c91 c92 c93 c94 c95 c96 c97 c98 c99 c100 c101 c102 c103 c104 c105 c106 c107 c108 c109 c110 c111 c112 c113 c114 c115 c116 c117 c118 c119 c120 c121 c122 c123 c124 c125 c126 c127 c128 c129 c130 c131 c132 c133 c134 c135 c136 c137 c138 c139 c140 c141 c142 c143 c144 c145 c146 c147 c148 c149 c150 c151 c152 c153 c154 c155 c156 c157 c158 c159 c160 c161 c162 c163 c164 c165 c166 c167 c168 c169 c170 c171 c172 c173 c174 c175 c176 c177 c178 c179 c180 c181 c182 c183 c184 c185 c186 c187 c188 c189 c190 c191 c192 c193 c194 c195 c196 c197 c198 c199 c200 c201 c202 c203 c204 c205 c206 c207 c208 c209 c210 c211 c212 c213 c214 c215 c216 c217 c218 c219 c220 c221 c222 c223 c224 c225 c226 c227 c228 c229 c230 c231 c232 c233 c234 c235 c236 c237 W hv b5 hb5
  rw [code28_10]
  conv => arg 2; arg 1; whnf
  replace hv := Asd.mk hv
  replace hb5 := Asd.mk hb5
  have hb5d : Asd (Below w.heap.size w W.drew) := ⟨Below.drew hb5.out⟩
  have c_0 : W.cell? ⟨N, 0, none⟩ = some (.int .u8 p.tf.toNat) := cell_blk b5 (by first | rfl | (rw [← hza.out]; rfl))
  have c_3 : W.cell? ⟨N, 3, none⟩ = some (.int .i64 p.size) := cell_blk b5 (by first | rfl | (rw [← hza.out]; rfl))
  have c_9 : W.cell? ⟨N, 9, none⟩ = some (.int .i64 p.ms) := cell_blk b5 (by first | rfl | (rw [← hza.out]; rfl))
  have c_10 : W.cell? ⟨N, 10, none⟩ = some (.int .i64 p.mn) := cell_blk b5 (by first | rfl | (rw [← hza.out]; rfl))
  replace b5 := Asd.mk b5
  have hdt := Asd.mk (fun W => hasData_any p.tf W)
  have hmo := Asd.mk (fun W => moment_any p.ms p.mn F W hF)
  obtain ⟨db, hdb⟩ : ∃ b, Asd (datB p = b) := ⟨_, ⟨rfl⟩⟩
  have hdb2 := Asd.mk (show (decide (p.tf.toNat < 49) || decide (54 < p.tf.toNat)) = db from hdb.out)
  rw [hdb2.out] at hdt
  by_cases f1 : F = 1
  · have f1' : (F != 1) = false := by simpa using f1
    clear f1 hF
    by_cases s0 : 0 ≤ p.size
    · have s0d : decide (0 ≤ p.size) = true := decide_eq_true s0
      have hz : Asd (szB p F = decide (p.size < 8589934592)) := ⟨by unfold szB; rw [f1', s0d]; simp⟩
      go_wp2_with fail
      refine wp_region_held_drew (S := (fun w' => w'.cell? ⟨N, 0, none⟩ = some (.int .u8 p.tf.toNat) ∧ w'.cell? ⟨N, 3, none⟩ = some (.int .i64 p.size) ∧ w'.cell? ⟨N, 9, none⟩ = some (.int .i64 p.ms) ∧ w'.cell? ⟨N, 10, none⟩ = some (.int .i64 p.mn))) (by kernel_rfl) ?_ (fun hHeld => ?_)
      · exact ⟨c_0, c_3, c_9, c_10⟩
      refine takeV (i := 0) (v := ?_) rfl (by kernel_rfl) (fun _ _ _ h => h) (by rfl) ?_ (by assumption) ?_
      rotate_left
      · (intro w hSw; (try dsimp only at hSw); go_simp); all_goals (with_reducible rfl)
      try simp only [Act.put, List.setIfInBounds_toArray, List.set_cons_zero, List.set_cons_succ]
      refine takeV (i := 1) (v := ?_) rfl (by kernel_rfl) (fun _ _ _ h => h) (by rfl) ?_ (by assumption) ?_
      rotate_left
      · (intro w hSw; (try dsimp only at hSw); go_simp); all_goals (with_reducible rfl)
      try simp only [Act.put, List.setIfInBounds_toArray, List.set_cons_zero, List.set_cons_succ]
      refine takeV (i := 2) (v := ?_) rfl (by kernel_rfl) (fun _ _ _ h => h) (by rfl) ?_ (by assumption) ?_
      rotate_left
      · (intro w hSw; (try dsimp only at hSw); go_simp); all_goals (with_reducible rfl)
      try simp only [Act.put, List.setIfInBounds_toArray, List.set_cons_zero, List.set_cons_succ]
      refine takeV (i := 3) (v := ?_) rfl (by kernel_rfl) (fun _ _ _ h => h) (by rfl) ?_ (by assumption) ?_
      rotate_left
      · (intro w hSw; (try dsimp only at hSw); go_simp); all_goals (with_reducible rfl)
      try simp only [Act.put, List.setIfInBounds_toArray, List.set_cons_zero, List.set_cons_succ]
      refine takeV (i := 4) (v := ?_) rfl (by kernel_rfl) (fun _ _ _ h => h) (by rfl) ?_ (by assumption) ?_
      rotate_left
      · (intro w hSw; (try dsimp only at hSw); go_simp); all_goals (with_reducible rfl)
      try simp only [Act.put, List.setIfInBounds_toArray, List.set_cons_zero, List.set_cons_succ]
      refine takeV (i := 20) (v := ?_) rfl (by kernel_rfl) (fun _ _ _ h => h) (by rfl) ?_ (by assumption) ?_
      rotate_left
      · (intro w hSw; (try dsimp only at hSw); go_simp); all_goals (with_reducible rfl)
      try simp only [Act.put, List.setIfInBounds_toArray, List.set_cons_zero, List.set_cons_succ]
      refine takeV (i := 21) (v := ?_) rfl (by kernel_rfl) (fun _ _ _ h => h) (by rfl) ?_ (by assumption) ?_
      rotate_left
      · (intro w hSw; (try dsimp only at hSw); go_simp); all_goals (with_reducible rfl)
      try simp only [Act.put, List.setIfInBounds_toArray, List.set_cons_zero, List.set_cons_succ]
      refine takeV (i := 22) (v := ?_) rfl (by kernel_rfl) (fun _ _ _ h => h) (by rfl) ?_ (by assumption) ?_
      rotate_left
      · (intro w hSw; (try dsimp only at hSw); go_simp); all_goals (with_reducible rfl)
      try simp only [Act.put, List.setIfInBounds_toArray, List.set_cons_zero, List.set_cons_succ]
      refine takeU (i := 5) rfl (by kernel_rfl) (fun _ _ _ h => h) (by rfl) (by assumption) ?_
      try simp only [Act.put, List.setIfInBounds_toArray, List.set_cons_zero, List.set_cons_succ]
      refine takeU (i := 6) rfl (by kernel_rfl) (fun _ _ _ h => h) (by rfl) (by assumption) ?_
      try simp only [Act.put, List.setIfInBounds_toArray, List.set_cons_zero, List.set_cons_succ]
      refine takeU (i := 7) rfl (by kernel_rfl) (fun _ _ _ h => h) (by rfl) (by assumption) ?_
      try simp only [Act.put, List.setIfInBounds_toArray, List.set_cons_zero, List.set_cons_succ]
      refine takeU (i := 8) rfl (by kernel_rfl) (fun _ _ _ h => h) (by rfl) (by assumption) ?_
      try simp only [Act.put, List.setIfInBounds_toArray, List.set_cons_zero, List.set_cons_succ]
      refine takeV (i := 9) (v := ?_) rfl (by kernel_rfl) (fun _ _ _ h => h) (by rfl) ?_ (by assumption) ?_
      rotate_left
      · (intro w hSw; (try dsimp only at hSw); go_simp); all_goals (with_reducible rfl)
      try simp only [Act.put, List.setIfInBounds_toArray, List.set_cons_zero, List.set_cons_succ]
      refine takeV (i := 10) (v := ?_) rfl (by kernel_rfl) (fun _ _ _ h => h) (by rfl) ?_ (by assumption) ?_
      rotate_left
      · (intro w hSw; (try dsimp only at hSw); go_simp); all_goals (with_reducible rfl)
      try simp only [Act.put, List.setIfInBounds_toArray, List.set_cons_zero, List.set_cons_succ]
      refine takeV (i := 11) (v := ?_) rfl (by kernel_rfl) (fun _ _ _ h => h) (by rfl) ?_ (by assumption) ?_
      rotate_left
      · (intro w hSw; (try dsimp only at hSw); go_simp); all_goals (with_reducible rfl)
      try simp only [Act.put, List.setIfInBounds_toArray, List.set_cons_zero, List.set_cons_succ]
      refine takeV (i := 12) (v := ?_) rfl (by kernel_rfl) (fun _ _ _ h => h) (by rfl) ?_ (by assumption) ?_
      rotate_left
      · (intro w hSw; (try dsimp only at hSw); go_simp); all_goals (with_reducible rfl)
      try simp only [Act.put, List.setIfInBounds_toArray, List.set_cons_zero, List.set_cons_succ]
      refine takeV (i := 13) (v := ?_) rfl (by kernel_rfl) (fun _ _ _ h => h) (by rfl) ?_ (by assumption) ?_
      rotate_left
      · (intro w hSw; (try dsimp only at hSw); go_simp); all_goals (with_reducible rfl)
      try simp only [Act.put, List.setIfInBounds_toArray, List.set_cons_zero, List.set_cons_succ]
      refine takeV (i := 14) (v := ?_) rfl (by kernel_rfl) (fun _ _ _ h => h) (by rfl) ?_ (by assumption) ?_
      rotate_left
      · (intro w hSw; (try dsimp only at hSw); go_simp); all_goals (with_reducible rfl)
      try simp only [Act.put, List.setIfInBounds_toArray, List.set_cons_zero, List.set_cons_succ]
      refine takeV (i := 15) (v := ?_) rfl (by kernel_rfl) (fun _ _ _ h => h) (by rfl) ?_ (by assumption) ?_
      rotate_left
      · (intro w hSw; (try dsimp only at hSw); go_simp); all_goals (with_reducible rfl)
      try simp only [Act.put, List.setIfInBounds_toArray, List.set_cons_zero, List.set_cons_succ]
      refine takeV (i := 16) (v := ?_) rfl (by kernel_rfl) (fun _ _ _ h => h) (by rfl) ?_ (by assumption) ?_
      rotate_left
      · (intro w hSw; (try dsimp only at hSw); go_simp); all_goals (with_reducible rfl)
      try simp only [Act.put, List.setIfInBounds_toArray, List.set_cons_zero, List.set_cons_succ]
      refine takeV (i := 17) (v := ?_) rfl (by kernel_rfl) (fun _ _ _ h => h) (by rfl) ?_ (by assumption) ?_
      rotate_left
      · (intro w hSw; (try dsimp only at hSw); go_simp); all_goals (with_reducible rfl)
      try simp only [Act.put, List.setIfInBounds_toArray, List.set_cons_zero, List.set_cons_succ]
      refine takeV (i := 18) (v := ?_) rfl (by kernel_rfl) (fun _ _ _ h => h) (by rfl) ?_ (by assumption) ?_
      rotate_left
      · (intro w hSw; (try dsimp only at hSw); go_simp); all_goals (with_reducible rfl)
      try simp only [Act.put, List.setIfInBounds_toArray, List.set_cons_zero, List.set_cons_succ]
      refine wpAnyH_ready (rs := [19]) (by kernel_rfl) (by simp) ?_
      refine AllReadyH.cons (o := { dst := some 157, op := Op.call { callee := Callee.value (Operand.func 46), args := #[Operand.tmp 156], argTypes := #[4] }, type := 3, pos := "header.go:173", after := #[{ on := 18, ground := Ground.data }, { on := 13, ground := Ground.chain }], guard := none }) rfl (fun K hK => ?_) AllReadyH.nil
      go_simp
      refine (when_any _ _).mono ?_
      rintro e w4 ⟨rfl, m1, hm1, rfl⟩
      refine hK.out _ _ ?_ (fun hHeld => ?_)
      · exact hHeld
      clear hK K
      try simp only [Act.put, List.setIfInBounds_toArray, List.set_cons_zero, List.set_cons_succ]
      refine wpAnyH_ready (rs := [23]) (by kernel_rfl) (by simp) ?_
      refine AllReadyH.cons (o := { dst := some 161, op := Op.call { callee := Callee.value (Operand.func 51), args := #[Operand.tmp 159, Operand.tmp 160], argTypes := #[37, 3] }, type := 3, pos := "header.go:173", after := #[{ on := 21, ground := Ground.data }, { on := 22, ground := Ground.data }, { on := 19, ground := Ground.chain }], guard := none }) rfl (fun K hK => ?_) AllReadyH.nil
      go_simp
      refine (hmo.out _).mono ?_
      rintro e w5 ⟨k5, m2, hm2, rfl⟩
      have q5 := blk_below (w := W.drew) b5.out k5
      have l5 := hb5d.out.trans (k5.mono hb5d.out.size)
      have z_0 : w5.cell? ⟨N, 0, none⟩ = some (.int .u8 p.tf.toNat) := cell_blk q5 rfl
      have z_3 : w5.cell? ⟨N, 3, none⟩ = some (.int .i64 p.size) := cell_blk q5 rfl
      have z_9 : w5.cell? ⟨N, 9, none⟩ = some (.int .i64 p.ms) := cell_blk q5 rfl
      have z_10 : w5.cell? ⟨N, 10, none⟩ = some (.int .i64 p.mn) := cell_blk q5 rfl
      refine hK.out _ _ ?_ (fun hHeld => ?_)
      · exact ⟨z_0, z_3, z_9, z_10⟩
      clear hK K
      try simp only [Act.put, List.setIfInBounds_toArray, List.set_cons_zero, List.set_cons_succ]
      refine wpAnyH_ready (rs := [24]) (by kernel_rfl) (by simp) ?_
      refine AllReadyH.cons (o := { dst := some 162, op := Op.buildSlice 46 3 #[(0, Operand.tmp 138), (1, Operand.tmp 157), (2, Operand.tmp 161)], type := 46, pos := "header.go:173", after := #[{ on := 0, ground := Ground.data }, { on := 19, ground := Ground.data }, { on := 23, ground := Ground.data }], guard := none }) rfl (fun K hK => ?_) AllReadyH.nil
      go_simp
      refine hK.out _ _ ?_ (fun hHeld => ?_)
      · go_keep
      clear hK K
      try simp only [Act.put, List.setIfInBounds_toArray, List.set_cons_zero, List.set_cons_succ]
      refine wpAnyH_ready (rs := [25]) (by kernel_rfl) (by simp) ?_
      refine AllReadyH.cons (o := { dst := some 163, op := Op.call { callee := Callee.value (Operand.func 48), args := #[Operand.tmp 162], argTypes := #[46] }, type := 3, pos := "header.go:173", after := #[{ on := 24, ground := Ground.data }, { on := 23, ground := Ground.chain }], guard := none }) rfl (fun K hK => ?_) AllReadyH.nil
      go_simp
      refine (all_at w5.heap.size 3 [v, m1, m2] _ 3 (by exact heap_alloc_new w5 _) rfl (by omega) (V3.mem3 hv.out hm1 hm2)).mono ?_
      rintro e w7 ⟨rfl, v9, hv9, rfl⟩
      refine hK.out _ _ ?_ (fun hHeld => ?_)
      · exact hHeld
      clear hK K
      try simp only [Act.put, List.setIfInBounds_toArray, List.set_cons_zero, List.set_cons_succ]
      refine takeV (i := 26) (v := ?_) rfl (by kernel_rfl) (fun _ _ _ h => h) (by rfl) ?_ (by assumption) ?_
      rotate_left
      · (intro w hSw; (try dsimp only at hSw); go_simp); all_goals (with_reducible rfl)
      try simp only [Act.put, List.setIfInBounds_toArray, List.set_cons_zero, List.set_cons_succ]
      refine wpAnyH_done (by kernel_rfl) ?_ _
      go_wp2_with fail
      exact hn.out v9 _ _ _ _ _ _ _ _ _ _ _ _ _ _ _ _ _ _ _ _ _ _ _ _ _ _ _ _ _ _ _ _ _ _ _ _ _ _ _ _ _ _ _ _ _ _ _ _ _ _ _ _ _ _ _ _ _ _ _ _ _ _ _ _ _ _ _ _ _ _ _ _ _ _ _ _ _ _ _ _ _ _ _ _ _ _ _ _ _ _ _ _ _ _ _ _ _ _ _ _ _ _ _ _ _ _ _ _ _ _ _ _ _ _ _ _ _ _ _ _ _ _ _ _ _ _ _ _ _ _ _ _ _ _ _ _ _ _ _ _ _ _ _ _ _ _ _ _ _ _ _ _ _ _ _ _ _ _ _ _ _ _ _ _ _ _ _ _ _ _ _ _ _ _ _ _ _ _ _ _ _ _ _ _ _ _ _ _ _ _ _ _ _ _ _ _ _ _ _ _ _ _ _ _ _ _ _ _ _ _ _ _ _ _ _ _ _ _ _ _ _ _ _ _ _ _ _ _ _ _ _ _ _ _ _ _ ((hv9.three hv.out (hm1.mono (fun h => (show szB p F = true from (by rw [hz.out]; first | done | (simpa using h; done) | (simp at h; done)))) (fun h => (show szB p F = false from (by rw [hz.out]; first | done | (simpa using h; done) | (simp at h; done))))) hm2).mono (fun h => h) (fun h => h)) (blk_below q5 ((Below.refl _ _).alloc (Nat.le_refl _) _)) (l5.alloc l5.size _)
    · have s0d : decide (0 ≤ p.size) = false := decide_eq_false s0
      cases db
      · have hz : Asd (szB p F = decide (p.size < 8589934592)) := ⟨by unfold szB; rw [f1', hdb.out]; simp⟩
        go_wp2_with fail
        refine wp_region_held_drew (S := (fun w' => w'.cell? ⟨N, 0, none⟩ = some (.int .u8 p.tf.toNat) ∧ w'.cell? ⟨N, 3, none⟩ = some (.int .i64 p.size) ∧ w'.cell? ⟨N, 9, none⟩ = some (.int .i64 p.ms) ∧ w'.cell? ⟨N, 10, none⟩ = some (.int .i64 p.mn))) (by kernel_rfl) ?_ (fun hHeld => ?_)
        · exact ⟨c_0, c_3, c_9, c_10⟩
        refine takeV (i := 0) (v := ?_) rfl (by kernel_rfl) (fun _ _ _ h => h) (by rfl) ?_ (by assumption) ?_
        rotate_left
        · (intro w hSw; (try dsimp only at hSw); go_simp); all_goals (with_reducible rfl)
        try simp only [Act.put, List.setIfInBounds_toArray, List.set_cons_zero, List.set_cons_succ]
        refine takeV (i := 1) (v := ?_) rfl (by kernel_rfl) (fun _ _ _ h => h) (by rfl) ?_ (by assumption) ?_
        rotate_left
        · (intro w hSw; (try dsimp only at hSw); go_simp); all_goals (with_reducible rfl)
        try simp only [Act.put, List.setIfInBounds_toArray, List.set_cons_zero, List.set_cons_succ]
        refine takeV (i := 2) (v := ?_) rfl (by kernel_rfl) (fun _ _ _ h => h) (by rfl) ?_ (by assumption) ?_
        rotate_left
        · (intro w hSw; (try dsimp only at hSw); go_simp); all_goals (with_reducible rfl)
        try simp only [Act.put, List.setIfInBounds_toArray, List.set_cons_zero, List.set_cons_succ]
        refine takeV (i := 3) (v := ?_) rfl (by kernel_rfl) (fun _ _ _ h => h) (by rfl) ?_ (by assumption) ?_
        rotate_left
        · (intro w hSw; (try dsimp only at hSw); go_simp); all_goals (with_reducible rfl)
        try simp only [Act.put, List.setIfInBounds_toArray, List.set_cons_zero, List.set_cons_succ]
        refine takeV (i := 4) (v := ?_) rfl (by kernel_rfl) (fun _ _ _ h => h) (by rfl) ?_ (by assumption) ?_
        rotate_left
        · (intro w hSw; (try dsimp only at hSw); go_simp); all_goals (with_reducible rfl)
        try simp only [Act.put, List.setIfInBounds_toArray, List.set_cons_zero, List.set_cons_succ]
        refine takeV (i := 20) (v := ?_) rfl (by kernel_rfl) (fun _ _ _ h => h) (by rfl) ?_ (by assumption) ?_
        rotate_left
        · (intro w hSw; (try dsimp only at hSw); go_simp); all_goals (with_reducible rfl)
        try simp only [Act.put, List.setIfInBounds_toArray, List.set_cons_zero, List.set_cons_succ]
        refine takeV (i := 21) (v := ?_) rfl (by kernel_rfl) (fun _ _ _ h => h) (by rfl) ?_ (by assumption) ?_
        rotate_left
        · (intro w hSw; (try dsimp only at hSw); go_simp); all_goals (with_reducible rfl)
        try simp only [Act.put, List.setIfInBounds_toArray, List.set_cons_zero, List.set_cons_succ]
        refine takeV (i := 22) (v := ?_) rfl (by kernel_rfl) (fun _ _ _ h => h) (by rfl) ?_ (by assumption) ?_
        rotate_left
        · (intro w hSw; (try dsimp only at hSw); go_simp); all_goals (with_reducible rfl)
        try simp only [Act.put, List.setIfInBounds_toArray, List.set_cons_zero, List.set_cons_succ]
        refine takeV (i := 5) (v := ?_) rfl (by kernel_rfl) (fun _ _ _ h => h) (by rfl) ?_ (by assumption) ?_
        rotate_left
        · (intro w hSw; (try dsimp only at hSw); go_simp); all_goals (with_reducible rfl)
        try simp only [Act.put, List.setIfInBounds_toArray, List.set_cons_zero, List.set_cons_succ]
        refine takeV (i := 6) (v := ?_) rfl (by kernel_rfl) (fun _ _ _ h => h) (by rfl) ?_ (by assumption) ?_
        rotate_left
        · (intro w hSw; (try dsimp only at hSw); go_simp); all_goals (with_reducible rfl)
        try simp only [Act.put, List.setIfInBounds_toArray, List.set_cons_zero, List.set_cons_succ]
        refine wpAnyH_ready (rs := [7]) (by kernel_rfl) (by simp) ?_
        refine AllReadyH.cons (o := { dst := some 145, op := Op.call { callee := Callee.value (Operand.func 9), args := #[Operand.tmp 144], argTypes := #[5] }, type := 4, pos := "header.go:173", after := #[{ on := 6, ground := Ground.data }, { on := 4, ground := Ground.chain }, { on := 4, ground := Ground.guard }], guard := some (4, false) }) rfl (fun K hK => ?_) AllReadyH.nil
        go_simp
        refine (hdt.out _).mono ?_
        rintro e w4 ⟨rfl, rfl⟩
        refine hK.out _ _ ?_ (fun hHeld => ?_)
        · exact hHeld
        clear hK K
        try simp only [Act.put, List.setIfInBounds_toArray, List.set_cons_zero, List.set_cons_succ]
        refine takeV (i := 8) (v := ?_) rfl (by kernel_rfl) (fun _ _ _ h => h) (by rfl) ?_ (by assumption) ?_
        rotate_left
        · (intro w hSw; (try dsimp only at hSw); go_simp); all_goals (with_reducible rfl)
        try simp only [Act.put, List.setIfInBounds_toArray, List.set_cons_zero, List.set_cons_succ]
        refine takeV (i := 9) (v := ?_) rfl (by kernel_rfl) (fun _ _ _ h => h) (by rfl) ?_ (by assumption) ?_
        rotate_left
        · (intro w hSw; (try dsimp only at hSw); go_simp); all_goals (with_reducible rfl)
        try simp only [Act.put, List.setIfInBounds_toArray, List.set_cons_zero, List.set_cons_succ]
        refine takeV (i := 10) (v := ?_) rfl (by kernel_rfl) (fun _ _ _ h => h) (by rfl) ?_ (by assumption) ?_
        rotate_left
        · (intro w hSw; (try dsimp only at hSw); go_simp); all_goals (with_reducible rfl)
        try simp only [Act.put, List.setIfInBounds_toArray, List.set_cons_zero, List.set_cons_succ]
        refine takeV (i := 11) (v := ?_) rfl (by kernel_rfl) (fun _ _ _ h => h) (by rfl) ?_ (by assumption) ?_
        rotate_left
        · (intro w hSw; (try dsimp only at hSw); go_simp); all_goals (with_reducible rfl)
        try simp only [Act.put, List.setIfInBounds_toArray, List.set_cons_zero, List.set_cons_succ]
        refine takeV (i := 12) (v := ?_) rfl (by kernel_rfl) (fun _ _ _ h => h) (by rfl) ?_ (by assumption) ?_
        rotate_left
        · (intro w hSw; (try dsimp only at hSw); go_simp); all_goals (with_reducible rfl)
        try simp only [Act.put, List.setIfInBounds_toArray, List.set_cons_zero, List.set_cons_succ]
        refine takeV (i := 13) (v := ?_) rfl (by kernel_rfl) (fun _ _ _ h => h) (by rfl) ?_ (by assumption) ?_
        rotate_left
        · (intro w hSw; (try dsimp only at hSw); go_simp); all_goals (with_reducible rfl)
        try simp only [Act.put, List.setIfInBounds_toArray, List.set_cons_zero, List.set_cons_succ]
        refine takeV (i := 14) (v := ?_) rfl (by kernel_rfl) (fun _ _ _ h => h) (by rfl) ?_ (by assumption) ?_
        rotate_left
        · (intro w hSw; (try dsimp only at hSw); go_simp); all_goals (with_reducible rfl)
        try simp only [Act.put, List.setIfInBounds_toArray, List.set_cons_zero, List.set_cons_succ]
        refine takeV (i := 15) (v := ?_) rfl (by kernel_rfl) (fun _ _ _ h => h) (by rfl) ?_ (by assumption) ?_
        rotate_left
        · (intro w hSw; (try dsimp only at hSw); go_simp); all_goals (with_reducible rfl)
        try simp only [Act.put, List.setIfInBounds_toArray, List.set_cons_zero, List.set_cons_succ]
        refine takeV (i := 16) (v := ?_) rfl (by kernel_rfl) (fun _ _ _ h => h) (by rfl) ?_ (by assumption) ?_
        rotate_left
        · (intro w hSw; (try dsimp only at hSw); go_simp); all_goals (with_reducible rfl)
        try simp only [Act.put, List.setIfInBounds_toArray, List.set_cons_zero, List.set_cons_succ]
        refine takeV (i := 17) (v := ?_) rfl (by kernel_rfl) (fun _ _ _ h => h) (by rfl) ?_ (by assumption) ?_
        rotate_left
        · (intro w hSw; (try dsimp only at hSw); go_simp); all_goals (with_reducible rfl)
        try simp only [Act.put, List.setIfInBounds_toArray, List.set_cons_zero, List.set_cons_succ]
        refine takeV (i := 18) (v := ?_) rfl (by kernel_rfl) (fun _ _ _ h => h) (by rfl) ?_ (by assumption) ?_
        rotate_left
        · (intro w hSw; (try dsimp only at hSw); go_simp); all_goals (with_reducible rfl)
        try simp only [Act.put, List.setIfInBounds_toArray, List.set_cons_zero, List.set_cons_succ]
        refine wpAnyH_ready (rs := [19]) (by kernel_rfl) (by simp) ?_
        refine AllReadyH.cons (o := { dst := some 157, op := Op.call { callee := Callee.value (Operand.func 46), args := #[Operand.tmp 156], argTypes := #[4] }, type := 3, pos := "header.go:173", after := #[{ on := 18, ground := Ground.data }, { on := 13, ground := Ground.chain }], guard := none }) rfl (fun K hK => ?_) AllReadyH.nil
        go_simp
        refine (when_any _ _).mono ?_
        rintro e w4 ⟨rfl, m1, hm1, rfl⟩
        refine hK.out _ _ ?_ (fun hHeld => ?_)
        · exact hHeld
        clear hK K
        try simp only [Act.put, List.setIfInBounds_toArray, List.set_cons_zero, List.set_cons_succ]
        refine wpAnyH_ready (rs := [23]) (by kernel_rfl) (by simp) ?_
        refine AllReadyH.cons (o := { dst := some 161, op := Op.call { callee := Callee.value (Operand.func 51), args := #[Operand.tmp 159, Operand.tmp 160], argTypes := #[37, 3] }, type := 3, pos := "header.go:173", after := #[{ on := 21, ground := Ground.data }, { on := 22, ground := Ground.data }, { on := 19, ground := Ground.chain }], guard := none }) rfl (fun K hK => ?_) AllReadyH.nil
        go_simp
        refine (hmo.out _).mono ?_
        rintro e w5 ⟨k5, m2, hm2, rfl⟩
        have q5 := blk_below (w := W.drew) b5.out k5
        have l5 := hb5d.out.trans (k5.mono hb5d.out.size)
        have z_0 : w5.cell? ⟨N, 0, none⟩ = some (.int .u8 p.tf.toNat) := cell_blk q5 rfl
        have z_3 : w5.cell? ⟨N, 3, none⟩ = some (.int .i64 p.size) := cell_blk q5 rfl
        have z_9 : w5.cell? ⟨N, 9, none⟩ = some (.int .i64 p.ms) := cell_blk q5 rfl
        have z_10 : w5.cell? ⟨N, 10, none⟩ = some (.int .i64 p.mn) := cell_blk q5 rfl
        refine hK.out _ _ ?_ (fun hHeld => ?_)
        · exact ⟨z_0, z_3, z_9, z_10⟩
        clear hK K
        try simp only [Act.put, List.setIfInBounds_toArray, List.set_cons_zero, List.set_cons_succ]
        refine wpAnyH_ready (rs := [24]) (by kernel_rfl) (by simp) ?_
        refine AllReadyH.cons (o := { dst := some 162, op := Op.buildSlice 46 3 #[(0, Operand.tmp 138), (1, Operand.tmp 157), (2, Operand.tmp 161)], type := 46, pos := "header.go:173", after := #[{ on := 0, ground := Ground.data }, { on := 19, ground := Ground.data }, { on := 23, ground := Ground.data }], guard := none }) rfl (fun K hK => ?_) AllReadyH.nil
        go_simp
        refine hK.out _ _ ?_ (fun hHeld => ?_)
        · go_keep
        clear hK K
        try simp only [Act.put, List.setIfInBounds_toArray, List.set_cons_zero, List.set_cons_succ]
        refine wpAnyH_ready (rs := [25]) (by kernel_rfl) (by simp) ?_
        refine AllReadyH.cons (o := { dst := some 163, op := Op.call { callee := Callee.value (Operand.func 48), args := #[Operand.tmp 162], argTypes := #[46] }, type := 3, pos := "header.go:173", after := #[{ on := 24, ground := Ground.data }, { on := 23, ground := Ground.chain }], guard := none }) rfl (fun K hK => ?_) AllReadyH.nil
        go_simp
        refine (all_at w5.heap.size 3 [v, m1, m2] _ 3 (by exact heap_alloc_new w5 _) rfl (by omega) (V3.mem3 hv.out hm1 hm2)).mono ?_
        rintro e w7 ⟨rfl, v9, hv9, rfl⟩
        refine hK.out _ _ ?_ (fun hHeld => ?_)
        · exact hHeld
        clear hK K
        try simp only [Act.put, List.setIfInBounds_toArray, List.set_cons_zero, List.set_cons_succ]
        refine takeV (i := 26) (v := ?_) rfl (by kernel_rfl) (fun _ _ _ h => h) (by rfl) ?_ (by assumption) ?_
        rotate_left
        · (intro w hSw; (try dsimp only at hSw); go_simp); all_goals (with_reducible rfl)
        try simp only [Act.put, List.setIfInBounds_toArray, List.set_cons_zero, List.set_cons_succ]
        refine wpAnyH_done (by kernel_rfl) ?_ _
        go_wp2_with fail
        exact hn.out v9 _ _ _ _ _ _ _ _ _ _ _ _ _ _ _ _ _ _ _ _ _ _ _ _ _ _ _ _ _ _ _ _ _ _ _ _ _ _ _ _ _ _ _ _ _ _ _ _ _ _ _ _ _ _ _ _ _ _ _ _ _ _ _ _ _ _ _ _ _ _ _ _ _ _ _ _ _ _ _ _ _ _ _ _ _ _ _ _ _ _ _ _ _ _ _ _ _ _ _ _ _ _ _ _ _ _ _ _ _ _ _ _ _ _ _ _ _ _ _ _ _ _ _ _ _ _ _ _ _ _ _ _ _ _ _ _ _ _ _ _ _ _ _ _ _ _ _ _ _ _ _ _ _ _ _ _ _ _ _ _ _ _ _ _ _ _ _ _ _ _ _ _ _ _ _ _ _ _ _ _ _ _ _ _ _ _ _ _ _ _ _ _ _ _ _ _ _ _ _ _ _ _ _ _ _ _ _ _ _ _ _ _ _ _ _ _ _ _ _ _ _ _ _ _ _ _ _ _ _ _ _ _ _ _ _ _ ((hv9.three hv.out (hm1.mono (fun h => (show szB p F = true from (by rw [hz.out]; first | done | (simpa using h; done) | (simp at h; done)))) (fun h => (show szB p F = false from (by rw [hz.out]; first | done | (simpa using h; done) | (simp at h; done))))) hm2).mono (fun h => h) (fun h => h)) (blk_below q5 ((Below.refl _ _).alloc (Nat.le_refl _) _)) (l5.alloc l5.size _)
      · have hz : Asd (szB p F = false) := ⟨by unfold szB; rw [hdb.out, s0d]; simp⟩
        go_wp2_with fail
        refine wp_region_held_drew (S := (fun w' => w'.cell? ⟨N, 0, none⟩ = some (.int .u8 p.tf.toNat) ∧ w'.cell? ⟨N, 3, none⟩ = some (.int .i64 p.size) ∧ w'.cell? ⟨N, 9, none⟩ = some (.int .i64 p.ms) ∧ w'.cell? ⟨N, 10, none⟩ = some (.int .i64 p.mn))) (by kernel_rfl) ?_ (fun hHeld => ?_)
        · exact ⟨c_0, c_3, c_9, c_10⟩
        refine takeV (i := 0) (v := ?_) rfl (by kernel_rfl) (fun _ _ _ h => h) (by rfl) ?_ (by assumption) ?_
        rotate_left
        · (intro w hSw; (try dsimp only at hSw); go_simp); all_goals (with_reducible rfl)
        try simp only [Act.put, List.setIfInBounds_toArray, List.set_cons_zero, List.set_cons_succ]
        refine takeV (i := 1) (v := ?_) rfl (by kernel_rfl) (fun _ _ _ h => h) (by rfl) ?_ (by assumption) ?_
        rotate_left
        · (intro w hSw; (try dsimp only at hSw); go_simp); all_goals (with_reducible rfl)
        try simp only [Act.put, List.setIfInBounds_toArray, List.set_cons_zero, List.set_cons_succ]
        refine takeV (i := 2) (v := ?_) rfl (by kernel_rfl) (fun _ _ _ h => h) (by rfl) ?_ (by assumption) ?_
        rotate_left
        · (intro w hSw; (try dsimp only at hSw); go_simp); all_goals (with_reducible rfl)
        try simp only [Act.put, List.setIfInBounds_toArray, List.set_cons_zero, List.set_cons_succ]
        refine takeV (i := 3) (v := ?_) rfl (by kernel_rfl) (fun _ _ _ h => h) (by rfl) ?_ (by assumption) ?_
        rotate_left
        · (intro w hSw; (try dsimp only at hSw); go_simp); all_goals (with_reducible rfl)
        try simp only [Act.put, List.setIfInBounds_toArray, List.set_cons_zero, List.set_cons_succ]
        refine takeV (i := 4) (v := ?_) rfl (by kernel_rfl) (fun _ _ _ h => h) (by rfl) ?_ (by assumption) ?_
        rotate_left
        · (intro w hSw; (try dsimp only at hSw); go_simp); all_goals (with_reducible rfl)
        try simp only [Act.put, List.setIfInBounds_toArray, List.set_cons_zero, List.set_cons_succ]
        refine takeV (i := 20) (v := ?_) rfl (by kernel_rfl) (fun _ _ _ h => h) (by rfl) ?_ (by assumption) ?_
        rotate_left
        · (intro w hSw; (try dsimp only at hSw); go_simp); all_goals (with_reducible rfl)
        try simp only [Act.put, List.setIfInBounds_toArray, List.set_cons_zero, List.set_cons_succ]
        refine takeV (i := 21) (v := ?_) rfl (by kernel_rfl) (fun _ _ _ h => h) (by rfl) ?_ (by assumption) ?_
        rotate_left
        · (intro w hSw; (try dsimp only at hSw); go_simp); all_goals (with_reducible rfl)
        try simp only [Act.put, List.setIfInBounds_toArray, List.set_cons_zero, List.set_cons_succ]
        refine takeV (i := 22) (v := ?_) rfl (by kernel_rfl) (fun _ _ _ h => h) (by rfl) ?_ (by assumption) ?_
        rotate_left
        · (intro w hSw; (try dsimp only at hSw); go_simp); all_goals (with_reducible rfl)
        try simp only [Act.put, List.setIfInBounds_toArray, List.set_cons_zero, List.set_cons_succ]
        refine takeV (i := 5) (v := ?_) rfl (by kernel_rfl) (fun _ _ _ h => h) (by rfl) ?_ (by assumption) ?_
        rotate_left
        · (intro w hSw; (try dsimp only at hSw); go_simp); all_goals (with_reducible rfl)
        try simp only [Act.put, List.setIfInBounds_toArray, List.set_cons_zero, List.set_cons_succ]
        refine takeV (i := 6) (v := ?_) rfl (by kernel_rfl) (fun _ _ _ h => h) (by rfl) ?_ (by assumption) ?_
        rotate_left
        · (intro w hSw; (try dsimp only at hSw); go_simp); all_goals (with_reducible rfl)
        try simp only [Act.put, List.setIfInBounds_toArray, List.set_cons_zero, List.set_cons_succ]
        refine wpAnyH_ready (rs := [7]) (by kernel_rfl) (by simp) ?_
        refine AllReadyH.cons (o := { dst := some 145, op := Op.call { callee := Callee.value (Operand.func 9), args := #[Operand.tmp 144], argTypes := #[5] }, type := 4, pos := "header.go:173", after := #[{ on := 6, ground := Ground.data }, { on := 4, ground := Ground.chain }, { on := 4, ground := Ground.guard }], guard := some (4, false) }) rfl (fun K hK => ?_) AllReadyH.nil
        go_simp
        refine (hdt.out _).mono ?_
        rintro e w4 ⟨rfl, rfl⟩
        refine hK.out _ _ ?_ (fun hHeld => ?_)
        · exact hHeld
        clear hK K
        try simp only [Act.put, List.setIfInBounds_toArray, List.set_cons_zero, List.set_cons_succ]
        refine takeV (i := 8) (v := ?_) rfl (by kernel_rfl) (fun _ _ _ h => h) (by rfl) ?_ (by assumption) ?_
        rotate_left
        · (intro w hSw; (try dsimp only at hSw); go_simp); all_goals (with_reducible rfl)
        try simp only [Act.put, List.setIfInBounds_toArray, List.set_cons_zero, List.set_cons_succ]
        refine takeV (i := 9) (v := ?_) rfl (by kernel_rfl) (fun _ _ _ h => h) (by rfl) ?_ (by assumption) ?_
        rotate_left
        · (intro w hSw; (try dsimp only at hSw); go_simp); all_goals (with_reducible rfl)
        try simp only [Act.put, List.setIfInBounds_toArray, List.set_cons_zero, List.set_cons_succ]
        refine takeV (i := 10) (v := ?_) rfl (by kernel_rfl) (fun _ _ _ h => h) (by rfl) ?_ (by assumption) ?_
        rotate_left
        · (intro w hSw; (try dsimp only at hSw); go_simp); all_goals (with_reducible rfl)
        try simp only [Act.put, List.setIfInBounds_toArray, List.set_cons_zero, List.set_cons_succ]
        refine takeU (i := 11) rfl (by kernel_rfl) (fun _ _ _ h => h) (by rfl) (by assumption) ?_
        try simp only [Act.put, List.setIfInBounds_toArray, List.set_cons_zero, List.set_cons_succ]
        refine takeU (i := 12) rfl (by kernel_rfl) (fun _ _ _ h => h) (by rfl) (by assumption) ?_
        try simp only [Act.put, List.setIfInBounds_toArray, List.set_cons_zero, List.set_cons_succ]
        refine takeU (i := 13) rfl (by kernel_rfl) (fun _ _ _ h => h) (by rfl) (by assumption) ?_
        try simp only [Act.put, List.setIfInBounds_toArray, List.set_cons_zero, List.set_cons_succ]
        refine takeU (i := 14) rfl (by kernel_rfl) (fun _ _ _ h => h) (by rfl) (by assumption) ?_
        try simp only [Act.put, List.setIfInBounds_toArray, List.set_cons_zero, List.set_cons_succ]
        refine takeU (i := 15) rfl (by kernel_rfl) (fun _ _ _ h => h) (by rfl) (by assumption) ?_
        try simp only [Act.put, List.setIfInBounds_toArray, List.set_cons_zero, List.set_cons_succ]
        refine takeU (i := 16) rfl (by kernel_rfl) (fun _ _ _ h => h) (by rfl) (by assumption) ?_
        try simp only [Act.put, List.setIfInBounds_toArray, List.set_cons_zero, List.set_cons_succ]
        refine takeU (i := 17) rfl (by kernel_rfl) (fun _ _ _ h => h) (by rfl) (by assumption) ?_
        try simp only [Act.put, List.setIfInBounds_toArray, List.set_cons_zero, List.set_cons_succ]
        refine takeV (i := 18) (v := ?_) rfl (by kernel_rfl) (fun _ _ _ h => h) (by rfl) ?_ (by assumption) ?_
        rotate_left
        · (intro w hSw; (try dsimp only at hSw); go_simp); all_goals (with_reducible rfl)
        try simp only [Act.put, List.setIfInBounds_toArray, List.set_cons_zero, List.set_cons_succ]
        refine wpAnyH_ready (rs := [19]) (by kernel_rfl) (by simp) ?_
        refine AllReadyH.cons (o := { dst := some 157, op := Op.call { callee := Callee.value (Operand.func 46), args := #[Operand.tmp 156], argTypes := #[4] }, type := 3, pos := "header.go:173", after := #[{ on := 18, ground := Ground.data }, { on := 13, ground := Ground.chain }], guard := none }) rfl (fun K hK => ?_) AllReadyH.nil
        go_simp
        refine (when_any _ _).mono ?_
        rintro e w4 ⟨rfl, m1, hm1, rfl⟩
        refine hK.out _ _ ?_ (fun hHeld => ?_)
        · exact hHeld
        clear hK K
        try simp only [Act.put, List.setIfInBounds_toArray, List.set_cons_zero, List.set_cons_succ]
        refine wpAnyH_ready (rs := [23]) (by kernel_rfl) (by simp) ?_
        refine AllReadyH.cons (o := { dst := some 161, op := Op.call { callee := Callee.value (Operand.func 51), args := #[Operand.tmp 159, Operand.tmp 160], argTypes := #[37, 3] }, type := 3, pos := "header.go:173", after := #[{ on := 21, ground := Ground.data }, { on := 22, ground := Ground.data }, { on := 19, ground := Ground.chain }], guard := none }) rfl (fun K hK => ?_) AllReadyH.nil
        go_simp
        refine (hmo.out _).mono ?_
        rintro e w5 ⟨k5, m2, hm2, rfl⟩
        have q5 := blk_below (w := W.drew) b5.out k5
        have l5 := hb5d.out.trans (k5.mono hb5d.out.size)
        have z_0 : w5.cell? ⟨N, 0, none⟩ = some (.int .u8 p.tf.toNat) := cell_blk q5 rfl
        have z_3 : w5.cell? ⟨N, 3, none⟩ = some (.int .i64 p.size) := cell_blk q5 rfl
        have z_9 : w5.cell? ⟨N, 9, none⟩ = some (.int .i64 p.ms) := cell_blk q5 rfl
        have z_10 : w5.cell? ⟨N, 10, none⟩ = some (.int .i64 p.mn) := cell_blk q5 rfl
        refine hK.out _ _ ?_ (fun hHeld => ?_)
        · exact ⟨z_0, z_3, z_9, z_10⟩
        clear hK K
        try simp only [Act.put, List.setIfInBounds_toArray, List.set_cons_zero, List.set_cons_succ]
        refine wpAnyH_ready (rs := [24]) (by kernel_rfl) (by simp) ?_
        refine AllReadyH.cons (o := { dst := some 162, op := Op.buildSlice 46 3 #[(0, Operand.tmp 138), (1, Operand.tmp 157), (2, Operand.tmp 161)], type := 46, pos := "header.go:173", after := #[{ on := 0, ground := Ground.data }, { on := 19, ground := Ground.data }, { on := 23, ground := Ground.data }], guard := none }) rfl (fun K hK => ?_) AllReadyH.nil
        go_simp
        refine hK.out _ _ ?_ (fun hHeld => ?_)
        · go_keep
        clear hK K
        try simp only [Act.put, List.setIfInBounds_toArray, List.set_cons_zero, List.set_cons_succ]
        refine wpAnyH_ready (rs := [25]) (by kernel_rfl) (by simp) ?_
        refine AllReadyH.cons (o := { dst := some 163, op := Op.call { callee := Callee.value (Operand.func 48), args := #[Operand.tmp 162], argTypes := #[46] }, type := 3, pos := "header.go:173", after := #[{ on := 24, ground := Ground.data }, { on := 23, ground := Ground.chain }], guard := none }) rfl (fun K hK => ?_) AllReadyH.nil
        go_simp
        refine (all_at w5.heap.size 3 [v, m1, m2] _ 3 (by exact heap_alloc_new w5 _) rfl (by omega) (V3.mem3 hv.out hm1 hm2)).mono ?_
        rintro e w7 ⟨rfl, v9, hv9, rfl⟩
        refine hK.out _ _ ?_ (fun hHeld => ?_)
        · exact hHeld
        clear hK K
        try simp only [Act.put, List.setIfInBounds_toArray, List.set_cons_zero, List.set_cons_succ]
        refine takeV (i := 26) (v := ?_) rfl (by kernel_rfl) (fun _ _ _ h => h) (by rfl) ?_ (by assumption) ?_
        rotate_left
        · (intro w hSw; (try dsimp only at hSw); go_simp); all_goals (with_reducible rfl)
        try simp only [Act.put, List.setIfInBounds_toArray, List.set_cons_zero, List.set_cons_succ]
        refine wpAnyH_done (by kernel_rfl) ?_ _
        go_wp2_with fail
        exact hn.out v9 _ _ _ _ _ _ _ _ _ _ _ _ _ _ _ _ _ _ _ _ _ _ _ _ _ _ _ _ _ _ _ _ _ _ _ _ _ _ _ _ _ _ _ _ _ _ _ _ _ _ _ _ _ _ _ _ _ _ _ _ _ _ _ _ _ _ _ _ _ _ _ _ _ _ _ _ _ _ _ _ _ _ _ _ _ _ _ _ _ _ _ _ _ _ _ _ _ _ _ _ _ _ _ _ _ _ _ _ _ _ _ _ _ _ _ _ _ _ _ _ _ _ _ _ _ _ _ _ _ _ _ _ _ _ _ _ _ _ _ _ _ _ _ _ _ _ _ _ _ _ _ _ _ _ _ _ _ _ _ _ _ _ _ _ _ _ _ _ _ _ _ _ _ _ _ _ _ _ _ _ _ _ _ _ _ _ _ _ _ _ _ _ _ _ _ _ _ _ _ _ _ _ _ _ _ _ _ _ _ _ _ _ _ _ _ _ _ _ _ _ _ _ _ _ _ _ _ _ _ _ _ _ _ _ _ _ ((hv9.three hv.out (hm1.mono (fun h => (show szB p F = true from (by rw [hz.out]; first | done | (simpa using h; done) | (simp at h; done)))) (fun h => (show szB p F = false from (by rw [hz.out]; first | done | (simpa using h; done) | (simp at h; done))))) hm2).mono (fun h => h) (fun h => h)) (blk_below q5 ((Below.refl _ _).alloc (Nat.le_refl _) _)) (l5.alloc l5.size _)
  · have f1' : (F != 1) = true := by simpa using f1
    clear f1 hF
    by_cases s0 : 0 ≤ p.size
    · have s0d : decide (0 ≤ p.size) = true := decide_eq_true s0
      have hz : Asd (szB p F = true) := ⟨by unfold szB; rw [f1', s0d]; simp⟩
      go_wp2_with fail
      refine wp_region_held_drew (S := (fun w' => w'.cell? ⟨N, 0, none⟩ = some (.int .u8 p.tf.toNat) ∧ w'.cell? ⟨N, 3, none⟩ = some (.int .i64 p.size) ∧ w'.cell? ⟨N, 9, none⟩ = some (.int .i64 p.ms) ∧ w'.cell? ⟨N, 10, none⟩ = some (.int .i64 p.mn))) (by kernel_rfl) ?_ (fun hHeld => ?_)
      · exact ⟨c_0, c_3, c_9, c_10⟩
      refine takeV (i := 0) (v := ?_) rfl (by kernel_rfl) (fun _ _ _ h => h) (by rfl) ?_ (by assumption) ?_
      rotate_left
      · (intro w hSw; (try dsimp only at hSw); go_simp); all_goals (with_reducible rfl)
      try simp only [Act.put, List.setIfInBounds_toArray, List.set_cons_zero, List.set_cons_succ]
      refine takeV (i := 1) (v := ?_) rfl (by kernel_rfl) (fun _ _ _ h => h) (by rfl) ?_ (by assumption) ?_
      rotate_left
      · (intro w hSw; (try dsimp only at hSw); go_simp); all_goals (with_reducible rfl)
      try simp only [Act.put, List.setIfInBounds_toArray, List.set_cons_zero, List.set_cons_succ]
      refine takeV (i := 2) (v := ?_) rfl (by kernel_rfl) (fun _ _ _ h => h) (by rfl) ?_ (by assumption) ?_
      rotate_left
      · (intro w hSw; (try dsimp only at hSw); go_simp); all_goals (with_reducible rfl)
      try simp only [Act.put, List.setIfInBounds_toArray, List.set_cons_zero, List.set_cons_succ]
      refine takeV (i := 3) (v := ?_) rfl (by kernel_rfl) (fun _ _ _ h => h) (by rfl) ?_ (by assumption) ?_
      rotate_left
      · (intro w hSw; (try dsimp only at hSw); go_simp); all_goals (with_reducible rfl)
      try simp only [Act.put, List.setIfInBounds_toArray, List.set_cons_zero, List.set_cons_succ]
      refine takeV (i := 4) (v := ?_) rfl (by kernel_rfl) (fun _ _ _ h => h) (by rfl) ?_ (by assumption) ?_
      rotate_left
      · (intro w hSw; (try dsimp only at hSw); go_simp); all_goals (with_reducible rfl)
      try simp only [Act.put, List.setIfInBounds_toArray, List.set_cons_zero, List.set_cons_succ]
      refine takeV (i := 20) (v := ?_) rfl (by kernel_rfl) (fun _ _ _ h => h) (by rfl) ?_ (by assumption) ?_
      rotate_left
      · (intro w hSw; (try dsimp only at hSw); go_simp); all_goals (with_reducible rfl)
      try simp only [Act.put, List.setIfInBounds_toArray, List.set_cons_zero, List.set_cons_succ]
      refine takeV (i := 21) (v := ?_) rfl (by kernel_rfl) (fun _ _ _ h => h) (by rfl) ?_ (by assumption) ?_
      rotate_left
      · (intro w hSw; (try dsimp only at hSw); go_simp); all_goals (with_reducible rfl)
      try simp only [Act.put, List.setIfInBounds_toArray, List.set_cons_zero, List.set_cons_succ]
      refine takeV (i := 22) (v := ?_) rfl (by kernel_rfl) (fun _ _ _ h => h) (by rfl) ?_ (by assumption) ?_
      rotate_left
      · (intro w hSw; (try dsimp only at hSw); go_simp); all_goals (with_reducible rfl)
      try simp only [Act.put, List.setIfInBounds_toArray, List.set_cons_zero, List.set_cons_succ]
      refine takeU (i := 5) rfl (by kernel_rfl) (fun _ _ _ h => h) (by rfl) (by assumption) ?_
      try simp only [Act.put, List.setIfInBounds_toArray, List.set_cons_zero, List.set_cons_succ]
      refine takeU (i := 6) rfl (by kernel_rfl) (fun _ _ _ h => h) (by rfl) (by assumption) ?_
      try simp only [Act.put, List.setIfInBounds_toArray, List.set_cons_zero, List.set_cons_succ]
      refine takeU (i := 7) rfl (by kernel_rfl) (fun _ _ _ h => h) (by rfl) (by assumption) ?_
      try simp only [Act.put, List.setIfInBounds_toArray, List.set_cons_zero, List.set_cons_succ]
      refine takeU (i := 8) rfl (by kernel_rfl) (fun _ _ _ h => h) (by rfl) (by assumption) ?_
      try simp only [Act.put, List.setIfInBounds_toArray, List.set_cons_zero, List.set_cons_succ]
      refine takeV (i := 9) (v := ?_) rfl (by kernel_rfl) (fun _ _ _ h => h) (by rfl) ?_ (by assumption) ?_
      rotate_left
      · (intro w hSw; (try dsimp only at hSw); go_simp); all_goals (with_reducible rfl)
      try simp only [Act.put, List.setIfInBounds_toArray, List.set_cons_zero, List.set_cons_succ]
      refine takeV (i := 10) (v := ?_) rfl (by kernel_rfl) (fun _ _ _ h => h) (by rfl) ?_ (by assumption) ?_
      rotate_left
      · (intro w hSw; (try dsimp only at hSw); go_simp); all_goals (with_reducible rfl)
      try simp only [Act.put, List.setIfInBounds_toArray, List.set_cons_zero, List.set_cons_succ]
      refine takeV (i := 11) (v := ?_) rfl (by kernel_rfl) (fun _ _ _ h => h) (by rfl) ?_ (by assumption) ?_
      rotate_left
      · (intro w hSw; (try dsimp only at hSw); go_simp); all_goals (with_reducible rfl)
      try simp only [Act.put, List.setIfInBounds_toArray, List.set_cons_zero, List.set_cons_succ]
      refine takeV (i := 12) (v := ?_) rfl (by kernel_rfl) (fun _ _ _ h => h) (by rfl) ?_ (by assumption) ?_
      rotate_left
      · (intro w hSw; (try dsimp only at hSw); go_simp); all_goals (with_reducible rfl)
      try simp only [Act.put, List.setIfInBounds_toArray, List.set_cons_zero, List.set_cons_succ]
      refine takeV (i := 13) (v := ?_) rfl (by kernel_rfl) (fun _ _ _ h => h) (by rfl) ?_ (by assumption) ?_
      rotate_left
      · (intro w hSw; (try dsimp only at hSw); go_simp); all_goals (with_reducible rfl)
      try simp only [Act.put, List.setIfInBounds_toArray, List.set_cons_zero, List.set_cons_succ]
      refine takeU (i := 14) rfl (by kernel_rfl) (fun _ _ _ h => h) (by rfl) (by assumption) ?_
      try simp only [Act.put, List.setIfInBounds_toArray, List.set_cons_zero, List.set_cons_succ]
      refine takeU (i := 15) rfl (by kernel_rfl) (fun _ _ _ h => h) (by rfl) (by assumption) ?_
      try simp only [Act.put, List.setIfInBounds_toArray, List.set_cons_zero, List.set_cons_succ]
      refine takeU (i := 16) rfl (by kernel_rfl) (fun _ _ _ h => h) (by rfl) (by assumption) ?_
      try simp only [Act.put, List.setIfInBounds_toArray, List.set_cons_zero, List.set_cons_succ]
      refine takeV (i := 17) (v := ?_) rfl (by kernel_rfl) (fun _ _ _ h => h) (by rfl) ?_ (by assumption) ?_
      rotate_left
      · (intro w hSw; (try dsimp only at hSw); go_simp); all_goals (with_reducible rfl)
      try simp only [Act.put, List.setIfInBounds_toArray, List.set_cons_zero, List.set_cons_succ]
      refine takeV (i := 18) (v := ?_) rfl (by kernel_rfl) (fun _ _ _ h => h) (by rfl) ?_ (by assumption) ?_
      rotate_left
      · (intro w hSw; (try dsimp only at hSw); go_simp); all_goals (with_reducible rfl)
      try simp only [Act.put, List.setIfInBounds_toArray, List.set_cons_zero, List.set_cons_succ]
      refine wpAnyH_ready (rs := [19]) (by kernel_rfl) (by simp) ?_
      refine AllReadyH.cons (o := { dst := some 157, op := Op.call { callee := Callee.value (Operand.func 46), args := #[Operand.tmp 156], argTypes := #[4] }, type := 3, pos := "header.go:173", after := #[{ on := 18, ground := Ground.data }, { on := 13, ground := Ground.chain }], guard := none }) rfl (fun K hK => ?_) AllReadyH.nil
      go_simp
      refine (when_any _ _).mono ?_
      rintro e w4 ⟨rfl, m1, hm1, rfl⟩
      refine hK.out _ _ ?_ (fun hHeld => ?_)
      · exact hHeld
      clear hK K
      try simp only [Act.put, List.setIfInBounds_toArray, List.set_cons_zero, List.set_cons_succ]
      refine wpAnyH_ready (rs := [23]) (by kernel_rfl) (by simp) ?_
      refine AllReadyH.cons (o := { dst := some 161, op := Op.call { callee := Callee.value (Operand.func 51), args := #[Operand.tmp 159, Operand.tmp 160], argTypes := #[37, 3] }, type := 3, pos := "header.go:173", after := #[{ on := 21, ground := Ground.data }, { on := 22, ground := Ground.data }, { on := 19, ground := Ground.chain }], guard := none }) rfl (fun K hK => ?_) AllReadyH.nil
      go_simp
      refine (hmo.out _).mono ?_
      rintro e w5 ⟨k5, m2, hm2, rfl⟩
      have q5 := blk_below (w := W.drew) b5.out k5
      have l5 := hb5d.out.trans (k5.mono hb5d.out.size)
      have z_0 : w5.cell? ⟨N, 0, none⟩ = some (.int .u8 p.tf.toNat) := cell_blk q5 rfl
      have z_3 : w5.cell? ⟨N, 3, none⟩ = some (.int .i64 p.size) := cell_blk q5 rfl
      have z_9 : w5.cell? ⟨N, 9, none⟩ = some (.int .i64 p.ms) := cell_blk q5 rfl
      have z_10 : w5.cell? ⟨N, 10, none⟩ = some (.int .i64 p.mn) := cell_blk q5 rfl
      refine hK.out _ _ ?_ (fun hHeld => ?_)
      · exact ⟨z_0, z_3, z_9, z_10⟩
      clear hK K
      try simp only [Act.put, List.setIfInBounds_toArray, List.set_cons_zero, List.set_cons_succ]
      refine wpAnyH_ready (rs := [24]) (by kernel_rfl) (by simp) ?_
      refine AllReadyH.cons (o := { dst := some 162, op := Op.buildSlice 46 3 #[(0, Operand.tmp 138), (1, Operand.tmp 157), (2, Operand.tmp 161)], type := 46, pos := "header.go:173", after := #[{ on := 0, ground := Ground.data }, { on := 19, ground := Ground.data }, { on := 23, ground := Ground.data }], guard := none }) rfl (fun K hK => ?_) AllReadyH.nil
      go_simp
      refine hK.out _ _ ?_ (fun hHeld => ?_)
      · go_keep
      clear hK K
      try simp only [Act.put, List.setIfInBounds_toArray, List.set_cons_zero, List.set_cons_succ]
      refine wpAnyH_ready (rs := [25]) (by kernel_rfl) (by simp) ?_
      refine AllReadyH.cons (o := { dst := some 163, op := Op.call { callee := Callee.value (Operand.func 48), args := #[Operand.tmp 162], argTypes := #[46] }, type := 3, pos := "header.go:173", after := #[{ on := 24, ground := Ground.data }, { on := 23, ground := Ground.chain }], guard := none }) rfl (fun K hK => ?_) AllReadyH.nil
      go_simp
      refine (all_at w5.heap.size 3 [v, m1, m2] _ 3 (by exact heap_alloc_new w5 _) rfl (by omega) (V3.mem3 hv.out hm1 hm2)).mono ?_
      rintro e w7 ⟨rfl, v9, hv9, rfl⟩
      refine hK.out _ _ ?_ (fun hHeld => ?_)
      · exact hHeld
      clear hK K
      try simp only [Act.put, List.setIfInBounds_toArray, List.set_cons_zero, List.set_cons_succ]
      refine takeV (i := 26) (v := ?_) rfl (by kernel_rfl) (fun _ _ _ h => h) (by rfl) ?_ (by assumption) ?_
      rotate_left
      · (intro w hSw; (try dsimp only at hSw); go_simp); all_goals (with_reducible rfl)
      try simp only [Act.put, List.setIfInBounds_toArray, List.set_cons_zero, List.set_cons_succ]
      refine wpAnyH_done (by kernel_rfl) ?_ _
      go_wp2_with fail
      exact hn.out v9 _ _ _ _ _ _ _ _ _ _ _ _ _ _ _ _ _ _ _ _ _ _ _ _ _ _ _ _ _ _ _ _ _ _ _ _ _ _ _ _ _ _ _ _ _ _ _ _ _ _ _ _ _ _ _ _ _ _ _ _ _ _ _ _ _ _ _ _ _ _ _ _ _ _ _ _ _ _ _ _ _ _ _ _ _ _ _ _ _ _ _ _ _ _ _ _ _ _ _ _ _ _ _ _ _ _ _ _ _ _ _ _ _ _ _ _ _ _ _ _ _ _ _ _ _ _ _ _ _ _ _ _ _ _ _ _ _ _ _ _ _ _ _ _ _ _ _ _ _ _ _ _ _ _ _ _ _ _ _ _ _ _ _ _ _ _ _ _ _ _ _ _ _ _ _ _ _ _ _ _ _ _ _ _ _ _ _ _ _ _ _ _ _ _ _ _ _ _ _ _ _ _ _ _ _ _ _ _ _ _ _ _ _ _ _ _ _ _ _ _ _ _ _ _ _ _ _ _ _ _ _ _ _ _ _ _ ((hv9.three hv.out (hm1.mono (fun h => (show szB p F = true from (by rw [hz.out]; first | done | (simpa using h; done) | (simp at h; done)))) (fun h => (show szB p F = false from (by rw [hz.out]; first | done | (simpa using h; done) | (simp at h; done))))) hm2).mono (fun h => h) (fun h => h)) (blk_below q5 ((Below.refl _ _).alloc (Nat.le_refl _) _)) (l5.alloc l5.size _)
    · have s0d : decide (0 ≤ p.size) = false := decide_eq_false s0
      cases db
      · have hz : Asd (szB p F = true) := ⟨by unfold szB; rw [f1', hdb.out]; simp⟩
        go_wp2_with fail
        refine wp_region_held_drew (S := (fun w' => w'.cell? ⟨N, 0, none⟩ = some (.int .u8 p.tf.toNat) ∧ w'.cell? ⟨N, 3, none⟩ = some (.int .i64 p.size) ∧ w'.cell? ⟨N, 9, none⟩ = some (.int .i64 p.ms) ∧ w'.cell? ⟨N, 10, none⟩ = some (.int .i64 p.mn))) (by kernel_rfl) ?_ (fun hHeld => ?_)
        · exact ⟨c_0, c_3, c_9, c_10⟩
        refine takeV (i := 0) (v := ?_) rfl (by kernel_rfl) (fun _ _ _ h => h) (by rfl) ?_ (by assumption) ?_
        rotate_left
        · (intro w hSw; (try dsimp only at hSw); go_simp); all_goals (with_reducible rfl)
        try simp only [Act.put, List.setIfInBounds_toArray, List.set_cons_zero, List.set_cons_succ]
        refine takeV (i := 1) (v := ?_) rfl (by kernel_rfl) (fun _ _ _ h => h) (by rfl) ?_ (by assumption) ?_
        rotate_left
        · (intro w hSw; (try dsimp only at hSw); go_simp); all_goals (with_reducible rfl)
        try simp only [Act.put, List.setIfInBounds_toArray, List.set_cons_zero, List.set_cons_succ]
        refine takeV (i := 2) (v := ?_) rfl (by kernel_rfl) (fun _ _ _ h => h) (by rfl) ?_ (by assumption) ?_
        rotate_left
        · (intro w hSw; (try dsimp only at hSw); go_simp); all_goals (with_reducible rfl)
        try simp only [Act.put, List.setIfInBounds_toArray, List.set_cons_zero, List.set_cons_succ]
        refine takeV (i := 3) (v := ?_) rfl (by kernel_rfl) (fun _ _ _ h => h) (by rfl) ?_ (by assumption) ?_
        rotate_left
        · (intro w hSw; (try dsimp only at hSw); go_simp); all_goals (with_reducible rfl)
        try simp only [Act.put, List.setIfInBounds_toArray, List.set_cons_zero, List.set_cons_succ]
        refine takeV (i := 4) (v := ?_) rfl (by kernel_rfl) (fun _ _ _ h => h) (by rfl) ?_ (by assumption) ?_
        rotate_left
        · (intro w hSw; (try dsimp only at hSw); go_simp); all_goals (with_reducible rfl)
        try simp only [Act.put, List.setIfInBounds_toArray, List.set_cons_zero, List.set_cons_succ]
        refine takeV (i := 20) (v := ?_) rfl (by kernel_rfl) (fun _ _ _ h => h) (by rfl) ?_ (by assumption) ?_
        rotate_left
        · (intro w hSw; (try dsimp only at hSw); go_simp); all_goals (with_reducible rfl)
        try simp only [Act.put, List.setIfInBounds_toArray, List.set_cons_zero, List.set_cons_succ]
        refine takeV (i := 21) (v := ?_) rfl (by kernel_rfl) (fun _ _ _ h => h) (by rfl) ?_ (by assumption) ?_
        rotate_left
        · (intro w hSw; (try dsimp only at hSw); go_simp); all_goals (with_reducible rfl)
        try simp only [Act.put, List.setIfInBounds_toArray, List.set_cons_zero, List.set_cons_succ]
        refine takeV (i := 22) (v := ?_) rfl (by kernel_rfl) (fun _ _ _ h => h) (by rfl) ?_ (by assumption) ?_
        rotate_left
        · (intro w hSw; (try dsimp only at hSw); go_simp); all_goals (with_reducible rfl)
        try simp only [Act.put, List.setIfInBounds_toArray, List.set_cons_zero, List.set_cons_succ]
        refine takeV (i := 5) (v := ?_) rfl (by kernel_rfl) (fun _ _ _ h => h) (by rfl) ?_ (by assumption) ?_
        rotate_left
        · (intro w hSw; (try dsimp only at hSw); go_simp); all_goals (with_reducible rfl)
        try simp only [Act.put, List.setIfInBounds_toArray, List.set_cons_zero, List.set_cons_succ]
        refine takeV (i := 6) (v := ?_) rfl (by kernel_rfl) (fun _ _ _ h => h) (by rfl) ?_ (by assumption) ?_
        rotate_left
        · (intro w hSw; (try dsimp only at hSw); go_simp); all_goals (with_reducible rfl)
        try simp only [Act.put, List.setIfInBounds_toArray, List.set_cons_zero, List.set_cons_succ]
        refine wpAnyH_ready (rs := [7]) (by kernel_rfl) (by simp) ?_
        refine AllReadyH.cons (o := { dst := some 145, op := Op.call { callee := Callee.value (Operand.func 9), args := #[Operand.tmp 144], argTypes := #[5] }, type := 4, pos := "header.go:173", after := #[{ on := 6, ground := Ground.data }, { on := 4, ground := Ground.chain }, { on := 4, ground := Ground.guard }], guard := some (4, false) }) rfl (fun K hK => ?_) AllReadyH.nil
        go_simp
        refine (hdt.out _).mono ?_
        rintro e w4 ⟨rfl, rfl⟩
        refine hK.out _ _ ?_ (fun hHeld => ?_)
        · exact hHeld
        clear hK K
        try simp only [Act.put, List.setIfInBounds_toArray, List.set_cons_zero, List.set_cons_succ]
        refine takeV (i := 8) (v := ?_) rfl (by kernel_rfl) (fun _ _ _ h => h) (by rfl) ?_ (by assumption) ?_
        rotate_left
        · (intro w hSw; (try dsimp only at hSw); go_simp); all_goals (with_reducible rfl)
        try simp only [Act.put, List.setIfInBounds_toArray, List.set_cons_zero, List.set_cons_succ]
        refine takeV (i := 9) (v := ?_) rfl (by kernel_rfl) (fun _ _ _ h => h) (by rfl) ?_ (by assumption) ?_
        rotate_left
        · (intro w hSw; (try dsimp only at hSw); go_simp); all_goals (with_reducible rfl)
        try simp only [Act.put, List.setIfInBounds_toArray, List.set_cons_zero, List.set_cons_succ]
        refine takeV (i := 10) (v := ?_) rfl (by kernel_rfl) (fun _ _ _ h => h) (by rfl) ?_ (by assumption) ?_
        rotate_left
        · (intro w hSw; (try dsimp only at hSw); go_simp); all_goals (with_reducible rfl)
        try simp only [Act.put, List.setIfInBounds_toArray, List.set_cons_zero, List.set_cons_succ]
        refine takeV (i := 11) (v := ?_) rfl (by kernel_rfl) (fun _ _ _ h => h) (by rfl) ?_ (by assumption) ?_
        rotate_left
        · (intro w hSw; (try dsimp only at hSw); go_simp); all_goals (with_reducible rfl)
        try simp only [Act.put, List.setIfInBounds_toArray, List.set_cons_zero, List.set_cons_succ]
        refine takeV (i := 12) (v := ?_) rfl (by kernel_rfl) (fun _ _ _ h => h) (by rfl) ?_ (by assumption) ?_
        rotate_left
        · (intro w hSw; (try dsimp only at hSw); go_simp); all_goals (with_reducible rfl)
        try simp only [Act.put, List.setIfInBounds_toArray, List.set_cons_zero, List.set_cons_succ]
        refine takeV (i := 13) (v := ?_) rfl (by kernel_rfl) (fun _ _ _ h => h) (by rfl) ?_ (by assumption) ?_
        rotate_left
        · (intro w hSw; (try dsimp only at hSw); go_simp); all_goals (with_reducible rfl)
        try simp only [Act.put, List.setIfInBounds_toArray, List.set_cons_zero, List.set_cons_succ]
        refine takeU (i := 14) rfl (by kernel_rfl) (fun _ _ _ h => h) (by rfl) (by assumption) ?_
        try simp only [Act.put, List.setIfInBounds_toArray, List.set_cons_zero, List.set_cons_succ]
        refine takeU (i := 15) rfl (by kernel_rfl) (fun _ _ _ h => h) (by rfl) (by assumption) ?_
        try simp only [Act.put, List.setIfInBounds_toArray, List.set_cons_zero, List.set_cons_succ]
        refine takeU (i := 16) rfl (by kernel_rfl) (fun _ _ _ h => h) (by rfl) (by assumption) ?_
        try simp only [Act.put, List.setIfInBounds_toArray, List.set_cons_zero, List.set_cons_succ]
        refine takeV (i := 17) (v := ?_) rfl (by kernel_rfl) (fun _ _ _ h => h) (by rfl) ?_ (by assumption) ?_
        rotate_left
        · (intro w hSw; (try dsimp only at hSw); go_simp); all_goals (with_reducible rfl)
        try simp only [Act.put, List.setIfInBounds_toArray, List.set_cons_zero, List.set_cons_succ]
        refine takeV (i := 18) (v := ?_) rfl (by kernel_rfl) (fun _ _ _ h => h) (by rfl) ?_ (by assumption) ?_
        rotate_left
        · (intro w hSw; (try dsimp only at hSw); go_simp); all_goals (with_reducible rfl)
        try simp only [Act.put, List.setIfInBounds_toArray, List.set_cons_zero, List.set_cons_succ]
        refine wpAnyH_ready (rs := [19]) (by kernel_rfl) (by simp) ?_
        refine AllReadyH.cons (o := { dst := some 157, op := Op.call { callee := Callee.value (Operand.func 46), args := #[Operand.tmp 156], argTypes := #[4] }, type := 3, pos := "header.go:173", after := #[{ on := 18, ground := Ground.data }, { on := 13, ground := Ground.chain }], guard := none }) rfl (fun K hK => ?_) AllReadyH.nil
        go_simp
        refine (when_any _ _).mono ?_
        rintro e w4 ⟨rfl, m1, hm1, rfl⟩
        refine hK.out _ _ ?_ (fun hHeld => ?_)
        · exact hHeld
        clear hK K
        try simp only [Act.put, List.setIfInBounds_toArray, List.set_cons_zero, List.set_cons_succ]
        refine wpAnyH_ready (rs := [23]) (by kernel_rfl) (by simp) ?_
        refine AllReadyH.cons (o := { dst := some 161, op := Op.call { callee := Callee.value (Operand.func 51), args := #[Operand.tmp 159, Operand.tmp 160], argTypes := #[37, 3] }, type := 3, pos := "header.go:173", after := #[{ on := 21, ground := Ground.data }, { on := 22, ground := Ground.data }, { on := 19, ground := Ground.chain }], guard := none }) rfl (fun K hK => ?_) AllReadyH.nil
        go_simp
        refine (hmo.out _).mono ?_
        rintro e w5 ⟨k5, m2, hm2, rfl⟩
        have q5 := blk_below (w := W.drew) b5.out k5
        have l5 := hb5d.out.trans (k5.mono hb5d.out.size)
        have z_0 : w5.cell? ⟨N, 0, none⟩ = some (.int .u8 p.tf.toNat) := cell_blk q5 rfl
        have z_3 : w5.cell? ⟨N, 3, none⟩ = some (.int .i64 p.size) := cell_blk q5 rfl
        have z_9 : w5.cell? ⟨N, 9, none⟩ = some (.int .i64 p.ms) := cell_blk q5 rfl
        have z_10 : w5.cell? ⟨N, 10, none⟩ = some (.int .i64 p.mn) := cell_blk q5 rfl
        refine hK.out _ _ ?_ (fun hHeld => ?_)
        · exact ⟨z_0, z_3, z_9, z_10⟩
        clear hK K
        try simp only [Act.put, List.setIfInBounds_toArray, List.set_cons_zero, List.set_cons_succ]
        refine wpAnyH_ready (rs := [24]) (by kernel_rfl) (by simp) ?_
        refine AllReadyH.cons (o := { dst := some 162, op := Op.buildSlice 46 3 #[(0, Operand.tmp 138), (1, Operand.tmp 157), (2, Operand.tmp 161)], type := 46, pos := "header.go:173", after := #[{ on := 0, ground := Ground.data }, { on := 19, ground := Ground.data }, { on := 23, ground := Ground.data }], guard := none }) rfl (fun K hK => ?_) AllReadyH.nil
        go_simp
        refine hK.out _ _ ?_ (fun hHeld => ?_)
        · go_keep
        clear hK K
        try simp only [Act.put, List.setIfInBounds_toArray, List.set_cons_zero, List.set_cons_succ]
        refine wpAnyH_ready (rs := [25]) (by kernel_rfl) (by simp) ?_
        refine AllReadyH.cons (o := { dst := some 163, op := Op.call { callee := Callee.value (Operand.func 48), args := #[Operand.tmp 162], argTypes := #[46] }, type := 3, pos := "header.go:173", after := #[{ on := 24, ground := Ground.data }, { on := 23, ground := Ground.chain }], guard := none }) rfl (fun K hK => ?_) AllReadyH.nil
        go_simp
        refine (all_at w5.heap.size 3 [v, m1, m2] _ 3 (by exact heap_alloc_new w5 _) rfl (by omega) (V3.mem3 hv.out hm1 hm2)).mono ?_
        rintro e w7 ⟨rfl, v9, hv9, rfl⟩
        refine hK.out _ _ ?_ (fun hHeld => ?_)
        · exact hHeld
        clear hK K
        try simp only [Act.put, List.setIfInBounds_toArray, List.set_cons_zero, List.set_cons_succ]
        refine takeV (i := 26) (v := ?_) rfl (by kernel_rfl) (fun _ _ _ h => h) (by rfl) ?_ (by assumption) ?_
        rotate_left
        · (intro w hSw; (try dsimp only at hSw); go_simp); all_goals (with_reducible rfl)
        try simp only [Act.put, List.setIfInBounds_toArray, List.set_cons_zero, List.set_cons_succ]
        refine wpAnyH_done (by kernel_rfl) ?_ _
        go_wp2_with fail
        exact hn.out v9 _ _ _ _ _ _ _ _ _ _ _ _ _ _ _ _ _ _ _ _ _ _ _ _ _ _ _ _ _ _ _ _ _ _ _ _ _ _ _ _ _ _ _ _ _ _ _ _ _ _ _ _ _ _ _ _ _ _ _ _ _ _ _ _ _ _ _ _ _ _ _ _ _ _ _ _ _ _ _ _ _ _ _ _ _ _ _ _ _ _ _ _ _ _ _ _ _ _ _ _ _ _ _ _ _ _ _ _ _ _ _ _ _ _ _ _ _ _ _ _ _ _ _ _ _ _ _ _ _ _ _ _ _ _ _ _ _ _ _ _ _ _ _ _ _ _ _ _ _ _ _ _ _ _ _ _ _ _ _ _ _ _ _ _ _ _ _ _ _ _ _ _ _ _ _ _ _ _ _ _ _ _ _ _ _ _ _ _ _ _ _ _ _ _ _ _ _ _ _ _ _ _ _ _ _ _ _ _ _ _ _ _ _ _ _ _ _ _ _ _ _ _ _ _ _ _ _ _ _ _ _ _ _ _ _ _ ((hv9.three hv.out (hm1.mono (fun h => (show szB p F = true from (by rw [hz.out]; first | done | (simpa using h; done) | (simp at h; done)))) (fun h => (show szB p F = false from (by rw [hz.out]; first | done | (simpa using h; done) | (simp at h; done))))) hm2).mono (fun h => h) (fun h => h)) (blk_below q5 ((Below.refl _ _).alloc (Nat.le_refl _) _)) (l5.alloc l5.size _)
      · have hz : Asd (szB p F = false) := ⟨by unfold szB; rw [hdb.out, s0d]; simp⟩
        go_wp2_with fail
        refine wp_region_held_drew (S := (fun w' => w'.cell? ⟨N, 0, none⟩ = some (.int .u8 p.tf.toNat) ∧ w'.cell? ⟨N, 3, none⟩ = some (.int .i64 p.size) ∧ w'.cell? ⟨N, 9, none⟩ = some (.int .i64 p.ms) ∧ w'.cell? ⟨N, 10, none⟩ = some (.int .i64 p.mn))) (by kernel_rfl) ?_ (fun hHeld => ?_)
        · exact ⟨c_0, c_3, c_9, c_10⟩
        refine takeV (i := 0) (v := ?_) rfl (by kernel_rfl) (fun _ _ _ h => h) (by rfl) ?_ (by assumption) ?_
        rotate_left
        · (intro w hSw; (try dsimp only at hSw); go_simp); all_goals (with_reducible rfl)
        try simp only [Act.put, List.setIfInBounds_toArray, List.set_cons_zero, List.set_cons_succ]
        refine takeV (i := 1) (v := ?_) rfl (by kernel_rfl) (fun _ _ _ h => h) (by rfl) ?_ (by assumption) ?_
        rotate_left
        · (intro w hSw; (try dsimp only at hSw); go_simp); all_goals (with_reducible rfl)
        try simp only [Act.put, List.setIfInBounds_toArray, List.set_cons_zero, List.set_cons_succ]
        refine takeV (i := 2) (v := ?_) rfl (by kernel_rfl) (fun _ _ _ h => h) (by rfl) ?_ (by assumption) ?_
        rotate_left
        · (intro w hSw; (try dsimp only at hSw); go_simp); all_goals (with_reducible rfl)
        try simp only [Act.put, List.setIfInBounds_toArray, List.set_cons_zero, List.set_cons_succ]
        refine takeV (i := 3) (v := ?_) rfl (by kernel_rfl) (fun _ _ _ h => h) (by rfl) ?_ (by assumption) ?_
        rotate_left
        · (intro w hSw; (try dsimp only at hSw); go_simp); all_goals (with_reducible rfl)
        try simp only [Act.put, List.setIfInBounds_toArray, List.set_cons_zero, List.set_cons_succ]
        refine takeV (i := 4) (v := ?_) rfl (by kernel_rfl) (fun _ _ _ h => h) (by rfl) ?_ (by assumption) ?_
        rotate_left
        · (intro w hSw; (try dsimp only at hSw); go_simp); all_goals (with_reducible rfl)
        try simp only [Act.put, List.setIfInBounds_toArray, List.set_cons_zero, List.set_cons_succ]
        refine takeV (i := 20) (v := ?_) rfl (by kernel_rfl) (fun _ _ _ h => h) (by rfl) ?_ (by assumption) ?_
        rotate_left
        · (intro w hSw; (try dsimp only at hSw); go_simp); all_goals (with_reducible rfl)
        try simp only [Act.put, List.setIfInBounds_toArray, List.set_cons_zero, List.set_cons_succ]
        refine takeV (i := 21) (v := ?_) rfl (by kernel_rfl) (fun _ _ _ h => h) (by rfl) ?_ (by assumption) ?_
        rotate_left
        · (intro w hSw; (try dsimp only at hSw); go_simp); all_goals (with_reducible rfl)
        try simp only [Act.put, List.setIfInBounds_toArray, List.set_cons_zero, List.set_cons_succ]
        refine takeV (i := 22) (v := ?_) rfl (by kernel_rfl) (fun _ _ _ h => h) (by rfl) ?_ (by assumption) ?_
        rotate_left
        · (intro w hSw; (try dsimp only at hSw); go_simp); all_goals (with_reducible rfl)
        try simp only [Act.put, List.setIfInBounds_toArray, List.set_cons_zero, List.set_cons_succ]
        refine takeV (i := 5) (v := ?_) rfl (by kernel_rfl) (fun _ _ _ h => h) (by rfl) ?_ (by assumption) ?_
        rotate_left
        · (intro w hSw; (try dsimp only at hSw); go_simp); all_goals (with_reducible rfl)
        try simp only [Act.put, List.setIfInBounds_toArray, List.set_cons_zero, List.set_cons_succ]
        refine takeV (i := 6) (v := ?_) rfl (by kernel_rfl) (fun _ _ _ h => h) (by rfl) ?_ (by assumption) ?_
        rotate_left
        · (intro w hSw; (try dsimp only at hSw); go_simp); all_goals (with_reducible rfl)
        try simp only [Act.put, List.setIfInBounds_toArray, List.set_cons_zero, List.set_cons_succ]
        refine wpAnyH_ready (rs := [7]) (by kernel_rfl) (by simp) ?_
        refine AllReadyH.cons (o := { dst := some 145, op := Op.call { callee := Callee.value (Operand.func 9), args := #[Operand.tmp 144], argTypes := #[5] }, type := 4, pos := "header.go:173", after := #[{ on := 6, ground := Ground.data }, { on := 4, ground := Ground.chain }, { on := 4, ground := Ground.guard }], guard := some (4, false) }) rfl (fun K hK => ?_) AllReadyH.nil
        go_simp
        refine (hdt.out _).mono ?_
        rintro e w4 ⟨rfl, rfl⟩
        refine hK.out _ _ ?_ (fun hHeld => ?_)
        · exact hHeld
        clear hK K
        try simp only [Act.put, List.setIfInBounds_toArray, List.set_cons_zero, List.set_cons_succ]
        refine takeV (i := 8) (v := ?_) rfl (by kernel_rfl) (fun _ _ _ h => h) (by rfl) ?_ (by assumption) ?_
        rotate_left
        · (intro w hSw; (try dsimp only at hSw); go_simp); all_goals (with_reducible rfl)
        try simp only [Act.put, List.setIfInBounds_toArray, List.set_cons_zero, List.set_cons_succ]
        refine takeV (i := 9) (v := ?_) rfl (by kernel_rfl) (fun _ _ _ h => h) (by rfl) ?_ (by assumption) ?_
        rotate_left
        · (intro w hSw; (try dsimp only at hSw); go_simp); all_goals (with_reducible rfl)
        try simp only [Act.put, List.setIfInBounds_toArray, List.set_cons_zero, List.set_cons_succ]
        refine takeV (i := 10) (v := ?_) rfl (by kernel_rfl) (fun _ _ _ h => h) (by rfl) ?_ (by assumption) ?_
        rotate_left
        · (intro w hSw; (try dsimp only at hSw); go_simp); all_goals (with_reducible rfl)
        try simp only [Act.put, List.setIfInBounds_toArray, List.set_cons_zero, List.set_cons_succ]
        refine takeU (i := 11) rfl (by kernel_rfl) (fun _ _ _ h => h) (by rfl) (by assumption) ?_
        try simp only [Act.put, List.setIfInBounds_toArray, List.set_cons_zero, List.set_cons_succ]
        refine takeU (i := 12) rfl (by kernel_rfl) (fun _ _ _ h => h) (by rfl) (by assumption) ?_
        try simp only [Act.put, List.setIfInBounds_toArray, List.set_cons_zero, List.set_cons_succ]
        refine takeU (i := 13) rfl (by kernel_rfl) (fun _ _ _ h => h) (by rfl) (by assumption) ?_
        try simp only [Act.put, List.setIfInBounds_toArray, List.set_cons_zero, List.set_cons_succ]
        refine takeU (i := 14) rfl (by kernel_rfl) (fun _ _ _ h => h) (by rfl) (by assumption) ?_
        try simp only [Act.put, List.setIfInBounds_toArray, List.set_cons_zero, List.set_cons_succ]
        refine takeU (i := 15) rfl (by kernel_rfl) (fun _ _ _ h => h) (by rfl) (by assumption) ?_
        try simp only [Act.put, List.setIfInBounds_toArray, List.set_cons_zero, List.set_cons_succ]
        refine takeU (i := 16) rfl (by kernel_rfl) (fun _ _ _ h => h) (by rfl) (by assumption) ?_
        try simp only [Act.put, List.setIfInBounds_toArray, List.set_cons_zero, List.set_cons_succ]
        refine takeU (i := 17) rfl (by kernel_rfl) (fun _ _ _ h => h) (by rfl) (by assumption) ?_
        try simp only [Act.put, List.setIfInBounds_toArray, List.set_cons_zero, List.set_cons_succ]
        refine takeV (i := 18) (v := ?_) rfl (by kernel_rfl) (fun _ _ _ h => h) (by rfl) ?_ (by assumption) ?_
        rotate_left
        · (intro w hSw; (try dsimp only at hSw); go_simp); all_goals (with_reducible rfl)
        try simp only [Act.put, List.setIfInBounds_toArray, List.set_cons_zero, List.set_cons_succ]
        refine wpAnyH_ready (rs := [19]) (by kernel_rfl) (by simp) ?_
        refine AllReadyH.cons (o := { dst := some 157, op := Op.call { callee := Callee.value (Operand.func 46), args := #[Operand.tmp 156], argTypes := #[4] }, type := 3, pos := "header.go:173", after := #[{ on := 18, ground := Ground.data }, { on := 13, ground := Ground.chain }], guard := none }) rfl (fun K hK => ?_) AllReadyH.nil
        go_simp
        refine (when_any _ _).mono ?_
        rintro e w4 ⟨rfl, m1, hm1, rfl⟩
        refine hK.out _ _ ?_ (fun hHeld => ?_)
        · exact hHeld
        clear hK K
        try simp only [Act.put, List.setIfInBounds_toArray, List.set_cons_zero, List.set_cons_succ]
        refine wpAnyH_ready (rs := [23]) (by kernel_rfl) (by simp) ?_
        refine AllReadyH.cons (o := { dst := some 161, op := Op.call { callee := Callee.value (Operand.func 51), args := #[Operand.tmp 159, Operand.tmp 160], argTypes := #[37, 3] }, type := 3, pos := "header.go:173", after := #[{ on := 21, ground := Ground.data }, { on := 22, ground := Ground.data }, { on := 19, ground := Ground.chain }], guard := none }) rfl (fun K hK => ?_) AllReadyH.nil
        go_simp
        refine (hmo.out _).mono ?_
        rintro e w5 ⟨k5, m2, hm2, rfl⟩
        have q5 := blk_below (w := W.drew) b5.out k5
        have l5 := hb5d.out.trans (k5.mono hb5d.out.size)
        have z_0 : w5.cell? ⟨N, 0, none⟩ = some (.int .u8 p.tf.toNat) := cell_blk q5 rfl
        have z_3 : w5.cell? ⟨N, 3, none⟩ = some (.int .i64 p.size) := cell_blk q5 rfl
        have z_9 : w5.cell? ⟨N, 9, none⟩ = some (.int .i64 p.ms) := cell_blk q5 rfl
        have z_10 : w5.cell? ⟨N, 10, none⟩ = some (.int .i64 p.mn) := cell_blk q5 rfl
        refine hK.out _ _ ?_ (fun hHeld => ?_)
        · exact ⟨z_0, z_3, z_9, z_10⟩
        clear hK K
        try simp only [Act.put, List.setIfInBounds_toArray, List.set_cons_zero, List.set_cons_succ]
        refine wpAnyH_ready (rs := [24]) (by kernel_rfl) (by simp) ?_
        refine AllReadyH.cons (o := { dst := some 162, op := Op.buildSlice 46 3 #[(0, Operand.tmp 138), (1, Operand.tmp 157), (2, Operand.tmp 161)], type := 46, pos := "header.go:173", after := #[{ on := 0, ground := Ground.data }, { on := 19, ground := Ground.data }, { on := 23, ground := Ground.data }], guard := none }) rfl (fun K hK => ?_) AllReadyH.nil
        go_simp
        refine hK.out _ _ ?_ (fun hHeld => ?_)
        · go_keep
        clear hK K
        try simp only [Act.put, List.setIfInBounds_toArray, List.set_cons_zero, List.set_cons_succ]
        refine wpAnyH_ready (rs := [25]) (by kernel_rfl) (by simp) ?_
        refine AllReadyH.cons (o := { dst := some 163, op := Op.call { callee := Callee.value (Operand.func 48), args := #[Operand.tmp 162], argTypes := #[46] }, type := 3, pos := "header.go:173", after := #[{ on := 24, ground := Ground.data }, { on := 23, ground := Ground.chain }], guard := none }) rfl (fun K hK => ?_) AllReadyH.nil
        go_simp
        refine (all_at w5.heap.size 3 [v, m1, m2] _ 3 (by exact heap_alloc_new w5 _) rfl (by omega) (V3.mem3 hv.out hm1 hm2)).mono ?_
        rintro e w7 ⟨rfl, v9, hv9, rfl⟩
        refine hK.out _ _ ?_ (fun hHeld => ?_)
        · exact hHeld
        clear hK K
        try simp only [Act.put, List.setIfInBounds_toArray, List.set_cons_zero, List.set_cons_succ]
        refine takeV (i := 26) (v := ?_) rfl (by kernel_rfl) (fun _ _ _ h => h) (by rfl) ?_ (by assumption) ?_
        rotate_left
        · (intro w hSw; (try dsimp only at hSw); go_simp); all_goals (with_reducible rfl)
        try simp only [Act.put, List.setIfInBounds_toArray, List.set_cons_zero, List.set_cons_succ]
        refine wpAnyH_done (by kernel_rfl) ?_ _
        go_wp2_with fail
        exact hn.out v9 _ _ _ _ _ _ _ _ _ _ _ _ _ _ _ _ _ _ _ _ _ _ _ _ _ _ _ _ _ _ _ _ _ _ _ _ _ _ _ _ _ _ _ _ _ _ _ _ _ _ _ _ _ _ _ _ _ _ _ _ _ _ _ _ _ _ _ _ _ _ _ _ _ _ _ _ _ _ _ _ _ _ _ _ _ _ _ _ _ _ _ _ _ _ _ _ _ _ _ _ _ _ _ _ _ _ _ _ _ _ _ _ _ _ _ _ _ _ _ _ _ _ _ _ _ _ _ _ _ _ _ _ _ _ _ _ _ _ _ _ _ _ _ _ _ _ _ _ _ _ _ _ _ _ _ _ _ _ _ _ _ _ _ _ _ _ _ _ _ _ _ _ _ _ _ _ _ _ _ _ _ _ _ _ _ _ _ _ _ _ _ _ _ _ _ _ _ _ _ _ _ _ _ _ _ _ _ _ _ _ _ _ _ _ _ _ _ _ _ _ _ _ _ _ _ _ _ _ _ _ _ _ _ _ _ _ ((hv9.three hv.out (hm1.mono (fun h => (show szB p F = true from (by rw [hz.out]; first | done | (simpa using h; done) | (simp at h; done)))) (fun h => (show szB p F = false from (by rw [hz.out]; first | done | (simpa using h; done) | (simp at h; done))))) hm2).mono (fun h => h) (fun h => h)) (blk_below q5 ((Below.refl _ _).alloc (Nat.le_refl _) _)) (l5.alloc l5.size _)
theorem code28_11 : code28 11 = .seq (headC (code28 11)) (code28 12) := by kernel_rfl
set_option maxRecDepth 100000 in
set_option maxHeartbeats 4000000 in
theorem can_s11 (p : SpH) (F : Int) (N : Nat) (w : World) (PQ : Ending → World → Prop) (hF : F = 1 ∨ F = 2 ∨ F = 3) (hN : Asd (w.heap.size = N)) (hn : Asd (Nx28 12 p F N w PQ (cP5 p F) (cQ5 p F))) : Nx28 11 p F N w PQ (cP4 p F) (cQ4 p F) := by
  intro v c0 c3 c4 c6 c7 c8 c9 c10 c11 c12 c13 c14 c15 c16 c17 c18 c19 c20 c21 c22 c23 c24 c25 c26 c27 c28 c29 c30 c31 c32 c33 c34 c35 c36 c37 c38 c39 c40 c41 c42 c43 c44 c45 c46 c47 c48 c49 c50 c51 c52 c53 c54 c55 c56 c57 c58 c59 c60 c61 c62 c63 c64 c65 c66 c67 c68 c69 c70 c71 c72 c73 c74 c75 c76 c77 c78 c79 c80 c81 c82 c83 c84 c85 c86 c87 c88 c89 c90 c91 c92 c93 c94 c95 c96 c97 c98 c99 c100 c101 c102 c103 c104 c105 c106 c107 c108 c109 c110 c111 c112 c113 c114 c115 c116 c117 c118 c119 c120 c121 c122 c123 c124 c125 c126 c127 c128 c129 c130 c131 c132 c133 c134 c135 c136 c137 c138 c139 c140 c141 c142 c143 c144 c145 c146 c147 c148 c149 c150 c151 c152 c153 c154 c155 c156 c157 c158 c159 c160 c161 c162 c163 c164 c165 c166 c167 c168 c169 c170 c171 c172 c173 c174 c175 c176 c177 c178 c179 c180 c181 c182 c183 c184 c185 c186 c187 c188 c189 c190 c191 c192 c193 c194 c195 c196 c197 c198 c199 c200 c201 c202 c203 c204 c205 c206 c207 c208 c209 c210 c211 c212 c213 c214 c215 c216 c217 c218 c219 c220 c221 c222 c223 c224 c225 c226 c227 c228 c229 c230 c231 c232 c233 c234 c235 c236 c237 W hv b5 hb5
  rw [code28_11]
  conv => arg 2; arg 1; whnf
  replace hv := Asd.mk hv
  replace hb5 := Asd.mk hb5
  have hb5d : Asd (Below w.heap.size w W.drew) := ⟨Below.drew hb5.out⟩
  have c_3 : W.cell? ⟨N, 3, none⟩ = some (.int .i64 p.size) := cell_blk b5 (by first | rfl | (rw [← hza.out]; rfl))
  replace b5 := Asd.mk b5
  by_cases s0 : p.size < 0
  · go_wp2_with (go_at_call 48; refine (all_new _ [v, 0] 2 _ _ rfl rfl (by omega) (V3.mem2 hv.out (V3.open_ True True))).mono ?_; rintro e w7 ⟨rfl, v9, hv9, rfl⟩)
    exact hn.out v9 _ _ _ _ _ _ _ _ _ _ _ _ _ _ _ _ _ _ _ _ _ _ _ _ _ _ _ _ _ _ _ _ _ _ _ _ _ _ _ _ _ _ _ _ _ _ _ _ _ _ _ _ _ _ _ _ _ _ _ _ _ _ _ _ _ _ _ _ _ _ _ _ _ _ _ _ _ _ _ _ _ _ _ _ _ _ _ _ _ _ _ _ _ _ _ _ _ _ _ _ _ _ _ _ _ _ _ _ _ _ _ _ _ _ _ _ _ _ _ _ _ _ _ _ _ _ _ _ _ _ _ _ _ _ _ _ _ _ _ _ _ _ _ _ _ _ _ _ _ _ _ _ _ _ _ _ _ _ _ _ _ _ _ _ _ _ _ _ _ _ _ _ _ _ _ _ _ _ _ _ _ _ _ _ _ _ _ _ _ _ _ _ _ _ _ _ _ _ _ _ _ _ _ _ _ _ _ _ _ _ _ _ _ _ _ _ _ _ _ _ _ _ _ _ _ _ _ _ _ _ _ _ _ _ _ _ ((hv9.two hv.out (V3.open_ (0 ≤ p.size) False)).mono (fun h => h) (fun h => h)) (blk_below b5.out ((Below.refl _ _).alloc (Nat.le_refl _) _)) (hb5.out.alloc hb5.out.size _)
  · have HS := Asd.mk s0
    go_wp2_with fail
    exact hn.out v _ _ _ _ _ _ _ _ _ _ _ _ _ _ _ _ _ _ _ _ _ _ _ _ _ _ _ _ _ _ _ _ _ _ _ _ _ _ _ _ _ _ _ _ _ _ _ _ _ _ _ _ _ _ _ _ _ _ _ _ _ _ _ _ _ _ _ _ _ _ _ _ _ _ _ _ _ _ _ _ _ _ _ _ _ _ _ _ _ _ _ _ _ _ _ _ _ _ _ _ _ _ _ _ _ _ _ _ _ _ _ _ _ _ _ _ _ _ _ _ _ _ _ _ _ _ _ _ _ _ _ _ _ _ _ _ _ _ _ _ _ _ _ _ _ _ _ _ _ _ _ _ _ _ _ _ _ _ _ _ _ _ _ _ _ _ _ _ _ _ _ _ _ _ _ _ _ _ _ _ _ _ _ _ _ _ _ _ _ _ _ _ _ _ _ _ _ _ _ _ _ _ _ _ _ _ _ _ _ _ _ _ _ _ _ _ _ _ _ _ _ _ _ _ _ _ _ _ _ _ _ _ _ _ _ _ (hv.out.mono (fun h => ⟨h, by have := HS.out; omega⟩) (fun h => .inl h)) b5.out hb5.out
theorem code28_12 : code28 12 = .seq (headC (code28 12)) (code28 13) := by kernel_rfl
set_option maxRecDepth 100000 in
set_option maxHeartbeats 4000000 in
theorem can_s12 (p : SpH) (F : Int) (N : Nat) (w : World) (PQ : Ending → World → Prop) (hF : F = 1 ∨ F = 2 ∨ F = 3) (hN : Asd (w.heap.size = N)) (hn : Asd (Nx28 13 p F N w PQ (cP6 p F) (cQ6 p F))) : Nx28 12 p F N w PQ (cP5 p F) (cQ5 p F) := by
  intro v c0 c3 c4 c6 c7 c8 c9 c10 c11 c12 c13 c14 c15 c16 c17 c18 c19 c20 c21 c22 c23 c24 c25 c26 c27 c28 c29 c30 c31 c32 c33 c34 c35 c36 c37 c38 c39 c40 c41 c42 c43 c44 c45 c46 c47 c48 c49 c50 c51 c52 c53 c54 c55 c56 c57 c58 c59 c60 c61 c62 c63 c64 c65 c66 c67 c68 c69 c70 c71 c72 c73 c74 c75 c76 c77 c78 c79 c80 c81 c82 c83 c84 c85 c86 c87 c88 c89 c90 c91 c92 c93 c94 c95 c96 c97 c98 c99 c100 c101 c102 c103 c104 c105 c106 c107 c108 c109 c110 c111 c112 c113 c114 c115 c116 c117 c118 c119 c120 c121 c122 c123 c124 c125 c126 c127 c128 c129 c130 c131 c132 c133 c134 c135 c136 c137 c138 c139 c140 c141 c142 c143 c144 c145 c146 c147 c148 c149 c150 c151 c152 c153 c154 c155 c156 c157 c158 c159 c160 c161 c162 c163 c164 c165 c166 c167 c168 c169 c170 c171 c172 c173 c174 c175 c176 c177 c178 c179 c180 c181 c182 c183 c184 c185 c186 c187 c188 c189 c190 c191 c192 c193 c194 c195 c196 c197 c198 c199 c200 c201 c202 c203 c204 c205 c206 c207 c208 c209 c210 c211 c212 c213 c214 c215 c216 c217 c218 c219 c220 c221 c222 c223 c224 c225 c226 c227 c228 c229 c230 c231 c232 c233 c234 c235 c236 c237 W hv b5 hb5
  rw [code28_12]
  conv => arg 2; arg 1; whnf
  replace hv := Asd.mk hv
  replace hb5 := Asd.mk hb5
  have hb5d : Asd (Below w.heap.size w W.drew) := ⟨Below.drew hb5.out⟩
  obtain ⟨za, hza⟩ : ∃ z, Asd (p.ha = z) := ⟨_, ⟨rfl⟩⟩
  have c_9 : W.cell? ⟨N, 9, none⟩ = some (.int .i64 p.ms) := cell_blk b5 (by first | rfl | (rw [← hza.out]; rfl))
  have c_11 : W.cell? ⟨N, 11, none⟩ = some (.bool za) := cell_blk b5 (by first | rfl | (rw [← hza.out]; rfl))
  have c_12 : W.cell? ⟨N, 12, none⟩ = some (.bool p.hc) := cell_blk b5 (by first | rfl | (rw [← hza.out]; rfl))
  replace b5 := Asd.mk b5
  by_cases f1 : F = 1
  · have HF := Asd.mk f1
    have f1' : (F == 1) = true := by simpa using f1
    clear f1 hF
    by_cases s0 : 0 ≤ p.ms
    · have s0d : decide (0 ≤ p.ms) = true := decide_eq_true s0
      have hz1 : Asd (mtB p = decide (p.ms < 8589934592)) := ⟨by unfold mtB; rw [s0d]; simp⟩
      cases za
      · have hz2 : Asd (noT p = !p.hc) := ⟨by unfold noT; rw [hza.out]; simp⟩
        go_wp2_with fail
        refine wp_region_held_drew (S := (fun w' => w'.cell? ⟨N, 9, none⟩ = some (.int .i64 p.ms) ∧ w'.cell? ⟨N, 11, none⟩ = some (.bool false) ∧ w'.cell? ⟨N, 12, none⟩ = some (.bool p.hc))) (by kernel_rfl) ?_ (fun hHeld => ?_)
        · exact ⟨c_9, c_11, c_12⟩
        refine takeV (i := 0) (v := ?_) rfl (by kernel_rfl) (fun _ _ _ h => h) (by rfl) ?_ (by assumption) ?_
        rotate_left
        · (intro w hSw; (try dsimp only at hSw); go_simp); all_goals (with_reducible rfl)
        try simp only [Act.put, List.setIfInBounds_toArray, List.set_cons_zero, List.set_cons_succ]
        refine takeV (i := 1) (v := ?_) rfl (by kernel_rfl) (fun _ _ _ h => h) (by rfl) ?_ (by assumption) ?_
        rotate_left
        · (intro w hSw; (try dsimp only at hSw); go_simp); all_goals (with_reducible rfl)
        try simp only [Act.put, List.setIfInBounds_toArray, List.set_cons_zero, List.set_cons_succ]
        refine takeV (i := 2) (v := ?_) rfl (by kernel_rfl) (fun _ _ _ h => h) (by rfl) ?_ (by assumption) ?_
        rotate_left
        · (intro w hSw; (try dsimp only at hSw); go_simp); all_goals (with_reducible rfl)
        try simp only [Act.put, List.setIfInBounds_toArray, List.set_cons_zero, List.set_cons_succ]
        refine takeV (i := 3) (v := ?_) rfl (by kernel_rfl) (fun _ _ _ h => h) (by rfl) ?_ (by assumption) ?_
        rotate_left
        · (intro w hSw; (try dsimp only at hSw); go_simp); all_goals (with_reducible rfl)
        try simp only [Act.put, List.setIfInBounds_toArray, List.set_cons_zero, List.set_cons_succ]
        refine takeV (i := 4) (v := ?_) rfl (by kernel_rfl) (fun _ _ _ h => h) (by rfl) ?_ (by assumption) ?_
        rotate_left
        · (intro w hSw; (try dsimp only at hSw); go_simp); all_goals (with_reducible rfl)
        try simp only [Act.put, List.setIfInBounds_toArray, List.set_cons_zero, List.set_cons_succ]
        refine takeV (i := 5) (v := ?_) rfl (by kernel_rfl) (fun _ _ _ h => h) (by rfl) ?_ (by assumption) ?_
        rotate_left
        · (intro w hSw; (try dsimp only at hSw); go_simp); all_goals (with_reducible rfl)
        try simp only [Act.put, List.setIfInBounds_toArray, List.set_cons_zero, List.set_cons_succ]
        refine takeV (i := 6) (v := ?_) rfl (by kernel_rfl) (fun _ _ _ h => h) (by rfl) ?_ (by assumption) ?_
        rotate_left
        · (intro w hSw; (try dsimp only at hSw); go_simp); all_goals (with_reducible rfl)
        try simp only [Act.put, List.setIfInBounds_toArray, List.set_cons_zero, List.set_cons_succ]
        refine takeV (i := 7) (v := ?_) rfl (by kernel_rfl) (fun _ _ _ h => h) (by rfl) ?_ (by assumption) ?_
        rotate_left
        · (intro w hSw; (try dsimp only at hSw); go_simp); all_goals (with_reducible rfl)
        try simp only [Act.put, List.setIfInBounds_toArray, List.set_cons_zero, List.set_cons_succ]
        refine takeV (i := 8) (v := ?_) rfl (by kernel_rfl) (fun _ _ _ h => h) (by rfl) ?_ (by assumption) ?_
        rotate_left
        · (intro w hSw; (try dsimp only at hSw); go_simp); all_goals (with_reducible rfl)
        try simp only [Act.put, List.setIfInBounds_toArray, List.set_cons_zero, List.set_cons_succ]
        refine takeV (i := 9) (v := ?_) rfl (by kernel_rfl) (fun _ _ _ h => h) (by rfl) ?_ (by assumption) ?_
        rotate_left
        · (intro w hSw; (try dsimp only at hSw); go_simp); all_goals (with_reducible rfl)
        try simp only [Act.put, List.setIfInBounds_toArray, List.set_cons_zero, List.set_cons_succ]
        refine takeV (i := 10) (v := ?_) rfl (by kernel_rfl) (fun _ _ _ h => h) (by rfl) ?_ (by assumption) ?_
        rotate_left
        · (intro w hSw; (try dsimp only at hSw); go_simp); all_goals (with_reducible rfl)
        try simp only [Act.put, List.setIfInBounds_toArray, List.set_cons_zero, List.set_cons_succ]
        refine takeV (i := 12) (v := ?_) rfl (by kernel_rfl) (fun _ _ _ h => h) (by rfl) ?_ (by assumption) ?_
        rotate_left
        · (intro w hSw; (try dsimp only at hSw); go_simp); all_goals (with_reducible rfl)
        try simp only [Act.put, List.setIfInBounds_toArray, List.set_cons_zero, List.set_cons_succ]
        refine takeV (i := 13) (v := ?_) rfl (by kernel_rfl) (fun _ _ _ h => h) (by rfl) ?_ (by assumption) ?_
        rotate_left
        · (intro w hSw; (try dsimp only at hSw); go_simp); all_goals (with_reducible rfl)
        try simp only [Act.put, List.setIfInBounds_toArray, List.set_cons_zero, List.set_cons_succ]
        refine takeV (i := 14) (v := ?_) rfl (by kernel_rfl) (fun _ _ _ h => h) (by rfl) ?_ (by assumption) ?_
        rotate_left
        · (intro w hSw; (try dsimp only at hSw); go_simp); all_goals (with_reducible rfl)
        try simp only [Act.put, List.setIfInBounds_toArray, List.set_cons_zero, List.set_cons_succ]
        refine wpAnyH_ready (rs := [11]) (by kernel_rfl) (by simp) ?_
        refine AllReadyH.cons (o := { dst := some 183, op := Op.call { callee := Callee.value (Operand.func 46), args := #[Operand.tmp 182], argTypes := #[4] }, type := 3, pos := "header.go:178", after := #[{ on := 10, ground := Ground.data }, { on := 5, ground := Ground.chain }], guard := none }) rfl (fun K hK => ?_) AllReadyH.nil
        go_simp
        refine (when_any _ _).mono ?_
        rintro e w4 ⟨rfl, m1, hm1, rfl⟩
        refine hK.out _ _ ?_ (fun hHeld => ?_)
        · exact hHeld
        clear hK K
        try simp only [Act.put, List.setIfInBounds_toArray, List.set_cons_zero, List.set_cons_succ]
        refine takeV (i := 15) (v := ?_) rfl (by kernel_rfl) (fun _ _ _ h => h) (by rfl) ?_ (by assumption) ?_
        rotate_left
        · (intro w hSw; (try dsimp only at hSw); go_simp); all_goals (with_reducible rfl)
        try simp only [Act.put, List.setIfInBounds_toArray, List.set_cons_zero, List.set_cons_succ]
        refine takeV (i := 16) (v := ?_) rfl (by kernel_rfl) (fun _ _ _ h => h) (by rfl) ?_ (by assumption) ?_
        rotate_left
        · (intro w hSw; (try dsimp only at hSw); go_simp); all_goals (with_reducible rfl)
        try simp only [Act.put, List.setIfInBounds_toArray, List.set_cons_zero, List.set_cons_succ]
        refine takeV (i := 17) (v := ?_) rfl (by kernel_rfl) (fun _ _ _ h => h) (by rfl) ?_ (by assumption) ?_
        rotate_left
        · (intro w hSw; (try dsimp only at hSw); go_simp); all_goals (with_reducible rfl)
        try simp only [Act.put, List.setIfInBounds_toArray, List.set_cons_zero, List.set_cons_succ]
        refine takeV (i := 18) (v := ?_) rfl (by kernel_rfl) (fun _ _ _ h => h) (by rfl) ?_ (by assumption) ?_
        rotate_left
        · (intro w hSw; (try dsimp only at hSw); go_simp); all_goals (with_reducible rfl)
        try simp only [Act.put, List.setIfInBounds_toArray, List.set_cons_zero, List.set_cons_succ]
        refine takeV (i := 19) (v := ?_) rfl (by kernel_rfl) (fun _ _ _ h => h) (by rfl) ?_ (by assumption) ?_
        rotate_left
        · (intro w hSw; (try dsimp only at hSw); go_simp); all_goals (with_reducible rfl)
        try simp only [Act.put, List.setIfInBounds_toArray, List.set_cons_zero, List.set_cons_succ]
        refine wpAnyH_ready (rs := [20]) (by kernel_rfl) (by simp) ?_
        refine AllReadyH.cons (o := { dst := some 192, op := Op.call { callee := Callee.value (Operand.func 46), args := #[Operand.tmp 191], argTypes := #[4] }, type := 3, pos := "header.go:178", after := #[{ on := 19, ground := Ground.data }, { on := 15, ground := Ground.chain }], guard := none }) rfl (fun K hK => ?_) AllReadyH.nil
        go_simp
        refine (when_any _ _).mono ?_
        rintro e w4 ⟨rfl, m2, hm2, rfl⟩
        refine hK.out _ _ ?_ (fun hHeld => ?_)
        · exact hHeld
        clear hK K
        try simp only [Act.put, List.setIfInBounds_toArray, List.set_cons_zero, List.set_cons_succ]
        refine wpAnyH_ready (rs := [21]) (by kernel_rfl) (by simp) ?_
        refine AllReadyH.cons (o := { dst := some 193, op := Op.buildSlice 46 3 #[(0, Operand.tmp 172), (1, Operand.tmp 183), (2, Operand.tmp 192)], type := 46, pos := "header.go:178", after := #[{ on := 0, ground := Ground.data }, { on := 11, ground := Ground.data }, { on := 20, ground := Ground.data }], guard := none }) rfl (fun K hK => ?_) AllReadyH.nil
        go_simp
        refine hK.out _ _ ?_ (fun hHeld => ?_)
        · go_keep
        clear hK K
        try simp only [Act.put, List.setIfInBounds_toArray, List.set_cons_zero, List.set_cons_succ]
        refine wpAnyH_ready (rs := [22]) (by kernel_rfl) (by simp) ?_
        refine AllReadyH.cons (o := { dst := some 194, op := Op.call { callee := Callee.value (Operand.func 48), args := #[Operand.tmp 193], argTypes := #[46] }, type := 3, pos := "header.go:178", after := #[{ on := 21, ground := Ground.data }, { on := 20, ground := Ground.chain }], guard := none }) rfl (fun K hK => ?_) AllReadyH.nil
        go_simp
        refine (all_at W.heap.size 3 [v, m1, m2] _ 3 (by exact heap_alloc_new W _) rfl (by omega) (V3.mem3 hv.out hm1 hm2)).mono ?_
        rintro e w7 ⟨rfl, v9, hv9, rfl⟩
        refine hK.out _ _ ?_ (fun hHeld => ?_)
        · exact hHeld
        clear hK K
        try simp only [Act.put, List.setIfInBounds_toArray, List.set_cons_zero, List.set_cons_succ]
        refine takeV (i := 23) (v := ?_) rfl (by kernel_rfl) (fun _ _ _ h => h) (by rfl) ?_ (by assumption) ?_
        rotate_left
        · (intro w hSw; (try dsimp only at hSw); go_simp); all_goals (with_reducible rfl)
        try simp only [Act.put, List.setIfInBounds_toArray, List.set_cons_zero, List.set_cons_succ]
        refine wpAnyH_done (by kernel_rfl) ?_ _
        go_wp2_with fail
        exact hn.out v9 _ _ _ _ _ _ _ _ _ _ _ _ _ _ _ _ _ _ _ _ _ _ _ _ _ _ _ _ _ _ _ _ _ _ _ _ _ _ _ _ _ _ _ _ _ _ _ _ _ _ _ _ _ _ _ _ _ _ _ _ _ _ _ _ _ _ _ _ _ _ _ _ _ _ _ _ _ _ _ _ _ _ _ _ _ _ _ _ _ _ _ _ _ _ _ _ _ _ _ _ _ _ _ _ _ _ _ _ _ _ _ _ _ _ _ _ _ _ _ _ _ _ _ _ _ _ _ _ _ _ _ _ _ _ _ _ _ _ _ _ _ _ _ _ _ _ _ _ _ _ _ _ _ _ _ _ _ _ _ _ _ _ _ _ _ _ _ _ _ _ _ _ _ _ _ _ _ _ _ _ _ _ _ _ _ _ _ _ _ _ _ _ _ _ _ _ _ _ _ _ _ _ _ _ _ _ _ _ _ _ _ _ _ _ _ _ _ _ _ _ _ _ _ _ _ _ _ _ _ _ _ _ _ _ _ _ ((hv9.three hv.out (hm1.mono (fun h => (show mtB p = true from (by rw [hz1.out]; first | done | (simpa using h; done) | (simp at h; done)))) (fun h => (show mtB p = false from (by rw [hz1.out]; first | done | (simpa using h; done) | (simp at h; done))))) (hm2.mono (fun h => (show noT p = true from (by rw [hz2.out]; first | done | (simpa using h; done) | (simp at h; done)))) (fun h => (show noT p = false from (by rw [hz2.out]; first | done | (simpa using h; done) | (simp at h; done)))))).mono (fun h => ⟨h.1, fun _ => h.2⟩) (fun h => h.elim .inl (fun h => .inr ⟨HF.out, h⟩))) (blk_below (w := W.drew) b5.out ((Below.refl _ _).alloc (Nat.le_refl _) _)) (hb5d.out.alloc hb5d.out.size _)
      · have hz2 : Asd (noT p = false) := ⟨by unfold noT; rw [hza.out]; simp⟩
        go_wp2_with fail
        refine wp_region_held_drew (S := (fun w' => w'.cell? ⟨N, 9, none⟩ = some (.int .i64 p.ms) ∧ w'.cell? ⟨N, 11, none⟩ = some (.bool true) ∧ w'.cell? ⟨N, 12, none⟩ = some (.bool p.hc))) (by kernel_rfl) ?_ (fun hHeld => ?_)
        · exact ⟨c_9, c_11, c_12⟩
        refine takeV (i := 0) (v := ?_) rfl (by kernel_rfl) (fun _ _ _ h => h) (by rfl) ?_ (by assumption) ?_
        rotate_left
        · (intro w hSw; (try dsimp only at hSw); go_simp); all_goals (with_reducible rfl)
        try simp only [Act.put, List.setIfInBounds_toArray, List.set_cons_zero, List.set_cons_succ]
        refine takeV (i := 1) (v := ?_) rfl (by kernel_rfl) (fun _ _ _ h => h) (by rfl) ?_ (by assumption) ?_
        rotate_left
        · (intro w hSw; (try dsimp only at hSw); go_simp); all_goals (with_reducible rfl)
        try simp only [Act.put, List.setIfInBounds_toArray, List.set_cons_zero, List.set_cons_succ]
        refine takeV (i := 2) (v := ?_) rfl (by kernel_rfl) (fun _ _ _ h => h) (by rfl) ?_ (by assumption) ?_
        rotate_left
        · (intro w hSw; (try dsimp only at hSw); go_simp); all_goals (with_reducible rfl)
        try simp only [Act.put, List.setIfInBounds_toArray, List.set_cons_zero, List.set_cons_succ]
        refine takeV (i := 3) (v := ?_) rfl (by kernel_rfl) (fun _ _ _ h => h) (by rfl) ?_ (by assumption) ?_
        rotate_left
        · (intro w hSw; (try dsimp only at hSw); go_simp); all_goals (with_reducible rfl)
        try simp only [Act.put, List.setIfInBounds_toArray, List.set_cons_zero, List.set_cons_succ]
        refine takeV (i := 4) (v := ?_) rfl (by kernel_rfl) (fun _ _ _ h => h) (by rfl) ?_ (by assumption) ?_
        rotate_left
        · (intro w hSw; (try dsimp only at hSw); go_simp); all_goals (with_reducible rfl)
        try simp only [Act.put, List.setIfInBounds_toArray, List.set_cons_zero, List.set_cons_succ]
        refine takeV (i := 5) (v := ?_) rfl (by kernel_rfl) (fun _ _ _ h => h) (by rfl) ?_ (by assumption) ?_
        rotate_left
        · (intro w hSw; (try dsimp only at hSw); go_simp); all_goals (with_reducible rfl)
        try simp only [Act.put, List.setIfInBounds_toArray, List.set_cons_zero, List.set_cons_succ]
        refine takeV (i := 6) (v := ?_) rfl (by kernel_rfl) (fun _ _ _ h => h) (by rfl) ?_ (by assumption) ?_
        rotate_left
        · (intro w hSw; (try dsimp only at hSw); go_simp); all_goals (with_reducible rfl)
        try simp only [Act.put, List.setIfInBounds_toArray, List.set_cons_zero, List.set_cons_succ]
        refine takeV (i := 7) (v := ?_) rfl (by kernel_rfl) (fun _ _ _ h => h) (by rfl) ?_ (by assumption) ?_
        rotate_left
        · (intro w hSw; (try dsimp only at hSw); go_simp); all_goals (with_reducible rfl)
        try simp only [Act.put, List.setIfInBounds_toArray, List.set_cons_zero, List.set_cons_succ]
        refine takeV (i := 8) (v := ?_) rfl (by kernel_rfl) (fun _ _ _ h => h) (by rfl) ?_ (by assumption) ?_
        rotate_left
        · (intro w hSw; (try dsimp only at hSw); go_simp); all_goals (with_reducible rfl)
        try simp only [Act.put, List.setIfInBounds_toArray, List.set_cons_zero, List.set_cons_succ]
        refine takeV (i := 9) (v := ?_) rfl (by kernel_rfl) (fun _ _ _ h => h) (by rfl) ?_ (by assumption) ?_
        rotate_left
        · (intro w hSw; (try dsimp only at hSw); go_simp); all_goals (with_reducible rfl)
        try simp only [Act.put, List.setIfInBounds_toArray, List.set_cons_zero, List.set_cons_succ]
        refine takeV (i := 10) (v := ?_) rfl (by kernel_rfl) (fun _ _ _ h => h) (by rfl) ?_ (by assumption) ?_
        rotate_left
        · (intro w hSw; (try dsimp only at hSw); go_simp); all_goals (with_reducible rfl)
        try simp only [Act.put, List.setIfInBounds_toArray, List.set_cons_zero, List.set_cons_succ]
        refine takeV (i := 12) (v := ?_) rfl (by kernel_rfl) (fun _ _ _ h => h) (by rfl) ?_ (by assumption) ?_
        rotate_left
        · (intro w hSw; (try dsimp only at hSw); go_simp); all_goals (with_reducible rfl)
        try simp only [Act.put, List.setIfInBounds_toArray, List.set_cons_zero, List.set_cons_succ]
        refine takeV (i := 13) (v := ?_) rfl (by kernel_rfl) (fun _ _ _ h => h) (by rfl) ?_ (by assumption) ?_
        rotate_left
        · (intro w hSw; (try dsimp only at hSw); go_simp); all_goals (with_reducible rfl)
        try simp only [Act.put, List.setIfInBounds_toArray, List.set_cons_zero, List.set_cons_succ]
        refine takeV (i := 14) (v := ?_) rfl (by kernel_rfl) (fun _ _ _ h => h) (by rfl) ?_ (by assumption) ?_
        rotate_left
        · (intro w hSw; (try dsimp only at hSw); go_simp); all_goals (with_reducible rfl)
        try simp only [Act.put, List.setIfInBounds_toArray, List.set_cons_zero, List.set_cons_succ]
        refine wpAnyH_ready (rs := [11]) (by kernel_rfl) (by simp) ?_
        refine AllReadyH.cons (o := { dst := some 183, op := Op.call { callee := Callee.value (Operand.func 46), args := #[Operand.tmp 182], argTypes := #[4] }, type := 3, pos := "header.go:178", after := #[{ on := 10, ground := Ground.data }, { on := 5, ground := Ground.chain }], guard := none }) rfl (fun K hK => ?_) AllReadyH.nil
        go_simp
        refine (when_any _ _).mono ?_
        rintro e w4 ⟨rfl, m1, hm1, rfl⟩
        refine hK.out _ _ ?_ (fun hHeld => ?_)
        · exact hHeld
        clear hK K
        try simp only [Act.put, List.setIfInBounds_toArray, List.set_cons_zero, List.set_cons_succ]
        refine takeV (i := 15) (v := ?_) rfl (by kernel_rfl) (fun _ _ _ h => h) (by rfl) ?_ (by assumption) ?_
        rotate_left
        · (intro w hSw; (try dsimp only at hSw); go_simp); all_goals (with_reducible rfl)
        try simp only [Act.put, List.setIfInBounds_toArray, List.set_cons_zero, List.set_cons_succ]
        refine takeU (i := 16) rfl (by kernel_rfl) (fun _ _ _ h => h) (by rfl) (by assumption) ?_
        try simp only [Act.put, List.setIfInBounds_toArray, List.set_cons_zero, List.set_cons_succ]
        refine takeU (i := 17) rfl (by kernel_rfl) (fun _ _ _ h => h) (by rfl) (by assumption) ?_
        try simp only [Act.put, List.setIfInBounds_toArray, List.set_cons_zero, List.set_cons_succ]
        refine takeU (i := 18) rfl (by kernel_rfl) (fun _ _ _ h => h) (by rfl) (by assumption) ?_
        try simp only [Act.put, List.setIfInBounds_toArray, List.set_cons_zero, List.set_cons_succ]
        refine takeV (i := 19) (v := ?_) rfl (by kernel_rfl) (fun _ _ _ h => h) (by rfl) ?_ (by assumption) ?_
        rotate_left
        · (intro w hSw; (try dsimp only at hSw); go_simp); all_goals (with_reducible rfl)
        try simp only [Act.put, List.setIfInBounds_toArray, List.set_cons_zero, List.set_cons_succ]
        refine wpAnyH_ready (rs := [20]) (by kernel_rfl) (by simp) ?_
        refine AllReadyH.cons (o := { dst := some 192, op := Op.call { callee := Callee.value (Operand.func 46), args := #[Operand.tmp 191], argTypes := #[4] }, type := 3, pos := "header.go:178", after := #[{ on := 19, ground := Ground.data }, { on := 15, ground := Ground.chain }], guard := none }) rfl (fun K hK => ?_) AllReadyH.nil
        go_simp
        refine (when_any _ _).mono ?_
        rintro e w4 ⟨rfl, m2, hm2, rfl⟩
        refine hK.out _ _ ?_ (fun hHeld => ?_)
        · exact hHeld
        clear hK K
        try simp only [Act.put, List.setIfInBounds_toArray, List.set_cons_zero, List.set_cons_succ]
        refine wpAnyH_ready (rs := [21]) (by kernel_rfl) (by simp) ?_
        refine AllReadyH.cons (o := { dst := some 193, op := Op.buildSlice 46 3 #[(0, Operand.tmp 172), (1, Operand.tmp 183), (2, Operand.tmp 192)], type := 46, pos := "header.go:178", after := #[{ on := 0, ground := Ground.data }, { on := 11, ground := Ground.data }, { on := 20, ground := Ground.data }], guard := none }) rfl (fun K hK => ?_) AllReadyH.nil
        go_simp
        refine hK.out _ _ ?_ (fun hHeld => ?_)
        · go_keep
        clear hK K
        try simp only [Act.put, List.setIfInBounds_toArray, List.set_cons_zero, List.set_cons_succ]
        refine wpAnyH_ready (rs := [22]) (by kernel_rfl) (by simp) ?_
        refine AllReadyH.cons (o := { dst := some 194, op := Op.call { callee := Callee.value (Operand.func 48), args := #[Operand.tmp 193], argTypes := #[46] }, type := 3, pos := "header.go:178", after := #[{ on := 21, ground := Ground.data }, { on := 20, ground := Ground.chain }], guard := none }) rfl (fun K hK => ?_) AllReadyH.nil
        go_simp
        refine (all_at W.heap.size 3 [v, m1, m2] _ 3 (by exact heap_alloc_new W _) rfl (by omega) (V3.mem3 hv.out hm1 hm2)).mono ?_
        rintro e w7 ⟨rfl, v9, hv9, rfl⟩
        refine hK.out _ _ ?_ (fun hHeld => ?_)
        · exact hHeld
        clear hK K
        try simp only [Act.put, List.setIfInBounds_toArray, List.set_cons_zero, List.set_cons_succ]
        refine takeV (i := 23) (v := ?_) rfl (by kernel_rfl) (fun _ _ _ h => h) (by rfl) ?_ (by assumption) ?_
        rotate_left
        · (intro w hSw; (try dsimp only at hSw); go_simp); all_goals (with_reducible rfl)
        try simp only [Act.put, List.setIfInBounds_toArray, List.set_cons_zero, List.set_cons_succ]
        refine wpAnyH_done (by kernel_rfl) ?_ _
        go_wp2_with fail
        exact hn.out v9 _ _ _ _ _ _ _ _ _ _ _ _ _ _ _ _ _ _ _ _ _ _ _ _ _ _ _ _ _ _ _ _ _ _ _ _ _ _ _ _ _ _ _ _ _ _ _ _ _ _ _ _ _ _ _ _ _ _ _ _ _ _ _ _ _ _ _ _ _ _ _ _ _ _ _ _ _ _ _ _ _ _ _ _ _ _ _ _ _ _ _ _ _ _ _ _ _ _ _ _ _ _ _ _ _ _ _ _ _ _ _ _ _ _ _ _ _ _ _ _ _ _ _ _ _ _ _ _ _ _ _ _ _ _ _ _ _ _ _ _ _ _ _ _ _ _ _ _ _ _ _ _ _ _ _ _ _ _ _ _ _ _ _ _ _ _ _ _ _ _ _ _ _ _ _ _ _ _ _ _ _ _ _ _ _ _ _ _ _ _ _ _ _ _ _ _ _ _ _ _ _ _ _ _ _ _ _ _ _ _ _ _ _ _ _ _ _ _ _ _ _ _ _ _ _ _ _ _ _ _ _ _ _ _ _ _ ((hv9.three hv.out (hm1.mono (fun h => (show mtB p = true from (by rw [hz1.out]; first | done | (simpa using h; done) | (simp at h; done)))) (fun h => (show mtB p = false from (by rw [hz1.out]; first | done | (simpa using h; done) | (simp at h; done))))) (hm2.mono (fun h => (show noT p = true from (by rw [hz2.out]; first | done | (simpa using h; done) | (simp at h; done)))) (fun h => (show noT p = false from (by rw [hz2.out]; first | done | (simpa using h; done) | (simp at h; done)))))).mono (fun h => ⟨h.1, fun _ => h.2⟩) (fun h => h.elim .inl (fun h => .inr ⟨HF.out, h⟩))) (blk_below (w := W.drew) b5.out ((Below.refl _ _).alloc (Nat.le_refl _) _)) (hb5d.out.alloc hb5d.out.size _)
    · have s0d : decide (0 ≤ p.ms) = false := decide_eq_false s0
      have hz1 : Asd (mtB p = false) := ⟨by unfold mtB; rw [s0d]; simp⟩
      cases za
      · have hz2 : Asd (noT p = !p.hc) := ⟨by unfold noT; rw [hza.out]; simp⟩
        go_wp2_with fail
        refine wp_region_held_drew (S := (fun w' => w'.cell? ⟨N, 9, none⟩ = some (.int .i64 p.ms) ∧ w'.cell? ⟨N, 11, none⟩ = some (.bool false) ∧ w'.cell? ⟨N, 12, none⟩ = some (.bool p.hc))) (by kernel_rfl) ?_ (fun hHeld => ?_)
        · exact ⟨c_9, c_11, c_12⟩
        refine takeV (i := 0) (v := ?_) rfl (by kernel_rfl) (fun _ _ _ h => h) (by rfl) ?_ (by assumption) ?_
        rotate_left
        · (intro w hSw; (try dsimp only at hSw); go_simp); all_goals (with_reducible rfl)
        try simp only [Act.put, List.setIfInBounds_toArray, List.set_cons_zero, List.set_cons_succ]
        refine takeV (i := 1) (v := ?_) rfl (by kernel_rfl) (fun _ _ _ h => h) (by rfl) ?_ (by assumption) ?_
        rotate_left
        · (intro w hSw; (try dsimp only at hSw); go_simp); all_goals (with_reducible rfl)
        try simp only [Act.put, List.setIfInBounds_toArray, List.set_cons_zero, List.set_cons_succ]
        refine takeV (i := 2) (v := ?_) rfl (by kernel_rfl) (fun _ _ _ h => h) (by rfl) ?_ (by assumption) ?_
        rotate_left
        · (intro w hSw; (try dsimp only at hSw); go_simp); all_goals (with_reducible rfl)
        try simp only [Act.put, List.setIfInBounds_toArray, List.set_cons_zero, List.set_cons_succ]
        refine takeV (i := 3) (v := ?_) rfl (by kernel_rfl) (fun _ _ _ h => h) (by rfl) ?_ (by assumption) ?_
        rotate_left
        · (intro w hSw; (try dsimp only at hSw); go_simp); all_goals (with_reducible rfl)
        try simp only [Act.put, List.setIfInBounds_toArray, List.set_cons_zero, List.set_cons_succ]
        refine takeV (i := 4) (v := ?_) rfl (by kernel_rfl) (fun _ _ _ h => h) (by rfl) ?_ (by assumption) ?_
        rotate_left
        · (intro w hSw; (try dsimp only at hSw); go_simp); all_goals (with_reducible rfl)
        try simp only [Act.put, List.setIfInBounds_toArray, List.set_cons_zero, List.set_cons_succ]
        refine takeV (i := 5) (v := ?_) rfl (by kernel_rfl) (fun _ _ _ h => h) (by rfl) ?_ (by assumption) ?_
        rotate_left
        · (intro w hSw; (try dsimp only at hSw); go_simp); all_goals (with_reducible rfl)
        try simp only [Act.put, List.setIfInBounds_toArray, List.set_cons_zero, List.set_cons_succ]
        refine takeU (i := 6) rfl (by kernel_rfl) (fun _ _ _ h => h) (by rfl) (by assumption) ?_
        try simp only [Act.put, List.setIfInBounds_toArray, List.set_cons_zero, List.set_cons_succ]
        refine takeU (i := 7) rfl (by kernel_rfl) (fun _ _ _ h => h) (by rfl) (by assumption) ?_
        try simp only [Act.put, List.setIfInBounds_toArray, List.set_cons_zero, List.set_cons_succ]
        refine takeU (i := 8) rfl (by kernel_rfl) (fun _ _ _ h => h) (by rfl) (by assumption) ?_
        try simp only [Act.put, List.setIfInBounds_toArray, List.set_cons_zero, List.set_cons_succ]
        refine takeU (i := 9) rfl (by kernel_rfl) (fun _ _ _ h => h) (by rfl) (by assumption) ?_
        try simp only [Act.put, List.setIfInBounds_toArray, List.set_cons_zero, List.set_cons_succ]
        refine takeV (i := 10) (v := ?_) rfl (by kernel_rfl) (fun _ _ _ h => h) (by rfl) ?_ (by assumption) ?_
        rotate_left
        · (intro w hSw; (try dsimp only at hSw); go_simp); all_goals (with_reducible rfl)
        try simp only [Act.put, List.setIfInBounds_toArray, List.set_cons_zero, List.set_cons_succ]
        refine takeV (i := 12) (v := ?_) rfl (by kernel_rfl) (fun _ _ _ h => h) (by rfl) ?_ (by assumption) ?_
        rotate_left
        · (intro w hSw; (try dsimp only at hSw); go_simp); all_goals (with_reducible rfl)
        try simp only [Act.put, List.setIfInBounds_toArray, List.set_cons_zero, List.set_cons_succ]
        refine takeV (i := 13) (v := ?_) rfl (by kernel_rfl) (fun _ _ _ h => h) (by rfl) ?_ (by assumption) ?_
        rotate_left
        · (intro w hSw; (try dsimp only at hSw); go_simp); all_goals (with_reducible rfl)
        try simp only [Act.put, List.setIfInBounds_toArray, List.set_cons_zero, List.set_cons_succ]
        refine takeV (i := 14) (v := ?_) rfl (by kernel_rfl) (fun _ _ _ h => h) (by rfl) ?_ (by assumption) ?_
        rotate_left
        · (intro w hSw; (try dsimp only at hSw); go_simp); all_goals (with_reducible rfl)
        try simp only [Act.put, List.setIfInBounds_toArray, List.set_cons_zero, List.set_cons_succ]
        refine wpAnyH_ready (rs := [11]) (by kernel_rfl) (by simp) ?_
        refine AllReadyH.cons (o := { dst := some 183, op := Op.call { callee := Callee.value (Operand.func 46), args := #[Operand.tmp 182], argTypes := #[4] }, type := 3, pos := "header.go:178", after := #[{ on := 10, ground := Ground.data }, { on := 5, ground := Ground.chain }], guard := none }) rfl (fun K hK => ?_) AllReadyH.nil
        go_simp
        refine (when_any _ _).mono ?_
        rintro e w4 ⟨rfl, m1, hm1, rfl⟩
        refine hK.out _ _ ?_ (fun hHeld => ?_)
        · exact hHeld
        clear hK K
        try simp only [Act.put, List.setIfInBounds_toArray, List.set_cons_zero, List.set_cons_succ]
        refine takeV (i := 15) (v := ?_) rfl (by kernel_rfl) (fun _ _ _ h => h) (by rfl) ?_ (by assumption) ?_
        rotate_left
        · (intro w hSw; (try dsimp only at hSw); go_simp); all_goals (with_reducible rfl)
        try simp only [Act.put, List.setIfInBounds_toArray, List.set_cons_zero, List.set_cons_succ]
        refine takeV (i := 16) (v := ?_) rfl (by kernel_rfl) (fun _ _ _ h => h) (by rfl) ?_ (by assumption) ?_
        rotate_left
        · (intro w hSw; (try dsimp only at hSw); go_simp); all_goals (with_reducible rfl)
        try simp only [Act.put, List.setIfInBounds_toArray, List.set_cons_zero, List.set_cons_succ]
        refine takeV (i := 17) (v := ?_) rfl (by kernel_rfl) (fun _ _ _ h => h) (by rfl) ?_ (by assumption) ?_
        rotate_left
        · (intro w hSw; (try dsimp only at hSw); go_simp); all_goals (with_reducible rfl)
        try simp only [Act.put, List.setIfInBounds_toArray, List.set_cons_zero, List.set_cons_succ]
        refine takeV (i := 18) (v := ?_) rfl (by kernel_rfl) (fun _ _ _ h => h) (by rfl) ?_ (by assumption) ?_
        rotate_left
        · (intro w hSw; (try dsimp only at hSw); go_simp); all_goals (with_reducible rfl)
        try simp only [Act.put, List.setIfInBounds_toArray, List.set_cons_zero, List.set_cons_succ]
        refine takeV (i := 19) (v := ?_) rfl (by kernel_rfl) (fun _ _ _ h => h) (by rfl) ?_ (by assumption) ?_
        rotate_left
        · (intro w hSw; (try dsimp only at hSw); go_simp); all_goals (with_reducible rfl)
        try simp only [Act.put, List.setIfInBounds_toArray, List.set_cons_zero, List.set_cons_succ]
        refine wpAnyH_ready (rs := [20]) (by kernel_rfl) (by simp) ?_
        refine AllReadyH.cons (o := { dst := some 192, op := Op.call { callee := Callee.value (Operand.func 46), args := #[Operand.tmp 191], argTypes := #[4] }, type := 3, pos := "header.go:178", after := #[{ on := 19, ground := Ground.data }, { on := 15, ground := Ground.chain }], guard := none }) rfl (fun K hK => ?_) AllReadyH.nil
        go_simp
        refine (when_any _ _).mono ?_
        rintro e w4 ⟨rfl, m2, hm2, rfl⟩
        refine hK.out _ _ ?_ (fun hHeld => ?_)
        · exact hHeld
        clear hK K
        try simp only [Act.put, List.setIfInBounds_toArray, List.set_cons_zero, List.set_cons_succ]
        refine wpAnyH_ready (rs := [21]) (by kernel_rfl) (by simp) ?_
        refine AllReadyH.cons (o := { dst := some 193, op := Op.buildSlice 46 3 #[(0, Operand.tmp 172), (1, Operand.tmp 183), (2, Operand.tmp 192)], type := 46, pos := "header.go:178", after := #[{ on := 0, ground := Ground.data }, { on := 11, ground := Ground.data }, { on := 20, ground := Ground.data }], guard := none }) rfl (fun K hK => ?_) AllReadyH.nil
        go_simp
        refine hK.out _ _ ?_ (fun hHeld => ?_)
        · go_keep
        clear hK K
        try simp only [Act.put, List.setIfInBounds_toArray, List.set_cons_zero, List.set_cons_succ]
        refine wpAnyH_ready (rs := [22]) (by kernel_rfl) (by simp) ?_
        refine AllReadyH.cons (o := { dst := some 194, op := Op.call { callee := Callee.value (Operand.func 48), args := #[Operand.tmp 193], argTypes := #[46] }, type := 3, pos := "header.go:178", after := #[{ on := 21, ground := Ground.data }, { on := 20, ground := Ground.chain }], guard := none }) rfl (fun K hK => ?_) AllReadyH.nil
        go_simp
        refine (all_at W.heap.size 3 [v, m1, m2] _ 3 (by exact heap_alloc_new W _) rfl (by omega) (V3.mem3 hv.out hm1 hm2)).mono ?_
        rintro e w7 ⟨rfl, v9, hv9, rfl⟩
        refine hK.out _ _ ?_ (fun hHeld => ?_)
        · exact hHeld
        clear hK K
        try simp only [Act.put, List.setIfInBounds_toArray, List.set_cons_zero, List.set_cons_succ]
        refine takeV (i := 23) (v := ?_) rfl (by kernel_rfl) (fun _ _ _ h => h) (by rfl) ?_ (by assumption) ?_
        rotate_left
        · (intro w hSw; (try dsimp only at hSw); go_simp); all_goals (with_reducible rfl)
        try simp only [Act.put, List.setIfInBounds_toArray, List.set_cons_zero, List.set_cons_succ]
        refine wpAnyH_done (by kernel_rfl) ?_ _
        go_wp2_with fail
        exact hn.out v9 _ _ _ _ _ _ _ _ _ _ _ _ _ _ _ _ _ _ _ _ _ _ _ _ _ _ _ _ _ _ _ _ _ _ _ _ _ _ _ _ _ _ _ _ _ _ _ _ _ _ _ _ _ _ _ _ _ _ _ _ _ _ _ _ _ _ _ _ _ _ _ _ _ _ _ _ _ _ _ _ _ _ _ _ _ _ _ _ _ _ _ _ _ _ _ _ _ _ _ _ _ _ _ _ _ _ _ _ _ _ _ _ _ _ _ _ _ _ _ _ _ _ _ _ _ _ _ _ _ _ _ _ _ _ _ _ _ _ _ _ _ _ _ _ _ _ _ _ _ _ _ _ _ _ _ _ _ _ _ _ _ _ _ _ _ _ _ _ _ _ _ _ _ _ _ _ _ _ _ _ _ _ _ _ _ _ _ _ _ _ _ _ _ _ _ _ _ _ _ _ _ _ _ _ _ _ _ _ _ _ _ _ _ _ _ _ _ _ _ _ _ _ _ _ _ _ _ _ _ _ _ _ _ _ _ _ ((hv9.three hv.out (hm1.mono (fun h => (show mtB p = true from (by rw [hz1.out]; first | done | (simpa using h; done) | (simp at h; done)))) (fun h => (show mtB p = false from (by rw [hz1.out]; first | done | (simpa using h; done) | (simp at h; done))))) (hm2.mono (fun h => (show noT p = true from (by rw [hz2.out]; first | done | (simpa using h; done) | (simp at h; done)))) (fun h => (show noT p = false from (by rw [hz2.out]; first | done | (simpa using h; done) | (simp at h; done)))))).mono (fun h => ⟨h.1, fun _ => h.2⟩) (fun h => h.elim .inl (fun h => .inr ⟨HF.out, h⟩))) (blk_below (w := W.drew) b5.out ((Below.refl _ _).alloc (Nat.le_refl _) _)) (hb5d.out.alloc hb5d.out.size _)
      · have hz2 : Asd (noT p = false) := ⟨by unfold noT; rw [hza.out]; simp⟩
        go_wp2_with fail
        refine wp_region_held_drew (S := (fun w' => w'.cell? ⟨N, 9, none⟩ = some (.int .i64 p.ms) ∧ w'.cell? ⟨N, 11, none⟩ = some (.bool true) ∧ w'.cell? ⟨N, 12, none⟩ = some (.bool p.hc))) (by kernel_rfl) ?_ (fun hHeld => ?_)
        · exact ⟨c_9, c_11, c_12⟩
        refine takeV (i := 0) (v := ?_) rfl (by kernel_rfl) (fun _ _ _ h => h) (by rfl) ?_ (by assumption) ?_
        rotate_left
        · (intro w hSw; (try dsimp only at hSw); go_simp); all_goals (with_reducible rfl)
        try simp only [Act.put, List.setIfInBounds_toArray, List.set_cons_zero, List.set_cons_succ]
        refine takeV (i := 1) (v := ?_) rfl (by kernel_rfl) (fun _ _ _ h => h) (by rfl) ?_ (by assumption) ?_
        rotate_left
        · (intro w hSw; (try dsimp only at hSw); go_simp); all_goals (with_reducible rfl)
        try simp only [Act.put, List.setIfInBounds_toArray, List.set_cons_zero, List.set_cons_succ]
        refine takeV (i := 2) (v := ?_) rfl (by kernel_rfl) (fun _ _ _ h => h) (by rfl) ?_ (by assumption) ?_
        rotate_left
        · (intro w hSw; (try dsimp only at hSw); go_simp); all_goals (with_reducible rfl)
        try simp only [Act.put, List.setIfInBounds_toArray, List.set_cons_zero, List.set_cons_succ]
        refine takeV (i := 3) (v := ?_) rfl (by kernel_rfl) (fun _ _ _ h => h) (by rfl) ?_ (by assumption) ?_
        rotate_left
        · (intro w hSw; (try dsimp only at hSw); go_simp); all_goals (with_reducible rfl)
        try simp only [Act.put, List.setIfInBounds_toArray, List.set_cons_zero, List.set_cons_succ]
        refine takeV (i := 4) (v := ?_) rfl (by kernel_rfl) (fun _ _ _ h => h) (by rfl) ?_ (by assumption) ?_
        rotate_left
        · (intro w hSw; (try dsimp only at hSw); go_simp); all_goals (with_reducible rfl)
        try simp only [Act.put, List.setIfInBounds_toArray, List.set_cons_zero, List.set_cons_succ]
        refine takeV (i := 5) (v := ?_) rfl (by kernel_rfl) (fun _ _ _ h => h) (by rfl) ?_ (by assumption) ?_
        rotate_left
        · (intro w hSw; (try dsimp only at hSw); go_simp); all_goals (with_reducible rfl)
        try simp only [Act.put, List.setIfInBounds_toArray, List.set_cons_zero, List.set_cons_succ]
        refine takeU (i := 6) rfl (by kernel_rfl) (fun _ _ _ h => h) (by rfl) (by assumption) ?_
        try simp only [Act.put, List.setIfInBounds_toArray, List.set_cons_zero, List.set_cons_succ]
        refine takeU (i := 7) rfl (by kernel_rfl) (fun _ _ _ h => h) (by rfl) (by assumption) ?_
        try simp only [Act.put, List.setIfInBounds_toArray, List.set_cons_zero, List.set_cons_succ]
        refine takeU (i := 8) rfl (by kernel_rfl) (fun _ _ _ h => h) (by rfl) (by assumption) ?_
        try simp only [Act.put, List.setIfInBounds_toArray, List.set_cons_zero, List.set_cons_succ]
        refine takeU (i := 9) rfl (by kernel_rfl) (fun _ _ _ h => h) (by rfl) (by assumption) ?_
        try simp only [Act.put, List.setIfInBounds_toArray, List.set_cons_zero, List.set_cons_succ]
        refine takeV (i := 10) (v := ?_) rfl (by kernel_rfl) (fun _ _ _ h => h) (by rfl) ?_ (by assumption) ?_
        rotate_left
        · (intro w hSw; (try dsimp only at hSw); go_simp); all_goals (with_reducible rfl)
        try simp only [Act.put, List.setIfInBounds_toArray, List.set_cons_zero, List.set_cons_succ]
        refine takeV (i := 12) (v := ?_) rfl (by kernel_rfl) (fun _ _ _ h => h) (by rfl) ?_ (by assumption) ?_
        rotate_left
        · (intro w hSw; (try dsimp only at hSw); go_simp); all_goals (with_reducible rfl)
        try simp only [Act.put, List.setIfInBounds_toArray, List.set_cons_zero, List.set_cons_succ]
        refine takeV (i := 13) (v := ?_) rfl (by kernel_rfl) (fun _ _ _ h => h) (by rfl) ?_ (by assumption) ?_
        rotate_left
        · (intro w hSw; (try dsimp only at hSw); go_simp); all_goals (with_reducible rfl)
        try simp only [Act.put, List.setIfInBounds_toArray, List.set_cons_zero, List.set_cons_succ]
        refine takeV (i := 14) (v := ?_) rfl (by kernel_rfl) (fun _ _ _ h => h) (by rfl) ?_ (by assumption) ?_
        rotate_left
        · (intro w hSw; (try dsimp only at hSw); go_simp); all_goals (with_reducible rfl)
        try simp only [Act.put, List.setIfInBounds_toArray, List.set_cons_zero, List.set_cons_succ]
        refine wpAnyH_ready (rs := [11]) (by kernel_rfl) (by simp) ?_
        refine AllReadyH.cons (o := { dst := some 183, op := Op.call { callee := Callee.value (Operand.func 46), args := #[Operand.tmp 182], argTypes := #[4] }, type := 3, pos := "header.go:178", after := #[{ on := 10, ground := Ground.data }, { on := 5, ground := Ground.chain }], guard := none }) rfl (fun K hK => ?_) AllReadyH.nil
        go_simp
        refine (when_any _ _).mono ?_
        rintro e w4 ⟨rfl, m1, hm1, rfl⟩
        refine hK.out _ _ ?_ (fun hHeld => ?_)
        · exact hHeld
        clear hK K
        try simp only [Act.put, List.setIfInBounds_toArray, List.set_cons_zero, List.set_cons_succ]
        refine takeV (i := 15) (v := ?_) rfl (by kernel_rfl) (fun _ _ _ h => h) (by rfl) ?_ (by assumption) ?_
        rotate_left
        · (intro w hSw; (try dsimp only at hSw); go_simp); all_goals (with_reducible rfl)
        try simp only [Act.put, List.setIfInBounds_toArray, List.set_cons_zero, List.set_cons_succ]
        refine takeU (i := 16) rfl (by kernel_rfl) (fun _ _ _ h => h) (by rfl) (by assumption) ?_
        try simp only [Act.put, List.setIfInBounds_toArray, List.set_cons_zero, List.set_cons_succ]
        refine takeU (i := 17) rfl (by kernel_rfl) (fun _ _ _ h => h) (by rfl) (by assumption) ?_
        try simp only [Act.put, List.setIfInBounds_toArray, List.set_cons_zero, List.set_cons_succ]
        refine takeU (i := 18) rfl (by kernel_rfl) (fun _ _ _ h => h) (by rfl) (by assumption) ?_
        try simp only [Act.put, List.setIfInBounds_toArray, List.set_cons_zero, List.set_cons_succ]
        refine takeV (i := 19) (v := ?_) rfl (by kernel_rfl) (fun _ _ _ h => h) (by rfl) ?_ (by assumption) ?_
        rotate_left
        · (intro w hSw; (try dsimp only at hSw); go_simp); all_goals (with_reducible rfl)
        try simp only [Act.put, List.setIfInBounds_toArray, List.set_cons_zero, List.set_cons_succ]
        refine wpAnyH_ready (rs := [20]) (by kernel_rfl) (by simp) ?_
        refine AllReadyH.cons (o := { dst := some 192, op := Op.call { callee := Callee.value (Operand.func 46), args := #[Operand.tmp 191], argTypes := #[4] }, type := 3, pos := "header.go:178", after := #[{ on := 19, ground := Ground.data }, { on := 15, ground := Ground.chain }], guard := none }) rfl (fun K hK => ?_) AllReadyH.nil
        go_simp
        refine (when_any _ _).mono ?_
        rintro e w4 ⟨rfl, m2, hm2, rfl⟩
        refine hK.out _ _ ?_ (fun hHeld => ?_)
        · exact hHeld
        clear hK K
        try simp only [Act.put, List.setIfInBounds_toArray, List.set_cons_zero, List.set_cons_succ]
        refine wpAnyH_ready (rs := [21]) (by kernel_rfl) (by simp) ?_
        refine AllReadyH.cons (o := { dst := some 193, op := Op.buildSlice 46 3 #[(0, Operand.tmp 172), (1, Operand.tmp 183), (2, Operand.tmp 192)], type := 46, pos := "header.go:178", after := #[{ on := 0, ground := Ground.data }, { on := 11, ground := Ground.data }, { on := 20, ground := Ground.data }], guard := none }) rfl (fun K hK => ?_) AllReadyH.nil
        go_simp
        refine hK.out _ _ ?_ (fun hHeld => ?_)
        · go_keep
        clear hK K
        try simp only [Act.put, List.setIfInBounds_toArray, List.set_cons_zero, List.set_cons_succ]
        refine wpAnyH_ready (rs := [22]) (by kernel_rfl) (by simp) ?_
        refine AllReadyH.cons (o := { dst := some 194, op := Op.call { callee := Callee.value (Operand.func 48), args := #[Operand.tmp 193], argTypes := #[46] }, type := 3, pos := "header.go:178", after := #[{ on := 21, ground := Ground.data }, { on := 20, ground := Ground.chain }], guard := none }) rfl (fun K hK => ?_) AllReadyH.nil
        go_simp
        refine (all_at W.heap.size 3 [v, m1, m2] _ 3 (by exact heap_alloc_new W _) rfl (by omega) (V3.mem3 hv.out hm1 hm2)).mono ?_
        rintro e w7 ⟨rfl, v9, hv9, rfl⟩
        refine hK.out _ _ ?_ (fun hHeld => ?_)
        · exact hHeld
        clear hK K
        try simp only [Act.put, List.setIfInBounds_toArray, List.set_cons_zero, List.set_cons_succ]
        refine takeV (i := 23) (v := ?_) rfl (by kernel_rfl) (fun _ _ _ h => h) (by rfl) ?_ (by assumption) ?_
        rotate_left
        · (intro w hSw; (try dsimp only at hSw); go_simp); all_goals (with_reducible rfl)
        try simp only [Act.put, List.setIfInBounds_toArray, List.set_cons_zero, List.set_cons_succ]
        refine wpAnyH_done (by kernel_rfl) ?_ _
        go_wp2_with fail
        exact hn.out v9 _ _ _ _ _ _ _ _ _ _ _ _ _ _ _ _ _ _ _ _ _ _ _ _ _ _ _ _ _ _ _ _ _ _ _ _ _ _ _ _ _ _ _ _ _ _ _ _ _ _ _ _ _ _ _ _ _ _ _ _ _ _ _ _ _ _ _ _ _ _ _ _ _ _ _ _ _ _ _ _ _ _ _ _ _ _ _ _ _ _ _ _ _ _ _ _ _ _ _ _ _ _ _ _ _ _ _ _ _ _ _ _ _ _ _ _ _ _ _ _ _ _ _ _ _ _ _ _ _ _ _ _ _ _ _ _ _ _ _ _ _ _ _ _ _ _ _ _ _ _ _ _ _ _ _ _ _ _ _ _ _ _ _ _ _ _ _ _ _ _ _ _ _ _ _ _ _ _ _ _ _ _ _ _ _ _ _ _ _ _ _ _ _ _ _ _ _ _ _ _ _ _ _ _ _ _ _ _ _ _ _ _ _ _ _ _ _ _ _ _ _ _ _ _ _ _ _ _ _ _ _ _ _ _ _ _ ((hv9.three hv.out (hm1.mono (fun h => (show mtB p = true from (by rw [hz1.out]; first | done | (simpa using h; done) | (simp at h; done)))) (fun h => (show mtB p = false from (by rw [hz1.out]; first | done | (simpa using h; done) | (simp at h; done))))) (hm2.mono (fun h => (show noT p = true from (by rw [hz2.out]; first | done | (simpa using h; done) | (simp at h; done)))) (fun h => (show noT p = false from (by rw [hz2.out]; first | done | (simpa using h; done) | (simp at h; done)))))).mono (fun h => ⟨h.1, fun _ => h.2⟩) (fun h => h.elim .inl (fun h => .inr ⟨HF.out, h⟩))) (blk_below (w := W.drew) b5.out ((Below.refl _ _).alloc (Nat.le_refl _) _)) (hb5d.out.alloc hb5d.out.size _)
  · have HF := Asd.mk f1
    have f1' : (F == 1) = false := by simpa using f1
    clear f1 hF
    go_wp2_with fail
    exact hn.out v _ _ _ _ _ _ _ _ _ _ _ _ _ _ _ _ _ _ _ _ _ _ _ _ _ _ _ _ _ _ _ _ _ _ _ _ _ _ _ _ _ _ _ _ _ _ _ _ _ _ _ _ _ _ _ _ _ _ _ _ _ _ _ _ _ _ _ _ _ _ _ _ _ _ _ _ _ _ _ _ _ _ _ _ _ _ _ _ _ _ _ _ _ _ _ _ _ _ _ _ _ _ _ _ _ _ _ _ _ _ _ _ _ _ _ _ _ _ _ _ _ _ _ _ _ _ _ _ _ _ _ _ _ _ _ _ _ _ _ _ _ _ _ _ _ _ _ _ _ _ _ _ _ _ _ _ _ _ _ _ _ _ _ _ _ _ _ _ _ _ _ _ _ _ _ _ _ _ _ _ _ _ _ _ _ _ _ _ _ _ _ _ _ _ _ _ _ _ _ _ _ _ _ _ _ _ _ _ _ _ _ _ _ _ _ _ _ _ _ _ _ _ _ _ _ _ _ _ _ _ _ _ _ _ _ _ (hv.out.mono (fun h => ⟨h, fun e => absurd e HF.out⟩) (fun h => .inl h)) b5.out hb5.out
theorem code28_13 : code28 13 = .seq (headC (code28 13)) (code28 14) := by kernel_rfl
set_option maxRecDepth 100000 in
set_option maxHeartbeats 4000000 in
theorem can_s13 (p : SpH) (F : Int) (N : Nat) (w : World) (PQ : Ending → World → Prop) (hF : F = 1 ∨ F = 2 ∨ F = 3) (hN : Asd (w.heap.size = N)) (hn : Asd (Nx28 14 p F N w PQ (cP7 p F) (cQ6 p F))) : Nx28 13 p F N w PQ (cP6 p F) (cQ6 p F) := by
  intro v c0 c3 c4 c6 c7 c8 c9 c10 c11 c12 c13 c14 c15 c16 c17 c18 c19 c20 c21 c22 c23 c24 c25 c26 c27 c28 c29 c30 c31 c32 c33 c34 c35 c36 c37 c38 c39 c40 c41 c42 c43 c44 c45 c46 c47 c48 c49 c50 c51 c52 c53 c54 c55 c56 c57 c58 c59 c60 c61 c62 c63 c64 c65 c66 c67 c68 c69 c70 c71 c72 c73 c74 c75 c76 c77 c78 c79 c80 c81 c82 c83 c84 c85 c86 c87 c88 c89 c90 c91 c92 c93 c94 c95 c96 c97 c98 c99 c100 c101 c102 c103 c104 c105 c106 c107 c108 c109 c110 c111 c112 c113 c114 c115 c116 c117 c118 c119 c120 c121 c122 c123 c124 c125 c126 c127 c128 c129 c130 c131 c132 c133 c134 c135 c136 c137 c138 c139 c140 c141 c142 c143 c144 c145 c146 c147 c148 c149 c150 c151 c152 c153 c154 c155 c156 c157 c158 c159 c160 c161 c162 c163 c164 c165 c166 c167 c168 c169 c170 c171 c172 c173 c174 c175 c176 c177 c178 c179 c180 c181 c182 c183 c184 c185 c186 c187 c188 c189 c190 c191 c192 c193 c194 c195 c196 c197 c198 c199 c200 c201 c202 c203 c204 c205 c206 c207 c208 c209 c210 c211 c212 c213 c214 c215 c216 c217 c218 c219 c220 c221 c222 c223 c224 c225 c226 c227 c228 c229 c230 c231 c232 c233 c234 c235 c236 c237 W hv b5 hb5
  rw [code28_13]
  conv => arg 2; arg 1; whnf
  replace hv := Asd.mk hv
  replace hb5 := Asd.mk hb5
  have hb5d : Asd (Below w.heap.size w W.drew) := ⟨Below.drew hb5.out⟩
  obtain ⟨za, hza⟩ : ∃ z, Asd (p.ha = z) := ⟨_, ⟨rfl⟩⟩
  have c_11 : W.cell? ⟨N, 11, none⟩ = some (.bool za) := cell_blk b5 (by first | rfl | (rw [← hza.out]; rfl))
  have c_13 : W.cell? ⟨N, 13, none⟩ = some (.int .i64 p.acs) := cell_blk b5 (by first | rfl | (rw [← hza.out]; rfl))
  have c_14 : W.cell? ⟨N, 14, none⟩ = some (.int .i64 p.acn) := cell_blk b5 (by first | rfl | (rw [← hza.out]; rfl))
  replace b5 := Asd.mk b5
  have hmo := Asd.mk (fun W => moment_any p.acs p.acn F W hF)
  cases za
  · go_wp2_with fail
    exact hn.out v _ _ _ _ _ _ _ _ _ _ _ _ _ _ _ _ _ _ _ _ _ _ _ _ _ _ _ _ _ _ _ _ _ _ _ _ _ _ _ _ _ _ _ _ _ _ _ _ _ _ _ _ _ _ _ _ _ _ _ _ _ _ _ _ _ _ _ _ _ _ _ _ _ _ _ _ _ _ _ _ _ _ _ _ _ _ _ _ _ _ _ _ _ _ _ _ _ _ _ _ _ _ _ _ _ _ _ _ _ _ _ _ _ _ _ _ _ _ _ _ _ _ _ _ _ _ _ _ _ _ _ _ _ _ _ _ _ _ _ _ _ _ _ _ _ _ _ _ _ _ _ _ _ _ _ _ _ _ _ _ _ _ _ _ _ _ _ _ _ _ _ _ _ _ _ _ _ _ _ _ _ _ _ _ _ _ _ _ _ _ _ _ _ _ _ _ _ _ _ _ _ _ _ _ _ _ _ _ _ _ _ _ _ _ _ _ _ _ _ _ _ _ _ _ _ _ _ _ _ _ _ _ _ _ _ _ (hv.out.mono (fun h => ⟨h, fun e => by rw [hza.out] at e; cases e⟩) (fun h => h)) b5.out hb5.out
  · go_wp2_with (first
      | (go_at_call 51; (with_reducible refine (hmo.out _).mono ?_); rintro e w5 ⟨k5, m2, hm2, rfl⟩; have q5 := blk_below b5.out k5; have l5 := hb5.out.trans (k5.mono hb5.out.size); clear k5)
      | (go_at_call 48; refine (all_new _ [v, m2] 2 _ _ rfl rfl (by omega) (V3.mem2 hv.out hm2)).mono ?_; rintro e w7 ⟨rfl, v9, hv9, rfl⟩))
    exact hn.out v9 _ _ _ _ _ _ _ _ _ _ _ _ _ _ _ _ _ _ _ _ _ _ _ _ _ _ _ _ _ _ _ _ _ _ _ _ _ _ _ _ _ _ _ _ _ _ _ _ _ _ _ _ _ _ _ _ _ _ _ _ _ _ _ _ _ _ _ _ _ _ _ _ _ _ _ _ _ _ _ _ _ _ _ _ _ _ _ _ _ _ _ _ _ _ _ _ _ _ _ _ _ _ _ _ _ _ _ _ _ _ _ _ _ _ _ _ _ _ _ _ _ _ _ _ _ _ _ _ _ _ _ _ _ _ _ _ _ _ _ _ _ _ _ _ _ _ _ _ _ _ _ _ _ _ _ _ _ _ _ _ _ _ _ _ _ _ _ _ _ _ _ _ _ _ _ _ _ _ _ _ _ _ _ _ _ _ _ _ _ _ _ _ _ _ _ _ _ _ _ _ _ _ _ _ _ _ _ _ _ _ _ _ _ _ _ _ _ _ _ _ _ _ _ _ _ _ _ _ _ _ _ _ _ _ _ _ ((hv9.two hv.out hm2).mono (fun h => ⟨h.1, fun _ => h.2⟩) (fun h => h.elim id False.elim)) (blk_below q5 ((Below.refl _ _).alloc (Nat.le_refl _) _)) (l5.alloc l5.size _)
theorem code28_14 : code28 14 = .seq (headC (code28 14)) (code28 15) := by kernel_rfl
set_option maxRecDepth 100000 in
set_option maxHeartbeats 4000000 in
theorem can_s14 (p : SpH) (F : Int) (N : Nat) (w : World) (PQ : Ending → World → Prop) (hF : F = 1 ∨ F = 2 ∨ F = 3) (hN : Asd (w.heap.size = N)) (hn : Asd (Nx28 15 p F N w PQ (cP8 p F) (cQ6 p F))) : Nx28 14 p F N w PQ (cP7 p F) (cQ6 p F) := by
  intro v c0 c3 c4 c6 c7 c8 c9 c10 c11 c12 c13 c14 c15 c16 c17 c18 c19 c20 c21 c22 c23 c24 c25 c26 c27 c28 c29 c30 c31 c32 c33 c34 c35 c36 c37 c38 c39 c40 c41 c42 c43 c44 c45 c46 c47 c48 c49 c50 c51 c52 c53 c54 c55 c56 c57 c58 c59 c60 c61 c62 c63 c64 c65 c66 c67 c68 c69 c70 c71 c72 c73 c74 c75 c76 c77 c78 c79 c80 c81 c82 c83 c84 c85 c86 c87 c88 c89 c90 c91 c92 c93 c94 c95 c96 c97 c98 c99 c100 c101 c102 c103 c104 c105 c106 c107 c108 c109 c110 c111 c112 c113 c114 c115 c116 c117 c118 c119 c120 c121 c122 c123 c124 c125 c126 c127 c128 c129 c130 c131 c132 c133 c134 c135 c136 c137 c138 c139 c140 c141 c142 c143 c144 c145 c146 c147 c148 c149 c150 c151 c152 c153 c154 c155 c156 c157 c158 c159 c160 c161 c162 c163 c164 c165 c166 c167 c168 c169 c170 c171 c172 c173 c174 c175 c176 c177 c178 c179 c180 c181 c182 c183 c184 c185 c186 c187 c188 c189 c190 c191 c192 c193 c194 c195 c196 c197 c198 c199 c200 c201 c202 c203 c204 c205 c206 c207 c208 c209 c210 c211 c212 c213 c214 c215 c216 c217 c218 c219 c220 c221 c222 c223 c224 c225 c226 c227 c228 c229 c230 c231 c232 c233 c234 c235 c236 c237 W hv b5 hb5
  rw [code28_14]
  conv => arg 2; arg 1; whnf
  replace hv := Asd.mk hv
  replace hb5 := Asd.mk hb5
  have hb5d : Asd (Below w.heap.size w W.drew) := ⟨Below.drew hb5.out⟩
  obtain ⟨za, hza⟩ : ∃ z, Asd (p.hc = z) := ⟨_, ⟨rfl⟩⟩
  have c_12 : W.cell? ⟨N, 12, none⟩ = some (.bool za) := cell_blk b5 (by first | rfl | (rw [← hza.out]; rfl))
  have c_15 : W.cell? ⟨N, 15, none⟩ = some (.int .i64 p.cs) := cell_blk b5 (by first | rfl | (rw [← hza.out]; rfl))
  have c_16 : W.cell? ⟨N, 16, none⟩ = some (.int .i64 p.cn) := cell_blk b5 (by first | rfl | (rw [← hza.out]; rfl))
  replace b5 := Asd.mk b5
  have hmo := Asd.mk (fun W => moment_any p.cs p.cn F W hF)
  cases za
  · go_wp2_with fail
    exact hn.out v _ _ _ _ _ _ _ _ _ _ _ _ _ _ _ _ _ _ _ _ _ _ _ _ _ _ _ _ _ _ _ _ _ _ _ _ _ _ _ _ _ _ _ _ _ _ _ _ _ _ _ _ _ _ _ _ _ _ _ _ _ _ _ _ _ _ _ _ _ _ _ _ _ _ _ _ _ _ _ _ _ _ _ _ _ _ _ _ _ _ _ _ _ _ _ _ _ _ _ _ _ _ _ _ _ _ _ _ _ _ _ _ _ _ _ _ _ _ _ _ _ _ _ _ _ _ _ _ _ _ _ _ _ _ _ _ _ _ _ _ _ _ _ _ _ _ _ _ _ _ _ _ _ _ _ _ _ _ _ _ _ _ _ _ _ _ _ _ _ _ _ _ _ _ _ _ _ _ _ _ _ _ _ _ _ _ _ _ _ _ _ _ _ _ _ _ _ _ _ _ _ _ _ _ _ _ _ _ _ _ _ _ _ _ _ _ _ _ _ _ _ _ _ _ _ _ _ _ _ _ _ _ _ _ _ _ (hv.out.mono (fun h => ⟨h, fun e => by rw [hza.out] at e; cases e⟩) (fun h => h)) b5.out hb5.out
  · go_wp2_with (first
      | (go_at_call 51; (with_reducible refine (hmo.out _).mono ?_); rintro e w5 ⟨k5, m2, hm2, rfl⟩; have q5 := blk_below b5.out k5; have l5 := hb5.out.trans (k5.mono hb5.out.size); clear k5)
      | (go_at_call 48; refine (all_new _ [v, m2] 2 _ _ rfl rfl (by omega) (V3.mem2 hv.out hm2)).mono ?_; rintro e w7 ⟨rfl, v9, hv9, rfl⟩))
    exact hn.out v9 _ _ _ _ _ _ _ _ _ _ _ _ _ _ _ _ _ _ _ _ _ _ _ _ _ _ _ _ _ _ _ _ _ _ _ _ _ _ _ _ _ _ _ _ _ _ _ _ _ _ _ _ _ _ _ _ _ _ _ _ _ _ _ _ _ _ _ _ _ _ _ _ _ _ _ _ _ _ _ _ _ _ _ _ _ _ _ _ _ _ _ _ _ _ _ _ _ _ _ _ _ _ _ _ _ _ _ _ _ _ _ _ _ _ _ _ _ _ _ _ _ _ _ _ _ _ _ _ _ _ _ _ _ _ _ _ _ _ _ _ _ _ _ _ _ _ _ _ _ _ _ _ _ _ _ _ _ _ _ _ _ _ _ _ _ _ _ _ _ _ _ _ _ _ _ _ _ _ _ _ _ _ _ _ _ _ _ _ _ _ _ _ _ _ _ _ _ _ _ _ _ _ _ _ _ _ _ _ _ _ _ _ _ _ _ _ _ _ _ _ _ _ _ _ _ _ _ _ _ _ _ _ _ _ _ _ ((hv9.two hv.out hm2).mono (fun h => ⟨h.1, fun _ => h.2⟩) (fun h => h.elim id False.elim)) (blk_below q5 ((Below.refl _ _).alloc (Nat.le_refl _) _)) (l5.alloc l5.size _)
theorem code28_15 : code28 15 = .seq (headC (code28 15)) (code28 16) := by kernel_rfl
set_option maxRecDepth 100000 in
set_option maxHeartbeats 4000000 in
theorem can_s15 (p : SpH) (F : Int) (N : Nat) (w : World) (PQ : Ending → World → Prop) (hF : F = 1 ∨ F = 2 ∨ F = 3) (hN : Asd (w.heap.size = N)) (rs : List (ByteArray × ByteArray)) (hrl : Asd (rs.length = p.rn)) (hn : Asd (Nx28 16 p F N w PQ (cP9 p F rs) (cQ9 p F rs))) : Nx28 15 p F N w PQ (cP8 p F) (cQ6 p F) := by
  intro v c0 c3 c4 c6 c7 c8 c9 c10 c11 c12 c13 c14 c15 c16 c17 c18 c19 c20 c21 c22 c23 c24 c25 c26 c27 c28 c29 c30 c31 c32 c33 c34 c35 c36 c37 c38 c39 c40 c41 c42 c43 c44 c45 c46 c47 c48 c49 c50 c51 c52 c53 c54 c55 c56 c57 c58 c59 c60 c61 c62 c63 c64 c65 c66 c67 c68 c69 c70 c71 c72 c73 c74 c75 c76 c77 c78 c79 c80 c81 c82 c83 c84 c85 c86 c87 c88 c89 c90 c91 c92 c93 c94 c95 c96 c97 c98 c99 c100 c101 c102 c103 c104 c105 c106 c107 c108 c109 c110 c111 c112 c113 c114 c115 c116 c117 c118 c119 c120 c121 c122 c123 c124 c125 c126 c127 c128 c129 c130 c131 c132 c133 c134 c135 c136 c137 c138 c139 c140 c141 c142 c143 c144 c145 c146 c147 c148 c149 c150 c151 c152 c153 c154 c155 c156 c157 c158 c159 c160 c161 c162 c163 c164 c165 c166 c167 c168 c169 c170 c171 c172 c173 c174 c175 c176 c177 c178 c179 c180 c181 c182 c183 c184 c185 c186 c187 c188 c189 c190 c191 c192 c193 c194 c195 c196 c197 c198 c199 c200 c201 c202 c203 c204 c205 c206 c207 c208 c209 c210 c211 c212 c213 c214 c215 c216 c217 c218 c219 c220 c221 c222 c223 c224 c225 c226 c227 c228 c229 c230 c231 c232 c233 c234 c235 c236 c237 W hv b5 hb5
  rw [code28_15]
  conv => arg 2; arg 1; whnf
  replace hv := Asd.mk hv
  replace hb5 := Asd.mk hb5
  have hb5d : Asd (Below w.heap.size w W.drew) := ⟨Below.drew hb5.out⟩
  have c_19 : W.cell? ⟨N, 19, none⟩ = some (.slice p.ra p.rn p.rc) := cell_blk b5 (by first | rfl | (rw [← hza.out]; rfl))
  replace b5 := Asd.mk b5
  by_cases n0 : 0 < p.rn
  · have HN := Asd.mk n0
    have n0d : decide ((0 : Int) < (p.rn : Int)) = true := decide_eq_true (by omega)
    have n0i : (0 : Int) < (p.rn : Int) := by omega
    by_cases f2 : F = 2
    · have HF := Asd.mk f2
      have f2' : (F != 2) = false := by simpa using f2
      clear f2 hF
      go_wp2_with fail
      exact hn.out v _ _ _ _ _ _ _ _ _ _ _ _ _ _ _ _ _ _ _ _ _ _ _ _ _ _ _ _ _ _ _ _ _ _ _ _ _ _ _ _ _ _ _ _ _ _ _ _ _ _ _ _ _ _ _ _ _ _ _ _ _ _ _ _ _ _ _ _ _ _ _ _ _ _ _ _ _ _ _ _ _ _ _ _ _ _ _ _ _ _ _ _ _ _ _ _ _ _ _ _ _ _ _ _ _ _ _ _ _ _ _ _ _ _ _ _ _ _ _ _ _ _ _ _ _ _ _ _ _ _ _ _ _ _ _ _ _ _ _ _ _ _ _ _ _ _ _ _ _ _ _ _ _ _ _ _ _ _ _ _ _ _ _ _ _ _ _ _ _ _ _ _ _ _ _ _ _ _ _ _ _ _ _ _ _ _ _ _ _ _ _ _ _ _ _ _ _ _ _ _ _ _ _ _ _ _ _ _ _ _ _ _ _ _ _ _ _ _ _ _ _ _ _ _ _ _ _ _ _ _ _ _ _ _ _ _ (hv.out.mono (fun h => ⟨h, fun _ => HF.out⟩) (fun h => .inl h)) b5.out hb5.out
    · have HF := Asd.mk f2
      have f2' : (F != 2) = true := by simpa using f2
      clear f2 hF
      go_wp2_with (go_at_call 48; refine (all_new _ [v, 2] 2 _ _ rfl rfl (by omega) (V3.mem2 hv.out (V3.wrong (P := True) (Q := True) trivial))).mono ?_; rintro e w7 ⟨rfl, v9, hv9, rfl⟩)
      exact hn.out v9 _ _ _ _ _ _ _ _ _ _ _ _ _ _ _ _ _ _ _ _ _ _ _ _ _ _ _ _ _ _ _ _ _ _ _ _ _ _ _ _ _ _ _ _ _ _ _ _ _ _ _ _ _ _ _ _ _ _ _ _ _ _ _ _ _ _ _ _ _ _ _ _ _ _ _ _ _ _ _ _ _ _ _ _ _ _ _ _ _ _ _ _ _ _ _ _ _ _ _ _ _ _ _ _ _ _ _ _ _ _ _ _ _ _ _ _ _ _ _ _ _ _ _ _ _ _ _ _ _ _ _ _ _ _ _ _ _ _ _ _ _ _ _ _ _ _ _ _ _ _ _ _ _ _ _ _ _ _ _ _ _ _ _ _ _ _ _ _ _ _ _ _ _ _ _ _ _ _ _ _ _ _ _ _ _ _ _ _ _ _ _ _ _ _ _ _ _ _ _ _ _ _ _ _ _ _ _ _ _ _ _ _ _ _ _ _ _ _ _ _ _ _ _ _ _ _ _ _ _ _ _ _ _ _ _ _ ((hv9.two hv.out (V3.wrong (P := False) (Q := 0 < rs.length ∧ F ≠ 2) ⟨by rw [hrl.out]; exact HN.out, HF.out⟩)).mono (fun h => h.2.elim) (fun h => h)) (blk_below b5.out ((Below.refl _ _).alloc (Nat.le_refl _) _)) (hb5.out.alloc hb5.out.size _)
  · have HN := Asd.mk n0
    have n0d : decide ((0 : Int) < (p.rn : Int)) = false := decide_eq_false (by omega)
    go_wp2_with fail
    exact hn.out v _ _ _ _ _ _ _ _ _ _ _ _ _ _ _ _ _ _ _ _ _ _ _ _ _ _ _ _ _ _ _ _ _ _ _ _ _ _ _ _ _ _ _ _ _ _ _ _ _ _ _ _ _ _ _ _ _ _ _ _ _ _ _ _ _ _ _ _ _ _ _ _ _ _ _ _ _ _ _ _ _ _ _ _ _ _ _ _ _ _ _ _ _ _ _ _ _ _ _ _ _ _ _ _ _ _ _ _ _ _ _ _ _ _ _ _ _ _ _ _ _ _ _ _ _ _ _ _ _ _ _ _ _ _ _ _ _ _ _ _ _ _ _ _ _ _ _ _ _ _ _ _ _ _ _ _ _ _ _ _ _ _ _ _ _ _ _ _ _ _ _ _ _ _ _ _ _ _ _ _ _ _ _ _ _ _ _ _ _ _ _ _ _ _ _ _ _ _ _ _ _ _ _ _ _ _ _ _ _ _ _ _ _ _ _ _ _ _ _ _ _ _ _ _ _ _ _ _ _ _ _ _ _ _ _ _ (hv.out.mono (fun h => ⟨h, fun e => absurd e (by rw [hrl.out]; exact HN.out)⟩) (fun h => .inl h)) b5.out hb5.out
theorem code28_16 : code28 16 = .seq (headC (code28 16)) (code28 17) := by kernel_rfl
set_option maxRecDepth 100000 in
set_option maxHeartbeats 4000000 in
theorem can_s16 (p : SpH) (F : Int) (N : Nat) (w : World) (PQ : Ending → World → Prop) (hF : F = 1 ∨ F = 2 ∨ F = 3) (hN : Asd (w.heap.size = N)) (rs : List (ByteArray × ByteArray)) (hr : Asd (RecS w p.ra p.rn rs)) (hT : Asd (totR rs ≤ 1099511627776)) (hn : Asd (Nx28 17 p F N w PQ (cP9 p F rs ∧ ∀ kv ∈ rs, RecOk kv.1) (cQ9 p F rs ∨ ∃ kv ∈ rs, RecBad kv.1))) : Nx28 16 p F N w PQ (cP9 p F rs) (cQ9 p F rs) := by
  intro v c0 c3 c4 c6 c7 c8 c9 c10 c11 c12 c13 c14 c15 c16 c17 c18 c19 c20 c21 c22 c23 c24 c25 c26 c27 c28 c29 c30 c31 c32 c33 c34 c35 c36 c37 c38 c39 c40 c41 c42 c43 c44 c45 c46 c47 c48 c49 c50 c51 c52 c53 c54 c55 c56 c57 c58 c59 c60 c61 c62 c63 c64 c65 c66 c67 c68 c69 c70 c71 c72 c73 c74 c75 c76 c77 c78 c79 c80 c81 c82 c83 c84 c85 c86 c87 c88 c89 c90 c91 c92 c93 c94 c95 c96 c97 c98 c99 c100 c101 c102 c103 c104 c105 c106 c107 c108 c109 c110 c111 c112 c113 c114 c115 c116 c117 c118 c119 c120 c121 c122 c123 c124 c125 c126 c127 c128 c129 c130 c131 c132 c133 c134 c135 c136 c137 c138 c139 c140 c141 c142 c143 c144 c145 c146 c147 c148 c149 c150 c151 c152 c153 c154 c155 c156 c157 c158 c159 c160 c161 c162 c163 c164 c165 c166 c167 c168 c169 c170 c171 c172 c173 c174 c175 c176 c177 c178 c179 c180 c181 c182 c183 c184 c185 c186 c187 c188 c189 c190 c191 c192 c193 c194 c195 c196 c197 c198 c199 c200 c201 c202 c203 c204 c205 c206 c207 c208 c209 c210 c211 c212 c213 c214 c215 c216 c217 c218 c219 c220 c221 c222 c223 c224 c225 c226 c227 c228 c229 c230 c231 c232 c233 c234 c235 c236 c237 W hv b5 hb5
  rw [code28_16]
  conv => arg 2; arg 1; whnf
  replace hv := Asd.mk hv
  replace hb5 := Asd.mk hb5
  have hb5d : Asd (Below w.heap.size w W.drew) := ⟨Below.drew hb5.out⟩
  have c_19 : W.cell? ⟨N, 19, none⟩ = some (.slice p.ra p.rn p.rc) := cell_blk b5 (by first | rfl | (rw [← hza.out]; rfl))
  replace b5 := Asd.mk b5
  have hlen : Asd (rs.length = p.rn) := ⟨hr.out.1⟩
  have h6 : p.rn ≤ 1099511627776 := by have := totR_len rs; have := hr.out.1; have := hT.out; omega
  go_wp2_with fail
  go_loopw [5, 227] (fun s i wr => ∃ k : Nat, ∃ x : Int, k ≤ p.rn ∧ i = .int .i64 k ∧ s = .int .i64 x ∧ V3 (cPk p F rs k) (cQk p F rs k) x ∧ wr.heap[N]? = some (.cells p.cells.toArray 40 (0, 0)) ∧ Below w.heap.size w wr) (fun _ i _ => p.rn - (intOf i).toNat)
  case atStart => exact ⟨0, v, by omega, rfl, rfl, hv.out.mono (fun h => ⟨h, fun kv hk => by simp at hk⟩) (fun h => .inl h), b5.out, hb5.out⟩
  case round =>
    obtain ⟨k, x, hk, rfl, rfl, hx, bk, hbk⟩ := hrel
    replace hx := Asd.mk hx
    replace bk := Asd.mk bk
    replace hbk := Asd.mk hbk
    by_cases hlt : k < p.rn
    · have hkl : k < rs.length := by rw [hlen.out]; exact hlt
      have hm := totR_mem rs k hkl
      obtain ⟨g, R, T, fr, hra, hgb, hcl⟩ : ∃ g R T fr, p.ra = some ⟨g, 0, none⟩ ∧ wr.heap[g]? = some (.cells R T fr) ∧ ∀ (j : Nat) kv, rs[j]? = some kv → R[2 * j]? = some (.string kv.1) ∧ R[2 * j + 1]? = some (.string kv.2) := by
        rcases (hr.out.below hbk.out).2 with h' | h'
        · rw [h'] at hkl; exact absurd hkl (by simp)
        · exact h'
      obtain ⟨e1, e2⟩ := hcl k _ (List.getElem?_eq_getElem hkl)
      have d1 : wr.cell? ⟨g, k * 2, none⟩ = some (.string (rs[k]'hkl).1) := by rw [Nat.mul_comm]; simp [World.cell?, hgb, e1]
      have d2 : wr.cell? ⟨g, k * 2 + 1, none⟩ = some (.string (rs[k]'hkl).2) := by rw [Nat.mul_comm]; simp [World.cell?, hgb, e2]
      have hnx : Asd (∀ y, V3 (cPk p F rs k ∧ RecOk (rs[k]'hkl).1) (cQk p F rs k ∨ RecBad (rs[k]'hkl).1) y → V3 (cPk p F rs (k + 1)) (cQk p F rs (k + 1)) y) := ⟨by
        intro y hy
        have htk : rs.take (k + 1) = rs.take k ++ [rs[k]'hkl] := List.take_succ_eq_append_getElem hkl
        refine hy.mono ?_ ?_
        · rintro ⟨⟨h1, h2⟩, h3⟩
          refine ⟨h1, fun kv hkv => ?_⟩
          rw [htk, List.mem_append, List.mem_singleton] at hkv
          rcases hkv with hkv | rfl
          · exact h2 kv hkv
          · exact h3
        · rintro (h | h)
          · rcases h with h | ⟨kv, h1, h2⟩
            · exact .inl h
            · exact .inr ⟨kv, by rw [htk]; exact List.mem_append_left _ h1, h2⟩
          · exact .inr ⟨_, by rw [htk]; exact List.mem_append_right _ (by simp), h⟩⟩
      clear hgb hcl e1 e2
      have hrec := Asd.mk (fun W => record_any (rs[k]'hkl).1 (rs[k]'hkl).2 W (by have := hT.out; omega) (by have := hT.out; omega))
      generalize rs[k]'hkl = kv at *
      rw [hra]
      clear hm
      go_wp2_with (first
        | (go_at_call 52; (with_reducible refine (hrec.out _).mono ?_); rintro e w5 ⟨k5, m2, hm2, rfl⟩; have q5 := blk_below (blk_below bk.out ((Below.refl _ _).alloc (Nat.le_refl _) _)) k5; have l5 := (hbk.out.alloc hbk.out.size (.cells #[.string kv.1, .string kv.2] 119 (0, 0))).trans (k5.mono (hbk.out.alloc hbk.out.size (.cells #[.string kv.1, .string kv.2] 119 (0, 0))).size); clear k5)
        | (go_at_call 48; refine (all_new _ [x, m2] 2 _ _ rfl rfl (by omega) (V3.mem2 hx.out hm2)).mono ?_; rintro e w7 ⟨rfl, v9, hv9, rfl⟩))
      go_roundw
      case rel => exact ⟨k + 1, v9, by omega, by go_num, rfl, hnx.out v9 (hv9.two hx.out hm2), blk_below q5 ((Below.refl _ _).alloc (Nat.le_refl _) _), l5.alloc l5.size _⟩
      case measure => simp [intOf]; omega
    · have htk : Asd (rs.take k = rs) := ⟨List.take_of_length_le (by rw [hlen.out]; omega)⟩
      go_wp2_with fail
      exact hn.out x _ _ _ _ _ _ _ _ _ _ _ _ _ _ _ _ _ _ _ _ _ _ _ _ _ _ _ _ _ _ _ _ _ _ _ _ _ _ _ _ _ _ _ _ _ _ _ _ _ _ _ _ _ _ _ _ _ _ _ _ _ _ _ _ _ _ _ _ _ _ _ _ _ _ _ _ _ _ _ _ _ _ _ _ _ _ _ _ _ _ _ _ _ _ _ _ _ _ _ _ _ _ _ _ _ _ _ _ _ _ _ _ _ _ _ _ _ _ _ _ _ _ _ _ _ _ _ _ _ _ _ _ _ _ _ _ _ _ _ _ _ _ _ _ _ _ _ _ _ _ _ _ _ _ _ _ _ _ _ _ _ _ _ _ _ _ _ _ _ _ _ _ _ _ _ _ _ _ _ _ _ _ _ _ _ _ _ _ _ _ _ _ _ _ _ _ _ _ _ _ _ _ _ _ _ _ _ _ _ _ _ _ _ _ _ _ _ _ _ _ _ _ _ _ _ _ _ _ _ _ _ _ _ _ _ _ (by have := hx.out; unfold cPk cQk at this; rw [htk.out] at this; exact this) bk.out hbk.out
theorem code28_17 : code28 17 = .seq (headC (code28 17)) .ret := by kernel_rfl
set_option maxRecDepth 100000 in
set_option maxHeartbeats 4000000 in
theorem can_s17 (p : SpH) (F : Int) (N : Nat) (w : World) (PQ : Ending → World → Prop) (P Q : Prop) (hfin : Asd (∀ v W, V3 P Q v → Below w.heap.size w W → PQ (.returned (.int .i64 v)) W)) : Nx28 17 p F N w PQ P Q := by
  intro v c0 c3 c4 c6 c7 c8 c9 c10 c11 c12 c13 c14 c15 c16 c17 c18 c19 c20 c21 c22 c23 c24 c25 c26 c27 c28 c29 c30 c31 c32 c33 c34 c35 c36 c37 c38 c39 c40 c41 c42 c43 c44 c45 c46 c47 c48 c49 c50 c51 c52 c53 c54 c55 c56 c57 c58 c59 c60 c61 c62 c63 c64 c65 c66 c67 c68 c69 c70 c71 c72 c73 c74 c75 c76 c77 c78 c79 c80 c81 c82 c83 c84 c85 c86 c87 c88 c89 c90 c91 c92 c93 c94 c95 c96 c97 c98 c99 c100 c101 c102 c103 c104 c105 c106 c107 c108 c109 c110 c111 c112 c113 c114 c115 c116 c117 c118 c119 c120 c121 c122 c123 c124 c125 c126 c127 c128 c129 c130 c131 c132 c133 c134 c135 c136 c137 c138 c139 c140 c141 c142 c143 c144 c145 c146 c147 c148 c149 c150 c151 c152 c153 c154 c155 c156 c157 c158 c159 c160 c161 c162 c163 c164 c165 c166 c167 c168 c169 c170 c171 c172 c173 c174 c175 c176 c177 c178 c179 c180 c181 c182 c183 c184 c185 c186 c187 c188 c189 c190 c191 c192 c193 c194 c195 c196 c197 c198 c199 c200 c201 c202 c203 c204 c205 c206 c207 c208 c209 c210 c211 c212 c213 c214 c215 c216 c217 c218 c219 c220 c221 c222 c223 c224 c225 c226 c227 c228 c229 c230 c231 c232 c233 c234 c235 c236 c237 W hv b5 hb5
  rw [code28_17]
  conv => arg 2; arg 1; whnf
  replace hv := Asd.mk hv
  replace hb5 := Asd.mk hb5
  clear b5
  go_wp2
  exact hfin.out _ _ hv.out hb5.out
end Go.Proofs.YtpkilegnokajmaaGreatDoor
