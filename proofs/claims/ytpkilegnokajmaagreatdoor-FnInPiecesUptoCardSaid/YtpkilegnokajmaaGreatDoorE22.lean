/- impl.header. -/
import Derived.Test.YtpkilegnokajmaaGreatDoorE21
import Derived.Deep.RegionHeld
set_option linter.unusedVariables false
set_option linter.unusedSimpArgs false
set_option linter.unnecessarySimpa false
set_option linter.unusedSectionVars false
namespace Go.Proofs.YtpkilegnokajmaaGreatDoor
open Go.RowKit Go.Maps
/-- A header as it comes in. -/
structure InH where
  tf : UInt8
  name : ByteArray
  link : ByteArray
  size : Int
  mode : Int
  uid : Int
  gid : Int
  uname : ByteArray
  gname : ByteArray
  ms : Int
  mn : Int
  ha : Bool
  acs : Int
  acn : Int
  hc : Bool
  cs : Int
  cn : Int
  maj : Int
  min : Int
  rv : Value
  fmt : Int
def InH.cells (h : InH) : List Value := [.int .u8 h.tf.toNat, .string h.name, .string h.link, .int .i64 h.size, .int .i64 h.mode, .int .i64 h.uid, .int .i64 h.gid, .string h.uname, .string h.gname, .int .i64 h.ms, .int .i64 h.mn, .bool h.ha, .int .i64 h.acs, .int .i64 h.acn, .bool h.hc, .int .i64 h.cs, .int .i64 h.cn, .int .i64 h.maj, .int .i64 h.min, h.rv, .int .i64 h.fmt]
def i64R (x : Int) : Prop := -9223372036854775808 ≤ x ∧ x ≤ 9223372036854775807
structure InH.Ok (h : InH) : Prop where
  ms : i64R h.ms
  mn : i64R h.mn
  acs : i64R h.acs
  acn : i64R h.acn
  cs : i64R h.cs
  cn : i64R h.cn
def InH.hd0 (h : InH) : Hd := ⟨h.tf, h.name, h.link, h.size, h.mode, h.uid, h.gid, h.uname, h.gname, unixN h.mn, unixX h.ms h.mn, 0, 0, 0, 0, h.maj, h.min, .map none, .map none, fm (fmtU h.fmt) (fmtP h.fmt) (fmtG h.fmt)⟩
def hdA (h : InH) (H : Hd) : Hd := if h.ha then { H with an := unixN h.acn, ax := unixX h.acs h.acn } else H
def hdC (h : InH) (H : Hd) : Hd := if h.hc then { H with cn := unixN h.cn, cx := unixX h.cs h.cn } else H
def InH.hd (h : InH) (m : Value) : Hd := { hdC h (hdA h h.hd0) with recs := m }
theorem hd_none (h : InH) : hdC h (hdA h h.hd0) = h.hd (.map none) := by
  unfold InH.hd
  have h1 : (hdA h h.hd0).recs = .map none := by unfold hdA; split <;> rfl
  have h2 : ∀ H : Hd, H.recs = .map none → (hdC h H).recs = .map none := by intro H hH; unfold hdC; split <;> exact hH
  have h3 := h2 _ h1
  rw [← h3]
set_option maxRecDepth 100000 in
set_option maxHeartbeats 4000000 in
theorem header_none (h : InH) (ok : h.Ok) (w : World) (hr : ∃ ao c, h.rv = .slice ao 0 c) :
    Calls Tryz.prog 18 #[.agg h.cells.toArray] w fun e w' => ∃ hb, w.heap.size ≤ hb ∧ e = .returned (.pointer (some ⟨hb, 0, none⟩)) ∧ w'.heap[hb]? = some (.cells (h.hd (.map none)).cells.toArray 100 (0, 0)) ∧ Below w.heap.size w w' := by
  obtain ⟨ao, c, hrv⟩ := hr
  have hu := fun W => unix_any h.ms h.mn W ok.ms ok.mn
  have hf := fun W => format_any h.fmt W
  unfold tmV at hu
  replace hu := Asd.mk hu
  replace hf := Asd.mk hf
  unfold InH.cells
  rw [hrv]
  obtain ⟨N, hN⟩ : ∃ N, Asd (w.heap.size = N) := ⟨_, ⟨rfl⟩⟩
  go_enter Tryz.func18, Tryz.ntmps18
  go_upto_region 1 with fail
  obtain ⟨W1, hW1⟩ : ∃ W1, Asd (W1 = w.alloc (.cells #[.int .u8 h.tf.toNat, .string h.name, .string h.link, .int .i64 h.size, .int .i64 h.mode, .int .i64 h.uid, .int .i64 h.gid, .string h.uname, .string h.gname, .int .i64 h.ms, .int .i64 h.mn, .bool h.ha, .int .i64 h.acs, .int .i64 h.acn, .bool h.hc, .int .i64 h.cs, .int .i64 h.cn, .int .i64 h.maj, .int .i64 h.min, .slice ao 0 c, .int .i64 h.fmt] 32 (0, 0))) := ⟨_, ⟨rfl⟩⟩
  rw [← hW1.out]
  have hb1 : W1.heap[N]? = some (.cells #[.int .u8 h.tf.toNat, .string h.name, .string h.link, .int .i64 h.size, .int .i64 h.mode, .int .i64 h.uid, .int .i64 h.gid, .string h.uname, .string h.gname, .int .i64 h.ms, .int .i64 h.mn, .bool h.ha, .int .i64 h.acs, .int .i64 h.acn, .bool h.hc, .int .i64 h.cs, .int .i64 h.cn, .int .i64 h.maj, .int .i64 h.min, .slice ao 0 c, .int .i64 h.fmt] 32 (0, 0)) := by rw [hW1.out, ← hN.out]; exact heap_alloc_new _ _
  have l1 : Below w.heap.size w W1 := by rw [hW1.out]; exact (Below.refl _ _).alloc (Nat.le_refl _) _
  rw [hN.out]
  have a0 : W1.cell? ⟨N, 0, none⟩ = some (.int .u8 h.tf.toNat) := (by rw [Lib.cell_of_heap hb1]; rfl)
  have a1 : W1.cell? ⟨N, 1, none⟩ = some (.string h.name) := (by rw [Lib.cell_of_heap hb1]; rfl)
  have a2 : W1.cell? ⟨N, 2, none⟩ = some (.string h.link) := (by rw [Lib.cell_of_heap hb1]; rfl)
  have a3 : W1.cell? ⟨N, 3, none⟩ = some (.int .i64 h.size) := (by rw [Lib.cell_of_heap hb1]; rfl)
  have a4 : W1.cell? ⟨N, 4, none⟩ = some (.int .i64 h.mode) := (by rw [Lib.cell_of_heap hb1]; rfl)
  have a5 : W1.cell? ⟨N, 5, none⟩ = some (.int .i64 h.uid) := (by rw [Lib.cell_of_heap hb1]; rfl)
  have a6 : W1.cell? ⟨N, 6, none⟩ = some (.int .i64 h.gid) := (by rw [Lib.cell_of_heap hb1]; rfl)
  have a7 : W1.cell? ⟨N, 7, none⟩ = some (.string h.uname) := (by rw [Lib.cell_of_heap hb1]; rfl)
  have a8 : W1.cell? ⟨N, 8, none⟩ = some (.string h.gname) := (by rw [Lib.cell_of_heap hb1]; rfl)
  have a9 : W1.cell? ⟨N, 9, none⟩ = some (.int .i64 h.ms) := (by rw [Lib.cell_of_heap hb1]; rfl)
  have a10 : W1.cell? ⟨N, 10, none⟩ = some (.int .i64 h.mn) := (by rw [Lib.cell_of_heap hb1]; rfl)
  have a17 : W1.cell? ⟨N, 17, none⟩ = some (.int .i64 h.maj) := (by rw [Lib.cell_of_heap hb1]; rfl)
  have a18 : W1.cell? ⟨N, 18, none⟩ = some (.int .i64 h.min) := (by rw [Lib.cell_of_heap hb1]; rfl)
  have a20 : W1.cell? ⟨N, 20, none⟩ = some (.int .i64 h.fmt) := (by rw [Lib.cell_of_heap hb1]; rfl)
  replace hb1 := Asd.mk hb1
  go_region_held (fun w' => w'.cell? ⟨N, 0, none⟩ = some (.int .u8 h.tf.toNat) ∧ w'.cell? ⟨N, 1, none⟩ = some (.string h.name) ∧ w'.cell? ⟨N, 2, none⟩ = some (.string h.link) ∧ w'.cell? ⟨N, 3, none⟩ = some (.int .i64 h.size) ∧ w'.cell? ⟨N, 4, none⟩ = some (.int .i64 h.mode) ∧ w'.cell? ⟨N, 5, none⟩ = some (.int .i64 h.uid) ∧ w'.cell? ⟨N, 6, none⟩ = some (.int .i64 h.gid) ∧ w'.cell? ⟨N, 7, none⟩ = some (.string h.uname) ∧ w'.cell? ⟨N, 8, none⟩ = some (.string h.gname) ∧ w'.cell? ⟨N, 9, none⟩ = some (.int .i64 h.ms) ∧ w'.cell? ⟨N, 10, none⟩ = some (.int .i64 h.mn) ∧ w'.cell? ⟨N, 17, none⟩ = some (.int .i64 h.maj) ∧ w'.cell? ⟨N, 18, none⟩ = some (.int .i64 h.min) ∧ w'.cell? ⟨N, 20, none⟩ = some (.int .i64 h.fmt)) (go_keep)
    (first
    | (go_at_call 40; (with_reducible refine (hu.out _).mono ?_); rintro e w2 ⟨rfl, f2⟩; have hb2 := blk_below (w := W1.drew) hb1.out f2; have b0 : w2.cell? ⟨N, 0, none⟩ = some (.int .u8 h.tf.toNat) := (by rw [Lib.cell_of_heap hb2]; rfl); have b1 : w2.cell? ⟨N, 1, none⟩ = some (.string h.name) := (by rw [Lib.cell_of_heap hb2]; rfl); have b2 : w2.cell? ⟨N, 2, none⟩ = some (.string h.link) := (by rw [Lib.cell_of_heap hb2]; rfl); have b3 : w2.cell? ⟨N, 3, none⟩ = some (.int .i64 h.size) := (by rw [Lib.cell_of_heap hb2]; rfl); have b4 : w2.cell? ⟨N, 4, none⟩ = some (.int .i64 h.mode) := (by rw [Lib.cell_of_heap hb2]; rfl); have b5 : w2.cell? ⟨N, 5, none⟩ = some (.int .i64 h.uid) := (by rw [Lib.cell_of_heap hb2]; rfl); have b6 : w2.cell? ⟨N, 6, none⟩ = some (.int .i64 h.gid) := (by rw [Lib.cell_of_heap hb2]; rfl); have b7 : w2.cell? ⟨N, 7, none⟩ = some (.string h.uname) := (by rw [Lib.cell_of_heap hb2]; rfl); have b8 : w2.cell? ⟨N, 8, none⟩ = some (.string h.gname) := (by rw [Lib.cell_of_heap hb2]; rfl); have b9 : w2.cell? ⟨N, 9, none⟩ = some (.int .i64 h.ms) := (by rw [Lib.cell_of_heap hb2]; rfl); have b10 : w2.cell? ⟨N, 10, none⟩ = some (.int .i64 h.mn) := (by rw [Lib.cell_of_heap hb2]; rfl); have b17 : w2.cell? ⟨N, 17, none⟩ = some (.int .i64 h.maj) := (by rw [Lib.cell_of_heap hb2]; rfl); have b18 : w2.cell? ⟨N, 18, none⟩ = some (.int .i64 h.min) := (by rw [Lib.cell_of_heap hb2]; rfl); have b20 : w2.cell? ⟨N, 20, none⟩ = some (.int .i64 h.fmt) := (by rw [Lib.cell_of_heap hb2]; rfl); replace hb2 := Asd.mk hb2)
    | (go_at_call 41; (with_reducible refine (hf.out _).mono ?_); rintro e w3 ⟨rfl, rfl⟩))
  have l3 : Below w.heap.size w w3 := l1.trans ((Below.drew (Below.refl _ W1)).trans f2 |>.mono l1.size)
  have hi3 : w3.heap[N]? = some (.cells #[.int .u8 h.tf.toNat, .string h.name, .string h.link, .int .i64 h.size, .int .i64 h.mode, .int .i64 h.uid, .int .i64 h.gid, .string h.uname, .string h.gname, .int .i64 h.ms, .int .i64 h.mn, .bool h.ha, .int .i64 h.acs, .int .i64 h.acn, .bool h.hc, .int .i64 h.cs, .int .i64 h.cn, .int .i64 h.maj, .int .i64 h.min, .slice ao 0 c, .int .i64 h.fmt] 32 (0, 0)) := blk_below (w := W1.drew) hb1.out f2
  obtain ⟨K, hK⟩ : ∃ K, Asd (w3.heap.size = K) := ⟨_, ⟨rfl⟩⟩
  obtain ⟨W4, hW4⟩ : ∃ W4, Asd (W4 = w3.alloc (.cells #[.int .u8 h.tf.toNat, .string h.name, .string h.link, .int .i64 h.size, .int .i64 h.mode, .int .i64 h.uid, .int .i64 h.gid, .string h.uname, .string h.gname, .int .u64 (unixN h.mn : Nat), .int .i64 (unixX h.ms h.mn), .int .u64 0, .int .i64 0, .int .u64 0, .int .i64 0, .int .i64 h.maj, .int .i64 h.min, .map none, .map none, .int .i64 (fm (fmtU h.fmt) (fmtP h.fmt) (fmtG h.fmt))] 100 (0, 0))) := ⟨_, ⟨rfl⟩⟩
  have i4 : W4.heap[N]? = some (.cells #[.int .u8 h.tf.toNat, .string h.name, .string h.link, .int .i64 h.size, .int .i64 h.mode, .int .i64 h.uid, .int .i64 h.gid, .string h.uname, .string h.gname, .int .i64 h.ms, .int .i64 h.mn, .bool h.ha, .int .i64 h.acs, .int .i64 h.acn, .bool h.hc, .int .i64 h.cs, .int .i64 h.cn, .int .i64 h.maj, .int .i64 h.min, .slice ao 0 c, .int .i64 h.fmt] 32 (0, 0)) := by rw [hW4.out]; exact blk_below hi3 ((Below.refl _ _).alloc (Nat.le_refl _) _)
  have k4 : W4.heap[K]? = some (.cells h.hd0.cells.toArray 100 (0, 0)) := by rw [hW4.out, ← hK.out]; exact heap_alloc_new _ _
  have l4 : Below w.heap.size w W4 := by rw [hW4.out]; exact l3.alloc l3.size _
  have kN : w.heap.size ≤ K := by rw [← hK.out]; exact l3.size
  rw [← hW4.out, hK.out]
  have a11 : W4.cell? ⟨N, 11, none⟩ = some (.bool h.ha) := by rw [Lib.cell_of_heap i4]; rfl
  obtain ⟨ha, hha⟩ : ∃ b, Asd (h.ha = b) := ⟨_, ⟨rfl⟩⟩
  rw [hha.out] at a11
  have hua := Asd.mk (fun W => unix_any h.acs h.acn W ok.acs ok.acn)
  unfold tmV at hua
  go_upto_if 41 with fail
  go_cut [] from 42 to 51 (fun wx => Below w.heap.size w wx ∧ wx.heap[N]? = some (.cells #[.int .u8 h.tf.toNat, .string h.name, .string h.link, .int .i64 h.size, .int .i64 h.mode, .int .i64 h.uid, .int .i64 h.gid, .string h.uname, .string h.gname, .int .i64 h.ms, .int .i64 h.mn, .bool h.ha, .int .i64 h.acs, .int .i64 h.acn, .bool h.hc, .int .i64 h.cs, .int .i64 h.cn, .int .i64 h.maj, .int .i64 h.min, .slice ao 0 c, .int .i64 h.fmt] 32 (0, 0)) ∧ wx.heap[K]? = some (.cells (hdA h h.hd0).cells.toArray 100 (0, 0)))
  case first =>
    cases ha
    · go_wp2_with fail
      go_meet
      case rel => exact ⟨l4, i4, by unfold hdA; rw [hha.out]; exact k4⟩
    · have a12 : W4.cell? ⟨N, 12, none⟩ = some (.int .i64 h.acs) := by rw [Lib.cell_of_heap i4]; rfl
      have a13 : W4.cell? ⟨N, 13, none⟩ = some (.int .i64 h.acn) := by rw [Lib.cell_of_heap i4]; rfl
      have kne : N ≠ K := by rw [← hK.out]; have := blk_lt hi3; omega
      go_wp2_with (go_at_call 40; (with_reducible refine (hua.out _).mono ?_); rintro e w5 ⟨rfl, f5⟩; have k5 := blk_below k4 f5; have i5 := blk_below i4 f5; have m11 : w5.cell? ⟨K, 11, none⟩ = some (.int .u64 0) := cell_blk k5 rfl; have m12 : w5.cell? ⟨K, 12, none⟩ = some (.int .i64 0) := cell_blk k5 rfl; have mz : ∀ j, w5.frozen? ⟨K, j, none⟩ = false := fun j => frozen_blk k5)
      go_meet
      case rel =>
        have s1 := set_blk (j := 11) (v := .int .u64 (unixN h.acn)) k5
        have s2 := set_blk (j := 12) (v := .int .i64 (unixX h.acs h.acn)) s1
        have l5 := ((l4.trans (f5.mono l4.size)).setCell (p := ⟨K, 11, none⟩) kN (.int .u64 (unixN h.acn))).setCell (p := ⟨K, 12, none⟩) kN (.int .i64 (unixX h.acs h.acn))
        refine ⟨l5, ?_, ?_⟩
        · rw [Below.heap_setCell _ _ _ _ kne, Below.heap_setCell _ _ _ _ kne]; exact i5
        · unfold hdA; rw [hha.out]; exact s2
  case rest =>
  have kne : N ≠ K := by rw [← hK.out]; have := blk_lt hi3; omega
  clear i4 k4 l4 a11
  obtain ⟨l4, i4, k4⟩ := hcut
  obtain ⟨HA, hHA⟩ : ∃ HA, Asd (HA = hdA h h.hd0) := ⟨_, ⟨rfl⟩⟩
  rw [← hHA.out] at k4
  obtain ⟨hcb, hhc⟩ : ∃ b, Asd (h.hc = b) := ⟨_, ⟨rfl⟩⟩
  have a14 : wc.cell? ⟨N, 14, none⟩ = some (.bool hcb) := by rw [← hhc.out, Lib.cell_of_heap i4]; rfl
  have huc := Asd.mk (fun W => unix_any h.cs h.cn W ok.cs ok.cn)
  unfold tmV at huc
  go_upto_if 53 with fail
  go_cut [] from 54 to 63 (fun wx => Below w.heap.size w wx ∧ wx.heap[N]? = some (.cells #[.int .u8 h.tf.toNat, .string h.name, .string h.link, .int .i64 h.size, .int .i64 h.mode, .int .i64 h.uid, .int .i64 h.gid, .string h.uname, .string h.gname, .int .i64 h.ms, .int .i64 h.mn, .bool h.ha, .int .i64 h.acs, .int .i64 h.acn, .bool h.hc, .int .i64 h.cs, .int .i64 h.cn, .int .i64 h.maj, .int .i64 h.min, .slice ao 0 c, .int .i64 h.fmt] 32 (0, 0)) ∧ wx.heap[K]? = some (.cells (hdC h HA).cells.toArray 100 (0, 0)))
  case first =>
    cases hcb
    · go_wp2_with fail
      go_meet
      case rel => exact ⟨l4, i4, by unfold hdC; rw [hhc.out]; exact k4⟩
    · have a15 : wc.cell? ⟨N, 15, none⟩ = some (.int .i64 h.cs) := by rw [Lib.cell_of_heap i4]; rfl
      have a16 : wc.cell? ⟨N, 16, none⟩ = some (.int .i64 h.cn) := by rw [Lib.cell_of_heap i4]; rfl
      go_wp2_with (go_at_call 40; (with_reducible refine (huc.out _).mono ?_); rintro e w5 ⟨rfl, f5⟩; have k5 := blk_below k4 f5; have i5 := blk_below i4 f5; have m13 : w5.cell? ⟨K, 13, none⟩ = some (.int .u64 HA.cn) := cell_blk k5 rfl; have m14 : w5.cell? ⟨K, 14, none⟩ = some (.int .i64 HA.cx) := cell_blk k5 rfl; have mz : ∀ j, w5.frozen? ⟨K, j, none⟩ = false := fun j => frozen_blk k5)
      go_meet
      case rel =>
        have s1 := set_blk (j := 13) (v := .int .u64 (unixN h.cn)) k5
        have s2 := set_blk (j := 14) (v := .int .i64 (unixX h.cs h.cn)) s1
        have l5 := ((l4.trans (f5.mono l4.size)).setCell (p := ⟨K, 13, none⟩) kN (.int .u64 (unixN h.cn))).setCell (p := ⟨K, 14, none⟩) kN (.int .i64 (unixX h.cs h.cn))
        refine ⟨l5, ?_, ?_⟩
        · rw [Below.heap_setCell _ _ _ _ kne, Below.heap_setCell _ _ _ _ kne]; exact i5
        · unfold hdC; rw [hhc.out]; exact s2
  case rest =>
  clear i4 k4 l4 a14
  obtain ⟨l4, i4, k4⟩ := hcut
  have a19 : wc.cell? ⟨N, 19, none⟩ = some (.slice ao 0 c) := by rw [Lib.cell_of_heap i4]; rfl
  go_wp2_with fail
  go_ret
  exact ⟨K, kN, rfl, by rw [hHA.out, hd_none] at k4; exact k4, l4⟩
end Go.Proofs.YtpkilegnokajmaaGreatDoor
