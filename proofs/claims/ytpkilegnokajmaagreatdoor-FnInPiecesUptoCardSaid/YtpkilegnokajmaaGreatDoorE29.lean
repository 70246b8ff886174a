/- laws.global: a header with records for all files. -/
import Derived.Test.YtpkilegnokajmaaGreatDoorE28
import Derived.Laws.StructEq
import Derived.BigGuardPart
set_option linter.unusedVariables false
set_option linter.unusedSimpArgs false
set_option linter.unnecessarySimpa false
set_option linter.unusedSectionVars false
namespace Go.Proofs.YtpkilegnokajmaaGreatDoor
open Go.RowKit Go.Maps
theorem isE_nil {s : ByteArray} (h : s.toList.isEmpty = true) : s.data.toList = [] := by
  rw [← ByteArray.toList_eq]
  exact List.isEmpty_iff.1 h
/-- The header that the statement asks the specification for. -/
def gSp (ra : Option Addr) (rn rc : Nat) : SpH := ⟨48, ⟨#[120]⟩, ⟨#[]⟩, 0, 0, 0, 0, ⟨#[]⟩, ⟨#[]⟩, 0, 0, false, false, 0, 0, 0, 0, 0, 0, ra, rn, rc, 0⟩
def GlPost (h : InH) (rs : List (ByteArray × ByteArray)) (w : World) (e : Ending) (w' : World) : Prop := Below w.heap.size w w' ∧ ∃ v : Int, e = .returned (.int .i64 v) ∧ (v = 1 → h.tf = 103 → GlobC h rs)
set_option maxRecDepth 100000 in
set_option maxHeartbeats 4000000 in
theorem global_any (B : Nat) (h : InH) (a : Option Addr) (n c : Nat) (rs : List (ByteArray × ByteArray)) (w : World) (x : HdI B w h a n c rs) (hB : B ≤ w.heap.size) :
    Calls Tryz.prog 31 #[.agg h.cells.toArray] w (GlPost h rs w) := by
  obtain ⟨C, hC⟩ : ∃ C, Asd (C = h.cells) := ⟨_, ⟨rfl⟩⟩
  obtain ⟨N, hN⟩ : ∃ N, Asd (w.heap.size = N) := ⟨_, ⟨rfl⟩⟩
  replace x := Asd.mk x
  rw [← hC.out]
  go_enter Tryz.func31, Tryz.ntmps31
  go_upto_region 1 with fail
  obtain ⟨W, hW⟩ : ∃ W, Asd (W = w.alloc (.cells C.toArray 32 (0, 0))) := ⟨_, ⟨rfl⟩⟩
  have b0 := heap_alloc_new w (.cells C.toArray 32 (0, 0))
  have hb : Below w.heap.size w (w.alloc (.cells C.toArray 32 (0, 0))) := (Below.refl _ _).alloc (Nat.le_refl _) _
  rw [← hW.out] at b0 hb
  rw [hN.out] at b0
  rw [← hW.out, hN.out]
  clear hW
  have c1 : W.cell? ⟨N, 1, none⟩ = some (.string h.name) := cell_blk b0 (by rw [hC.out]; rfl)
  have c2 : W.cell? ⟨N, 2, none⟩ = some (.string h.link) := cell_blk b0 (by rw [hC.out]; rfl)
  have c3 : W.cell? ⟨N, 3, none⟩ = some (.int .i64 h.size) := cell_blk b0 (by rw [hC.out]; rfl)
  have c4 : W.cell? ⟨N, 4, none⟩ = some (.int .i64 h.mode) := cell_blk b0 (by rw [hC.out]; rfl)
  have c5 : W.cell? ⟨N, 5, none⟩ = some (.int .i64 h.uid) := cell_blk b0 (by rw [hC.out]; rfl)
  have c6 : W.cell? ⟨N, 6, none⟩ = some (.int .i64 h.gid) := cell_blk b0 (by rw [hC.out]; rfl)
  have c7 : W.cell? ⟨N, 7, none⟩ = some (.string h.uname) := cell_blk b0 (by rw [hC.out]; rfl)
  have c8 : W.cell? ⟨N, 8, none⟩ = some (.string h.gname) := cell_blk b0 (by rw [hC.out]; rfl)
  have c9 : W.cell? ⟨N, 9, none⟩ = some (.int .i64 h.ms) := cell_blk b0 (by rw [hC.out]; rfl)
  have c10 : W.cell? ⟨N, 10, none⟩ = some (.int .i64 h.mn) := cell_blk b0 (by rw [hC.out]; rfl)
  have c11 : W.cell? ⟨N, 11, none⟩ = some (.bool h.ha) := cell_blk b0 (by rw [hC.out]; rfl)
  have c14 : W.cell? ⟨N, 14, none⟩ = some (.bool h.hc) := cell_blk b0 (by rw [hC.out]; rfl)
  have c17 : W.cell? ⟨N, 17, none⟩ = some (.int .i64 h.maj) := cell_blk b0 (by rw [hC.out]; rfl)
  have c18 : W.cell? ⟨N, 18, none⟩ = some (.int .i64 h.min) := cell_blk b0 (by rw [hC.out]; rfl)
  have c20 : W.cell? ⟨N, 20, none⟩ = some (.int .i64 h.fmt) := cell_blk b0 (by rw [hC.out]; rfl)
  have c19 : W.cell? ⟨N, 19, none⟩ = some (.slice a n c) := cell_blk b0 (by rw [hC.out, ← x.out.rv]; rfl)
  have hf := Asd.mk (records_any B a n c rs W (x.out.rc.below (hb.mono hB)) (Nat.le_trans hB hb.size) x.out.tot)
  have hn : (n : Int) ≤ c := by have := x.out.cap; omega
  replace b0 := Asd.mk b0
  replace hb := Asd.mk hb
  have no : ∀ W', Below W.heap.size W W' → GlPost h rs w (.returned (.int .i64 0)) W' := fun W' h1 => ⟨hb.out.trans (h1.mono hb.out.size), 0, rfl, fun e => by cases e⟩
  replace no := Asd.mk no
  have mk : ∀ (ra : Option Addr) (rc : Nat), CanOk (gSp ra n rc) rs 2 → h.name.toList = [] → h.link.toList = [] → h.uname.toList = [] → h.gname.toList = [] → h.size = 0 → h.mode = 0 → h.uid = 0 → h.gid = 0 → h.maj = 0 → h.min = 0 → h.ms = -62135596800 → h.mn = 0 → ¬ h.ha = true → ¬ h.hc = true → (h.fmt = 0 ∨ h.fmt = 2) → h.tf = 103 → GlobC h rs := by
    intro ra rc hc k1 k2 k3 k4 k5 k6 k7 k8 k9 k10 k11 k12 k13 k14 k15 k16
    rw [ByteArray.toList_eq] at k1 k2 k3 k4
    refine ⟨k16, k1, k2, k3, k4, ⟨k5, k6, k7, k8, k9, k10⟩, ⟨k11, k12, by simpa using k13, by simpa using k14⟩, k15, hc.2.2, ?_⟩
    have hs := hc.1
    unfold strB totH at hs
    simp only [Bool.or_eq_false_iff, decide_eq_false_iff_not] at hs
    omega
  replace mk := Asd.mk mk
  have htot : totR rs ≤ 25165824 := by have := x.out.tot; omega
  replace htot := Asd.mk htot
  clear hn
  have hcan := Asd.mk (fun ra rc W' hr => can_any (gSp ra n rc) rs 2 W' (.inr (.inl rfl)) hr (by show 1 + 0 + 0 + 0 + totR rs ≤ _; have := htot.out; omega))
  go_wp2_with (first
    | (go_at_call 29; refine hf.out.mono ?_; rintro e w1 ⟨ra, rc, rfl, hrs, hb1⟩; replace hrs := Asd.mk hrs; replace hb1 := Asd.mk hb1)
    | (go_at_call 28; refine (hcan.out ra rc _ hrs.out).mono ?_; rintro e w2 ⟨hb2, v, hv, rfl⟩; replace hb2 := Asd.mk hb2; replace hv := Asd.mk hv))
  all_goals first
    | (exfalso; simp [undef] at *; done)
    | (go_ret; exact no.out _ (Below.refl _ _))
    | (go_ret
       refine ⟨(hb.out.trans (hb1.out.mono hb.out.size)).trans (hb2.out.mono (Nat.le_trans hb.out.size hb1.out.size)), v, rfl, fun e ht => mk.out ra rc (hv.out.2.1 e) (by assumption) (by assumption) (by assumption) (by assumption) (by assumption) (by assumption) (by assumption) (by assumption) (by assumption) (by assumption) (by assumption) (by assumption) (by assumption) (by assumption) ?_ ht⟩
       first | (left; assumption) | (have h9 := ‹(_ == _) = false ∧ _›; simp at h9; omega))
end Go.Proofs.YtpkilegnokajmaaGreatDoor
