/- allowedFormats. -/
import Derived.Test.YtpkilegnokajmaaGreatDoorE10
import Derived.Test.YtpkilegnokajmaaGreatDoorA00
import Derived.StillTailTactics
set_option linter.unusedVariables false
set_option linter.unusedSimpArgs false
set_option linter.unnecessarySimpa false
set_option linter.unusedSectionVars false
namespace Go.Proofs.YtpkilegnokajmaaGreatDoor
open Go.RowKit Go.Maps
theorem Af.init (G : GlP) (B : Nat) (H : Hd) (R : DataW Unit) (rn : Nat) (w w' : World) (hg : Gl G B w) (hr : RecM H.recs w.heap.size rn R w)
    (hw : Asd (w' = (((((((w.alloc (.cells H.cells.toArray 100)).alloc (.cells #[.int .i64 14] 98)).alloc (.cells #[.map (some (w.heap.size + 3))] 97)).alloc (.map #[] 0)).alloc (.cells #[.string ⟨#[]⟩] 9)).alloc (.cells #[.string ⟨#[]⟩] 9)).alloc (.cells #[.string ⟨#[]⟩] 9)).alloc (.cells #[.bool false] 4))) :
    Af G B H R rn w.heap.size 0 st0 w w' := by
  obtain ⟨rfl⟩ := hw
  have e : ∀ (l : List Obj) (k : Nat) (o : Obj), l[k]? = some o → (w.heap ++ l.toArray)[w.heap.size + k]? = some o := by
    intro l k o h
    rw [Array.getElem?_append_right (by omega), Nat.add_sub_cancel_left]
    simpa using h
  have eh : ∀ L : List Obj, L = [.cells H.cells.toArray 100, .cells #[.int .i64 14] 98, .cells #[.map (some (w.heap.size + 3))] 97, .map #[] 0, .cells #[.string ⟨#[]⟩] 9, .cells #[.string ⟨#[]⟩] 9, .cells #[.string ⟨#[]⟩] 9, .cells #[.bool false] 4] → (((((((((w.alloc (.cells H.cells.toArray 100)).alloc (.cells #[.int .i64 14] 98)).alloc (.cells #[.map (some (w.heap.size + 3))] 97)).alloc (.map #[] 0)).alloc (.cells #[.string ⟨#[]⟩] 9)).alloc (.cells #[.string ⟨#[]⟩] 9)).alloc (.cells #[.string ⟨#[]⟩] 9)).alloc (.cells #[.bool false] 4)).heap = w.heap ++ L.toArray) := by
    rintro L rfl
    show ((((((((w.heap.push _).push _).push _).push _).push _).push _).push _).push _) = _
    apply Array.ext'
    simp only [Array.toList_push, Array.toList_append, List.append_assoc, List.cons_append, List.nil_append]
  have hb : Below w.heap.size w ((((((((w.alloc (.cells H.cells.toArray 100)).alloc (.cells #[.int .i64 14] 98)).alloc (.cells #[.map (some (w.heap.size + 3))] 97)).alloc (.map #[] 0)).alloc (.cells #[.string ⟨#[]⟩] 9)).alloc (.cells #[.string ⟨#[]⟩] 9)).alloc (.cells #[.string ⟨#[]⟩] 9)).alloc (.cells #[.bool false] 4)) := by
    refine ⟨rfl, rfl, rfl, ?_, fun i hi => ?_⟩
    · rw [eh _ rfl]; simp
    · rw [eh _ rfl, Array.getElem?_append_left hi]
  refine ⟨?_, ?_, ?_, ?_, ?_, ?_, ?_, ?_, rfl, hg.size, hg.below (hb.mono hg.size), hr.below hb, hb⟩
  · rw [eh _ rfl]; exact e _ 0 _ rfl
  · rw [eh _ rfl]; exact e _ 1 _ rfl
  · rw [eh _ rfl]; exact e _ 2 _ rfl
  · have h3 : ∀ W : World, W.heap[w.heap.size + 3]? = some (.map #[] 0) → SM W (w.heap.size + 3) 0 (.map []) := by
      intro W hW
      obtain ⟨es, clock, h1, h2⟩ := World.ownsMap_made (H := Unit) w Tryz.prog 9 (plainElem Tryz.prog 9)
      have h4 : (w.alloc (.map #[] 0)).heap[w.heap.size]? = some (.map #[] 0) := by show (w.heap.push _)[w.heap.size]? = _; exact Array.getElem?_push_size
      rw [h4] at h1
      cases h1
      exact ⟨_, _, hW, h2⟩
    exact h3 _ (by rw [eh _ rfl]; exact e _ 3 _ rfl)
  · exact ⟨_, by rw [eh _ rfl]; exact e _ 4 _ rfl⟩
  · exact ⟨_, by rw [eh _ rfl]; exact e _ 5 _ rfl⟩
  · exact ⟨_, by rw [eh _ rfl]; exact e _ 6 _ rfl⟩
  · rw [eh _ rfl]; exact e _ 7 _ rfl
theorem to26 {K : Act → World → Prop} {Q : Exit → Act → World → Prop} {a : Act} {w : World} (h : ∀ a w, Code.wp Tryz.prog (code35 26) Q a w → K a w) (h2 : Code.wp Tryz.prog (code35 26) Q a w) : K a w := h a w h2
set_option maxRecDepth 100000 in
set_option maxHeartbeats 8000000 in
theorem allowed_any (G : GlP) (B : Nat) (H : Hd) (R : DataW Unit) (rn : Nat) (w : World) (hg : Gl G B w) (hr : RecM H.recs w.heap.size rn R w) (ok : H.Ok) (hxa : H.xat = .map none) (hRs : Small R) (hnr : 26 + rn < 1073741824) (fu fp fg : Bool) (hf : H.fmt = fm fu fp fg) :
    Calls Tryz.prog 35 #[.agg H.cells.toArray] w (AfPost H R rn fu fp fg w) := by
  replace hxa := Asd.mk hxa
  replace hf := Asd.mk hf
  have hmm := @run_makeMap Tryz.prog
  have hin := Asd.mk (fun w' hw => Af.init G B H R rn w w' hg hr hw)
  replace ok := Asd.mk ok
  unfold Hd.cells at hin
  unfold Hd.cells
  obtain ⟨N, hN⟩ : ∃ N, Asd (w.heap.size = N) := ⟨_, ⟨rfl⟩⟩
  clear hg
  go_enter Tryz.func35, Tryz.ntmps35
  go_upto_region 8 with fail
  go_cut [0, 1, 2, 3, 5, 6, 7, 8, 9, 10, 11, 12] (fun s0 s1 s2 s3 s5 s6 s7 s8 s9 s10 s11 s12 wx => s1 = .pointer (some ⟨N, 0, none⟩) ∧ s2 = .pointer (some ⟨N + 1, 0, none⟩) ∧ s3 = .pointer (some ⟨N + 2, 0, none⟩) ∧ s5 = .pointer (some ⟨N + 4, 0, none⟩) ∧ s6 = .pointer (some ⟨N + 5, 0, none⟩) ∧ s7 = .pointer (some ⟨N + 6, 0, none⟩) ∧ s8 = .pointer (some ⟨N + 7, 0, none⟩) ∧
    s9 = .func (.func 59) #[] #[.pointer (some ⟨N + 6, 0, none⟩), .pointer (some ⟨N + 1, 0, none⟩), .pointer (some ⟨N + 4, 0, none⟩), .pointer (some ⟨N + 5, 0, none⟩), .pointer (some ⟨N + 2, 0, none⟩), .pointer (some ⟨N, 0, none⟩)] ∧ s10 = .func (.func 64) #[] #[.pointer (some ⟨N + 6, 0, none⟩), .pointer (some ⟨N + 1, 0, none⟩), .pointer (some ⟨N + 4, 0, none⟩), .pointer (some ⟨N + 5, 0, none⟩), .pointer (some ⟨N + 2, 0, none⟩), .pointer (some ⟨N, 0, none⟩)] ∧ s11 = .func (.func 68) #[] #[.pointer (some ⟨N + 6, 0, none⟩), .pointer (some ⟨N + 1, 0, none⟩), .pointer (some ⟨N + 4, 0, none⟩), .pointer (some ⟨N + 7, 0, none⟩), .pointer (some ⟨N + 5, 0, none⟩), .pointer (some ⟨N + 2, 0, none⟩), .pointer (some ⟨N, 0, none⟩)] ∧ s12 = .pointer (some ⟨N + 8, 0, none⟩) ∧ Af G B H R rn N 0 st0 w wx)
  case first =>
    go_wp2_with fail
    go_meet
    case rel =>
      rw [hN.out]
      refine ⟨rfl, rfl, rfl, rfl, rfl, rfl, rfl, rfl, rfl, rfl, rfl, ?_⟩
      rw [← hN.out]
      exact (hin.out _ ⟨rfl⟩).blw ((Below.refl _ _).alloc (Nat.le_refl _) _)
  case rest =>
  clear hmm hin
  obtain ⟨rfl, rfl, rfl, rfl, rfl, rfl, rfl, rfl, rfl, rfl, rfl, hA⟩ := hcut
  go_upto_region 12 with (first
    | (go_at_call 73; refine (acc73 _ _).mono ?_; rintro e w' ⟨rfl, rfl⟩)
    | (go_at_call 74; refine (acc74 _ _).mono ?_; rintro e w' ⟨rfl, rfl⟩)
    | (go_at_call 75; refine (acc75 _ _).mono ?_; rintro e w' ⟨rfl, rfl⟩))
  have cF := hA.hd (j := 1) (v := .string H.name) rfl
  go_upto_region 12 with fail
  go_cut [] from 35 to 41 (fun wx => Af G B H R rn N 2 (afStr R true true H.name kPathB 100 st0) w wx)
  case first =>
    refine wp_region_still_tail 6 (by kernel_rfl) (by kernel_rfl) ?_
    simp only [List.take_succ_cons, List.take_zero, List.drop_succ_cons, List.drop_zero]
    still_step
    still_step
    still_step
    still_step
    still_call ((acc76 _ 0 _).mono (by rintro e w' ⟨rfl, rfl⟩; exact ⟨rfl, rfl⟩))
    repeat still_step
    refine wpStill_nil ?_
    go_wp2_with (go_at_call 59; refine (vStr_path hA.drew H.name _ 100 ok.out.name (by omega) (by decide) (by omega)).mono ?_; rintro e w1 ⟨rfl, hA1⟩)
    go_meet
    case rel => exact hA1

  case rest =>
  clear hA cF
  have hA := hcut
  clear hcut
  have cF := hA.hd (j := 2) (v := .string H.link) rfl
  go_upto_region 13 with fail
  go_cut [] from 42 to 48 (fun wx => Af G B H R rn N 4 (afStr R false true H.link kLinkB 100 (afStr R true true H.name kPathB 100 st0)) w wx)
  case first =>
    refine wp_region_still_tail 6 (by kernel_rfl) (by kernel_rfl) ?_
    simp only [List.take_succ_cons, List.take_zero, List.drop_succ_cons, List.drop_zero]
    still_step
    still_step
    still_step
    still_step
    still_call ((acc77 _ 0 _).mono (by rintro e w' ⟨rfl, rfl⟩; exact ⟨rfl, rfl⟩))
    repeat still_step
    refine wpStill_nil ?_
    go_wp2_with (go_at_call 59; refine (vStr_link hA.drew H.link _ 100 ok.out.link (by omega) (by decide) (by omega)).mono ?_; rintro e w1 ⟨rfl, hA1⟩)
    go_meet
    case rel => exact hA1

  case rest =>
  clear hA cF
  have hA := hcut
  clear hcut
  have cF := hA.hd (j := 7) (v := .string H.uname) rfl
  go_upto_region 14 with fail
  go_cut [] from 49 to 55 (fun wx => Af G B H R rn N 6 (afStr R false false H.uname kUnameB 32 (afStr R false true H.link kLinkB 100 (afStr R true true H.name kPathB 100 st0))) w wx)
  case first =>
    refine wp_region_still_tail 6 (by kernel_rfl) (by kernel_rfl) ?_
    simp only [List.take_succ_cons, List.take_zero, List.drop_succ_cons, List.drop_zero]
    still_step
    still_step
    still_step
    still_step
    still_call ((acc78 _ 0 _).mono (by rintro e w' ⟨rfl, rfl⟩; exact ⟨rfl, rfl⟩))
    repeat still_step
    refine wpStill_nil ?_
    go_wp2_with (go_at_call 59; refine (vStr_uname hA.drew H.uname _ 32 ok.out.uname (by omega) (by decide) (by omega)).mono ?_; rintro e w1 ⟨rfl, hA1⟩)
    go_meet
    case rel => exact hA1

  case rest =>
  clear hA cF
  have hA := hcut
  clear hcut
  have cF := hA.hd (j := 8) (v := .string H.gname) rfl
  go_upto_region 15 with fail
  go_cut [] from 56 to 62 (fun wx => Af G B H R rn N 8 (afStr R false false H.gname kGnameB 32 (afStr R false false H.uname kUnameB 32 (afStr R false true H.link kLinkB 100 (afStr R true true H.name kPathB 100 st0)))) w wx)
  case first =>
    refine wp_region_still_tail 6 (by kernel_rfl) (by kernel_rfl) ?_
    simp only [List.take_succ_cons, List.take_zero, List.drop_succ_cons, List.drop_zero]
    still_step
    still_step
    still_step
    still_step
    still_call ((acc79 _ 0 _).mono (by rintro e w' ⟨rfl, rfl⟩; exact ⟨rfl, rfl⟩))
    repeat still_step
    refine wpStill_nil ?_
    go_wp2_with (go_at_call 59; refine (vStr_gname hA.drew H.gname _ 32 ok.out.gname (by omega) (by decide) (by omega)).mono ?_; rintro e w1 ⟨rfl, hA1⟩)
    go_meet
    case rel => exact hA1

  case rest =>
  clear hA cF
  have hA := hcut
  clear hcut
  have cF := hA.hd (j := 4) (v := .int .i64 H.mode) rfl
  go_upto_region 16 with fail
  go_cut [] from 63 to 69 (fun wx => Af G B H R rn N 10 (afNum R true H.mode kNoneB 8 (afStr R false false H.gname kGnameB 32 (afStr R false false H.uname kUnameB 32 (afStr R false true H.link kLinkB 100 (afStr R true true H.name kPathB 100 st0))))) w wx)
  case first =>
    refine wp_region_still_tail 6 (by kernel_rfl) (by kernel_rfl) ?_
    simp only [List.take_succ_cons, List.take_zero, List.drop_succ_cons, List.drop_zero]
    still_step
    still_step
    still_step
    still_step
    still_call ((acc80 _ 0 _).mono (by rintro e w' ⟨rfl, rfl⟩; exact ⟨rfl, rfl⟩))
    repeat still_step
    refine wpStill_nil ?_
    go_wp2_with (go_at_call 64; refine (vNum_none8 hA.drew H.mode _ ok.out.mode (by omega) (by decide)).mono ?_; rintro e w1 ⟨rfl, hA1⟩)
    go_meet
    case rel => exact hA1

  case rest =>
  clear hA cF
  have hA := hcut
  clear hcut
  have cF := hA.hd (j := 5) (v := .int .i64 H.uid) rfl
  go_upto_region 17 with fail
  go_cut [] from 70 to 76 (fun wx => Af G B H R rn N 12 (afNum R false H.uid kUidB 8 (afNum R true H.mode kNoneB 8 (afStr R false false H.gname kGnameB 32 (afStr R false false H.uname kUnameB 32 (afStr R false true H.link kLinkB 100 (afStr R true true H.name kPathB 100 st0)))))) w wx)
  case first =>
    refine wp_region_still_tail 6 (by kernel_rfl) (by kernel_rfl) ?_
    simp only [List.take_succ_cons, List.take_zero, List.drop_succ_cons, List.drop_zero]
    still_step
    still_step
    still_step
    still_step
    still_call ((acc81 _ 0 _).mono (by rintro e w' ⟨rfl, rfl⟩; exact ⟨rfl, rfl⟩))
    repeat still_step
    refine wpStill_nil ?_
    go_wp2_with (go_at_call 64; refine (vNum_uid8 hA.drew H.uid _ ok.out.uid (by omega) (by decide)).mono ?_; rintro e w1 ⟨rfl, hA1⟩)
    go_meet
    case rel => exact hA1

  case rest =>
  clear hA cF
  have hA := hcut
  clear hcut
  have cF := hA.hd (j := 6) (v := .int .i64 H.gid) rfl
  go_upto_region 18 with fail
  go_cut [] from 77 to 83 (fun wx => Af G B H R rn N 14 (afNum R false H.gid kGidB 8 (afNum R false H.uid kUidB 8 (afNum R true H.mode kNoneB 8 (afStr R false false H.gname kGnameB 32 (afStr R false false H.uname kUnameB 32 (afStr R false true H.link kLinkB 100 (afStr R true true H.name kPathB 100 st0))))))) w wx)
  case first =>
    refine wp_region_still_tail 6 (by kernel_rfl) (by kernel_rfl) ?_
    simp only [List.take_succ_cons, List.take_zero, List.drop_succ_cons, List.drop_zero]
    still_step
    still_step
    still_step
    still_step
    still_call ((acc82 _ 0 _).mono (by rintro e w' ⟨rfl, rfl⟩; exact ⟨rfl, rfl⟩))
    repeat still_step
    refine wpStill_nil ?_
    go_wp2_with (go_at_call 64; refine (vNum_gid8 hA.drew H.gid _ ok.out.gid (by omega) (by decide)).mono ?_; rintro e w1 ⟨rfl, hA1⟩)
    go_meet
    case rel => exact hA1

  case rest =>
  clear hA cF
  have hA := hcut
  clear hcut
  have cF := hA.hd (j := 3) (v := .int .i64 H.size) rfl
  go_upto_region 19 with fail
  go_cut [] from 84 to 90 (fun wx => Af G B H R rn N 16 (afNum R false H.size kSizeB 12 (afNum R false H.gid kGidB 8 (afNum R false H.uid kUidB 8 (afNum R true H.mode kNoneB 8 (afStr R false false H.gname kGnameB 32 (afStr R false false H.uname kUnameB 32 (afStr R false true H.link kLinkB 100 (afStr R true true H.name kPathB 100 st0)))))))) w wx)
  case first =>
    refine wp_region_still_tail 6 (by kernel_rfl) (by kernel_rfl) ?_
    simp only [List.take_succ_cons, List.take_zero, List.drop_succ_cons, List.drop_zero]
    still_step
    still_step
    still_step
    still_step
    still_call ((acc83 _ 0 _).mono (by rintro e w' ⟨rfl, rfl⟩; exact ⟨rfl, rfl⟩))
    repeat still_step
    refine wpStill_nil ?_
    go_wp2_with (go_at_call 64; refine (vNum_size12 hA.drew H.size _ ok.out.size (by omega) (by decide)).mono ?_; rintro e w1 ⟨rfl, hA1⟩)
    go_meet
    case rel => exact hA1

  case rest =>
  clear hA cF
  have hA := hcut
  clear hcut
  have cF := hA.hd (j := 15) (v := .int .i64 H.maj) rfl
  go_upto_region 20 with fail
  go_cut [] from 91 to 97 (fun wx => Af G B H R rn N 18 (afNum R true H.maj kNoneB 8 (afNum R false H.size kSizeB 12 (afNum R false H.gid kGidB 8 (afNum R false H.uid kUidB 8 (afNum R true H.mode kNoneB 8 (afStr R false false H.gname kGnameB 32 (afStr R false false H.uname kUnameB 32 (afStr R false true H.link kLinkB 100 (afStr R true true H.name kPathB 100 st0))))))))) w wx)
  case first =>
    refine wp_region_still_tail 6 (by kernel_rfl) (by kernel_rfl) ?_
    simp only [List.take_succ_cons, List.take_zero, List.drop_succ_cons, List.drop_zero]
    still_step
    still_step
    still_step
    still_step
    still_call ((acc84 _ 0 _).mono (by rintro e w' ⟨rfl, rfl⟩; exact ⟨rfl, rfl⟩))
    repeat still_step
    refine wpStill_nil ?_
    go_wp2_with (go_at_call 64; refine (vNum_none8 hA.drew H.maj _ ok.out.maj (by omega) (by decide)).mono ?_; rintro e w1 ⟨rfl, hA1⟩)
    go_meet
    case rel => exact hA1

  case rest =>
  clear hA cF
  have hA := hcut
  clear hcut
  have cF := hA.hd (j := 16) (v := .int .i64 H.min) rfl
  go_upto_region 21 with fail
  go_cut [] from 98 to 104 (fun wx => Af G B H R rn N 20 (afNum R true H.min kNoneB 8 (afNum R true H.maj kNoneB 8 (afNum R false H.size kSizeB 12 (afNum R false H.gid kGidB 8 (afNum R false H.uid kUidB 8 (afNum R true H.mode kNoneB 8 (afStr R false false H.gname kGnameB 32 (afStr R false false H.uname kUnameB 32 (afStr R false true H.link kLinkB 100 (afStr R true true H.name kPathB 100 st0)))))))))) w wx)
  case first =>
    refine wp_region_still_tail 6 (by kernel_rfl) (by kernel_rfl) ?_
    simp only [List.take_succ_cons, List.take_zero, List.drop_succ_cons, List.drop_zero]
    still_step
    still_step
    still_step
    still_step
    still_call ((acc85 _ 0 _).mono (by rintro e w' ⟨rfl, rfl⟩; exact ⟨rfl, rfl⟩))
    repeat still_step
    refine wpStill_nil ?_
    go_wp2_with (go_at_call 64; refine (vNum_none8 hA.drew H.min _ ok.out.min (by omega) (by decide)).mono ?_; rintro e w1 ⟨rfl, hA1⟩)
    go_meet
    case rel => exact hA1

  case rest =>
  clear hA cF
  have hA := hcut
  clear hcut
  have cF := hA.hd (j := 9) (v := .int .u64 H.mn) rfl
  have cG := hA.hd (j := 10) (v := .int .i64 H.mx) rfl
  go_upto_region 22 with fail
  go_cut [] from 105 to 111 (fun wx => Af G B H R rn N 22 (afTime R true H.mn H.mx kMtimeB (afNum R true H.min kNoneB 8 (afNum R true H.maj kNoneB 8 (afNum R false H.size kSizeB 12 (afNum R false H.gid kGidB 8 (afNum R false H.uid kUidB 8 (afNum R true H.mode kNoneB 8 (afStr R false false H.gname kGnameB 32 (afStr R false false H.uname kUnameB 32 (afStr R false true H.link kLinkB 100 (afStr R true true H.name kPathB 100 st0))))))))))) w wx)
  case first =>
    refine wp_region_still_tail 6 (by kernel_rfl) (by kernel_rfl) ?_
    simp only [List.take_succ_cons, List.take_zero, List.drop_succ_cons, List.drop_zero]
    still_step
    still_step
    still_step
    still_step
    still_call ((acc86 _ 0 _).mono (by rintro e w' ⟨rfl, rfl⟩; exact ⟨rfl, rfl⟩))
    repeat still_step
    refine wpStill_nil ?_
    go_wp2_with (go_at_call 68; refine (vTime_mtime hA.drew H.mn H.mx _ ok.out.mn (by omega) (by decide)).mono ?_; rintro e w1 ⟨rfl, hA1⟩)
    go_meet
    case rel => exact hA1

  case rest =>
  clear hA cF cG
  have hA := hcut
  clear hcut
  have cF := hA.hd (j := 11) (v := .int .u64 H.an) rfl
  have cG := hA.hd (j := 12) (v := .int .i64 H.ax) rfl
  go_upto_region 23 with fail
  go_cut [] from 112 to 118 (fun wx => Af G B H R rn N 24 (afTime R false H.an H.ax kAtimeB (afTime R true H.mn H.mx kMtimeB (afNum R true H.min kNoneB 8 (afNum R true H.maj kNoneB 8 (afNum R false H.size kSizeB 12 (afNum R false H.gid kGidB 8 (afNum R false H.uid kUidB 8 (afNum R true H.mode kNoneB 8 (afStr R false false H.gname kGnameB 32 (afStr R false false H.uname kUnameB 32 (afStr R false true H.link kLinkB 100 (afStr R true true H.name kPathB 100 st0)))))))))))) w wx)
  case first =>
    refine wp_region_still_tail 6 (by kernel_rfl) (by kernel_rfl) ?_
    simp only [List.take_succ_cons, List.take_zero, List.drop_succ_cons, List.drop_zero]
    still_step
    still_step
    still_step
    still_step
    still_call ((acc87 _ 0 _).mono (by rintro e w' ⟨rfl, rfl⟩; exact ⟨rfl, rfl⟩))
    repeat still_step
    refine wpStill_nil ?_
    go_wp2_with (go_at_call 68; refine (vTime_atime hA.drew H.an H.ax _ ok.out.an (by omega) (by decide)).mono ?_; rintro e w1 ⟨rfl, hA1⟩)
    go_meet
    case rel => exact hA1

  case rest =>
  clear hA cF cG
  have hA := hcut
  clear hcut
  have cF := hA.hd (j := 13) (v := .int .u64 H.cn) rfl
  have cG := hA.hd (j := 14) (v := .int .i64 H.cx) rfl
  go_upto_region 24 with fail
  go_cut [] from 119 to 125 (fun wx => Af G B H R rn N 26 (afTime R false H.cn H.cx kCtimeB (afTime R false H.an H.ax kAtimeB (afTime R true H.mn H.mx kMtimeB (afNum R true H.min kNoneB 8 (afNum R true H.maj kNoneB 8 (afNum R false H.size kSizeB 12 (afNum R false H.gid kGidB 8 (afNum R false H.uid kUidB 8 (afNum R true H.mode kNoneB 8 (afStr R false false H.gname kGnameB 32 (afStr R false false H.uname kUnameB 32 (afStr R false true H.link kLinkB 100 (afStr R true true H.name kPathB 100 st0))))))))))))) w wx)
  case first =>
    refine wp_region_still_tail 6 (by kernel_rfl) (by kernel_rfl) ?_
    simp only [List.take_succ_cons, List.take_zero, List.drop_succ_cons, List.drop_zero]
    still_step
    still_step
    still_step
    still_step
    still_call ((acc88 _ 0 _).mono (by rintro e w' ⟨rfl, rfl⟩; exact ⟨rfl, rfl⟩))
    repeat still_step
    refine wpStill_nil ?_
    go_wp2_with (go_at_call 68; refine (vTime_ctime hA.drew H.cn H.cx _ ok.out.cn (by omega) (by decide)).mono ?_; rintro e w1 ⟨rfl, hA1⟩)
    go_meet
    case rel => exact hA1

  case rest =>
  clear hA cF cG
  have hA := hcut
  clear hcut
  go_upto_region 25 with fail
  go_cut [16, 17] from 16 to 17 (fun s16 s17 wx => s16 = .string ⟨#[]⟩ ∧ s17 = .string ⟨#[]⟩ ∧ Af G B H R rn N 26 (afBase H R) w wx)
  case first =>
    go_wp2_with fail
    go_meet
    case rel => exact ⟨rfl, rfl, hA⟩
  case rest =>
  clear hA
  obtain ⟨rfl, rfl, hA⟩ := hcut
  have hNN := hN.out
  subst hNN
  refine to26 (by assumption) ?_
  apply tail_any G B H R rn w wc hA ok hxa.out hRs hnr fu fp fg hf.out
end Go.Proofs.YtpkilegnokajmaaGreatDoor
