/- templateV7Plus. writeGNUHeader. -/
import Derived.Test.YtpkilegnokajmaaGreatDoorA14
set_option linter.unusedVariables false
set_option linter.unusedSimpArgs false
set_option linter.unnecessarySimpa false
set_option linter.unusedSectionVars false
namespace Go.Proofs.YtpkilegnokajmaaGreatDoor
open Go.RowKit
open Go.RowKit
set_option maxRecDepth 100000 in
set_option maxHeartbeats 2000000 in
theorem tpl_G (G : GlP) (B bw bb bc : Nat) (s : WSt) (bf : Nat) (ev : Value) (w0 w : World) (H : Hd) (b : List UInt8) (h : Tm G B bw bb bc (s.bk b) bf ev w0 w) (hs : Asd (s.hdr = H.cells)) (ok : H.Ok) :
    Calls Tryz.prog 95 #[.pointer (some ⟨bw, 0, none⟩), .pointer (some ⟨bw, 3, none⟩), .func (.func 96) #[.pointer (some ⟨bf, 0, none⟩)] #[], .func (.func 111) #[.pointer (some ⟨bf, 0, none⟩)] #[]] w fun e w' =>
      e = .returned (.pointer (some ⟨bw, 23, none⟩)) ∧ ∃ ev', Tm G B bw bb bc (s.bk (tplB fsU putN H)) bf ev' w0 w' := by
  have hmn := ok.mn
  have ok2 := Asd.mk ok
  clear ok
  by_cases hz : isZ H.mn H.mx = true
  · have hz3 : Asd ((decide (H.mn = 0) && decide (H.mx = 0)) = true) := Asd.mk hz
    have hsec : Asd (H.secs = tmUnix 62135596800) := Asd.mk (by unfold Hd.secs; rw [hz, if_pos rfl]; unfold tmUnix wrap64; omega)
    clear hz
    go_enter Tryz.func95, Tryz.ntmps95
    go_wp2_with (first
      | (go_at_call 130
         refine h.reset.mono ?_
         rintro e w1 ⟨rfl, t1'⟩
         have t1 : Tm G B bw bb bc (s.bk zero512) bf ev w0 w1 := t1'
         clear t1'
         have c1 : w1.cell? ⟨bw, 12, none⟩ = some (.int .u64 H.mn) := t1.hd hs.out (j := 9) rfl
         have c2 : w1.cell? ⟨bw, 13, none⟩ = some (.int .i64 H.mx) := t1.hd hs.out (j := 10) rfl)
      | (go_at_call 69
         refine (isZero_any H.mn H.mx _).mono ?_
         rw [hz3.out]
         rintro e w2a ⟨rfl, f2⟩
         have t2a : Tm G B bw bb bc (s.bk zero512) bf ev w0 w2a := (t1.below ((Below.refl _ _).alloc (Nat.le_refl _) _)).below f2
         have g2a : w2a.heap[w1.heap.size]? = some (.cells #[.int .u64 H.mn, .int .i64 H.mx] 96 (0, 0)) := blk_below (heap_alloc_new _ _) f2
         have b2a : Below w1.heap.size w1 w2a := ((Below.refl w1.heap.size w1).alloc (Nat.le_refl _) _).trans (f2.mono (by show w1.heap.size ≤ (w1.heap.push _).size; simp))
         have n1 : w1.heap.size ≠ bw ∧ w1.heap.size ≠ bf := by
           have h1 := t1.wr.lt
           have h2 := blk_lt t1.fb
           omega)
      | (go_at_call 40
         refine (unix_any 0 0 _ (by omega) (by omega)).mono ?_
         rw [unix00.1, unix00.2]
         unfold tmV
         rintro e w2b ⟨rfl, f2b⟩
         have g2b := blk_below g2a f2b
         have c2a : w2b.cell? ⟨w1.heap.size, 0, none⟩ = some (.int .u64 H.mn) := cell_blk (C := [.int .u64 H.mn, .int .i64 H.mx]) g2b rfl
         have c2b : w2b.cell? ⟨w1.heap.size, 1, none⟩ = some (.int .i64 H.mx) := cell_blk (C := [.int .u64 H.mn, .int .i64 H.mx]) g2b rfl
         have f2c : ∀ j, w2b.frozen? ⟨w1.heap.size, j, none⟩ = false := fun j => frozen_blk (C := [.int .u64 H.mn, .int .i64 H.mx]) g2b)
      | (go_at_call 73; refine (acc73 _ _).mono ?_; rintro e w' ⟨rfl, rfl⟩))
    obtain ⟨w2, hw2⟩ : ∃ w2, w2 = (w2b.setCell ⟨w1.heap.size, 0, none⟩ (.int .u64 0)).setCell ⟨w1.heap.size, 1, none⟩ (.int .i64 62135596800) := ⟨_, rfl⟩
    rw [← hw2]
    have b2b : Below w1.heap.size w1 w2 := by
      rw [hw2]
      exact ((b2a.trans (f2b.mono b2a.size)).setCell (p := ⟨w1.heap.size, 0, none⟩) (Nat.le_refl _) _).setCell (p := ⟨w1.heap.size, 1, none⟩) (Nat.le_refl _) _
    have t2 : Tm G B bw bb bc (s.bk zero512) bf ev w0 w2 := t1.below b2b
    have g2 : w2.heap[w1.heap.size]? = some (.cells #[.int .u64 0, .int .i64 62135596800] 96 (0, 0)) := by
      rw [hw2]
      exact set_blk (j := 1) (set_blk (C := [.int .u64 H.mn, .int .i64 H.mx]) (j := 0) g2b)
    have c3 : w2.cell? ⟨bw, 3, none⟩ = some (.int .u8 H.tf.toNat) := t2.hd hs.out (j := 0) rfl
    have c4 : w2.cell? ⟨bw, 179, none⟩ = some (.int .u8 0) := t2.wr.cblk (j := 156) z156
    have f4 := t2.wr.fz 179
    clear c2a c2b f2c g2b g2a
    replace hw2 := Asd.mk hw2
    refine wp_region_still_tail 7 (by kernel_rfl) (by kernel_rfl) ?_
    simp only [List.take_succ_cons, List.take_zero, List.drop_succ_cons, List.drop_zero]
    still_step
    still_call ((acc131 bw 23 _).mono (by rintro e w' ⟨rfl, rfl⟩; exact ⟨rfl, rfl⟩))
    repeat still_step
    refine wpStill_nil ?_
    have t3' : Tm G B bw bb bc (s.bk (putAt zero512 156 [H.tf])) bf ev w0 ((w2.setCell ⟨bw, 179, none⟩ (.int .u8 H.tf.toNat)).drew) := (t2.typ H.tf).drew
    have g3' : ((w2.setCell ⟨bw, 179, none⟩ (.int .u8 H.tf.toNat)).drew).heap[w1.heap.size]? = some (.cells #[.int .u64 0, .int .i64 62135596800] 96 (0, 0)) := ((Kp.refl (fun k => k = bw) w2).setCell (p := ⟨bw, 179, none⟩) (.inl rfl) _).drew.get g2 n1.1
    obtain ⟨w3, hw3⟩ : ∃ w3, w3 = (w2.setCell ⟨bw, 179, none⟩ (.int .u8 H.tf.toNat)).drew := ⟨_, rfl⟩
    have t3 : Tm G B bw bb bc (s.bk (putAt zero512 156 [H.tf])) bf ev w0 w3 := by rw [hw3]; exact t3'
    have g3 : w3.heap[w1.heap.size]? = some (.cells #[.int .u64 0, .int .i64 62135596800] 96 (0, 0)) := by rw [hw3]; exact g3'
    have c3n : w3.cell? ⟨bw, 4, none⟩ = some (.string H.name) := t3.hd hs.out (j := 1) rfl
    replace hw3 := Asd.mk hw3
    go_wp2_with fail
    rw [← hw3.out]
    clear t3' g3' c1 c2 c3 c4 f4
    refine wp_region_still_tail 7 (by kernel_rfl) (by kernel_rfl) ?_
    simp only [List.take_succ_cons, List.take_zero, List.drop_succ_cons, List.drop_zero]
    still_step
    still_step
    still_call ((acc76 bw 23 _).mono (by rintro e w' ⟨rfl, rfl⟩; exact ⟨rfl, rfl⟩))
    repeat still_step
    refine wpStill_nil ?_
    go_wp2_with (first
      | (go_at_call 96
         refine (t3.drew.strA 100 0 512 H.name (by omega) (by omega) (by omega) ok2.out.name).mono ?_
         rintro e w4 ⟨rfl, e4, t4, y4, q4⟩
         have g4 : w4.heap[w1.heap.size]? = some (.cells #[.int .u64 0, .int .i64 62135596800] 96 (0, 0)) := q4.get (show w3.drew.heap[w1.heap.size]? = _ from g3) (by omega)
         have c4 : w4.cell? ⟨bw, 5, none⟩ = some (.string H.link) := t4.hd hs.out (j := 2) rfl
         clear t3)
      | (go_at_call 74; refine (acc74 _ _).mono ?_; rintro e w' ⟨rfl, rfl⟩))
    refine wp_region_still_tail 7 (by kernel_rfl) (by kernel_rfl) ?_
    simp only [List.take_succ_cons, List.take_zero, List.drop_succ_cons, List.drop_zero]
    still_step
    still_step
    still_call ((acc77 bw 23 _).mono (by rintro e w' ⟨rfl, rfl⟩; exact ⟨rfl, rfl⟩))
    repeat still_step
    refine wpStill_nil ?_
    go_wp2_with (first
      | (go_at_call 96
         refine (t4.drew.strA 100 157 355 H.link (by omega) (by omega) (by omega) ok2.out.link).mono ?_
         rintro e w5 ⟨rfl, e5, t5, y5, q5⟩
         have g5 : w5.heap[w1.heap.size]? = some (.cells #[.int .u64 0, .int .i64 62135596800] 96 (0, 0)) := q5.get (show w4.drew.heap[w1.heap.size]? = _ from g4) (by omega)
         have c5 : w5.cell? ⟨bw, 7, none⟩ = some (.int .i64 H.mode) := t5.hd hs.out (j := 4) rfl
         clear t4)
      | (go_at_call 74; refine (acc74 _ _).mono ?_; rintro e w' ⟨rfl, rfl⟩))
    refine wp_region_still_tail 7 (by kernel_rfl) (by kernel_rfl) ?_
    simp only [List.take_succ_cons, List.take_zero, List.drop_succ_cons, List.drop_zero]
    still_step
    still_step
    still_call ((acc80 bw 23 _).mono (by rintro e w' ⟨rfl, rfl⟩; exact ⟨rfl, rfl⟩))
    repeat still_step
    refine wpStill_nil ?_
    go_wp2_with (first
      | (go_at_call 111
         refine (t5.drew.numA 8 100 412 H.mode fitsInOctal_8 fitsInBase256_8 (by omega) (by omega) (by omega) (by omega) ok2.out.mode).mono ?_
         rintro e w6 ⟨rfl, e6, t6, y6, q6⟩
         have g6 : w6.heap[w1.heap.size]? = some (.cells #[.int .u64 0, .int .i64 62135596800] 96 (0, 0)) := q6.get (show w5.drew.heap[w1.heap.size]? = _ from g5) (by omega)
         have c6 : w6.cell? ⟨bw, 8, none⟩ = some (.int .i64 H.uid) := t6.hd hs.out (j := 5) rfl
         clear t5)
      | (go_at_call 74; refine (acc74 _ _).mono ?_; rintro e w' ⟨rfl, rfl⟩))
    refine wp_region_still_tail 7 (by kernel_rfl) (by kernel_rfl) ?_
    simp only [List.take_succ_cons, List.take_zero, List.drop_succ_cons, List.drop_zero]
    still_step
    still_step
    still_call ((acc81 bw 23 _).mono (by rintro e w' ⟨rfl, rfl⟩; exact ⟨rfl, rfl⟩))
    repeat still_step
    refine wpStill_nil ?_
    go_wp2_with (first
      | (go_at_call 111
         refine (t6.drew.numA 8 108 404 H.uid fitsInOctal_8 fitsInBase256_8 (by omega) (by omega) (by omega) (by omega) ok2.out.uid).mono ?_
         rintro e w7 ⟨rfl, e7, t7, y7, q7⟩
         have g7 : w7.heap[w1.heap.size]? = some (.cells #[.int .u64 0, .int .i64 62135596800] 96 (0, 0)) := q7.get (show w6.drew.heap[w1.heap.size]? = _ from g6) (by omega)
         have c7 : w7.cell? ⟨bw, 9, none⟩ = some (.int .i64 H.gid) := t7.hd hs.out (j := 6) rfl
         clear t6)
      | (go_at_call 74; refine (acc74 _ _).mono ?_; rintro e w' ⟨rfl, rfl⟩))
    refine wp_region_still_tail 7 (by kernel_rfl) (by kernel_rfl) ?_
    simp only [List.take_succ_cons, List.take_zero, List.drop_succ_cons, List.drop_zero]
    still_step
    still_step
    still_call ((acc82 bw 23 _).mono (by rintro e w' ⟨rfl, rfl⟩; exact ⟨rfl, rfl⟩))
    repeat still_step
    refine wpStill_nil ?_
    go_wp2_with (first
      | (go_at_call 111
         refine (t7.drew.numA 8 116 396 H.gid fitsInOctal_8 fitsInBase256_8 (by omega) (by omega) (by omega) (by omega) ok2.out.gid).mono ?_
         rintro e w8 ⟨rfl, e8, t8, y8, q8⟩
         have g8 : w8.heap[w1.heap.size]? = some (.cells #[.int .u64 0, .int .i64 62135596800] 96 (0, 0)) := q8.get (show w7.drew.heap[w1.heap.size]? = _ from g7) (by omega)
         have c8 : w8.cell? ⟨bw, 6, none⟩ = some (.int .i64 H.size) := t8.hd hs.out (j := 3) rfl
         clear t7)
      | (go_at_call 74; refine (acc74 _ _).mono ?_; rintro e w' ⟨rfl, rfl⟩))
    refine wp_region_still_tail 7 (by kernel_rfl) (by kernel_rfl) ?_
    simp only [List.take_succ_cons, List.take_zero, List.drop_succ_cons, List.drop_zero]
    still_step
    still_step
    still_call ((acc83 bw 23 _).mono (by rintro e w' ⟨rfl, rfl⟩; exact ⟨rfl, rfl⟩))
    repeat still_step
    refine wpStill_nil ?_
    go_wp2_with (first
      | (go_at_call 111
         refine (t8.drew.numA 12 124 388 H.size fitsInOctal_12 fitsInBase256_12 (by omega) (by omega) (by omega) (by omega) ok2.out.size).mono ?_
         rintro e w9 ⟨rfl, e9, t9, y9, q9⟩
         have g9 : w9.heap[w1.heap.size]? = some (.cells #[.int .u64 0, .int .i64 62135596800] 96 (0, 0)) := q9.get (show w8.drew.heap[w1.heap.size]? = _ from g8) (by omega)
         have c9a : w9.cell? ⟨w1.heap.size, 0, none⟩ = some (.int .u64 0) := cell_blk (C := [.int .u64 0, .int .i64 62135596800]) g9 rfl
         have c9b : w9.cell? ⟨w1.heap.size, 1, none⟩ = some (.int .i64 62135596800) := cell_blk (C := [.int .u64 0, .int .i64 62135596800]) g9 rfl
         clear t8)
      | (go_at_call 74; refine (acc74 _ _).mono ?_; rintro e w' ⟨rfl, rfl⟩))
    go_cut [] (fun wx => ∃ ev', Tm G B bw bb bc (s.bk (putN 12 136 H.secs (putN 12 124 H.size (putN 8 116 H.gid (putN 8 108 H.uid (putN 8 100 H.mode (fsU 100 157 H.link (fsU 100 0 H.name (putAt zero512 156 [H.tf]))))))))) bf ev' w0 wx ∧ (numOk 12 H.secs = true → ev' = e9))
    case first =>
      go_region_with (first
        | (go_at_call 86; refine (acc86 _ _ _).mono ?_; rintro e w' ⟨rfl, rfl⟩)
        | (go_at_call 70
           refine (tUnix_any 0 62135596800 _ (by omega)).mono ?_
           rw [← hsec.out]
           rintro e wu ⟨rfl, fu⟩
           have tu := t9.drew.below fu)
        | (go_at_call 111
           refine (tu.numA 12 136 376 H.secs fitsInOctal_12 fitsInBase256_12 (by omega) (by omega) (by omega) (by omega) (Hd.secs_range H)).mono ?_
           rintro e wv ⟨rfl, ev', tv, yv, qv⟩))
      all_goals (go_wp2_with fail; go_meet; exact ⟨ev', tv, yv⟩)
    case rest =>
    obtain ⟨e10, t10, y10⟩ := hcut
    have c10 : wc.cell? ⟨bw, 10, none⟩ = some (.string H.uname) := t10.hd hs.out (j := 7) rfl
    go_wp2_with (go_at_call 74; refine (acc74 _ _).mono ?_; rintro e w' ⟨rfl, rfl⟩)
    refine wp_region_still_tail 7 (by kernel_rfl) (by kernel_rfl) ?_
    simp only [List.take_succ_cons, List.take_zero, List.drop_succ_cons, List.drop_zero]
    still_step
    still_step
    still_call ((acc78 bw 23 _).mono (by rintro e w' ⟨rfl, rfl⟩; exact ⟨rfl, rfl⟩))
    repeat still_step
    refine wpStill_nil ?_
    go_wp2_with (first
      | (go_at_call 96
         refine (t10.drew.strA 32 265 247 H.uname (by omega) (by omega) (by omega) ok2.out.uname).mono ?_
         rintro e w11 ⟨rfl, e11, t11, y11, q11⟩
         skip
         have c11 : w11.cell? ⟨bw, 11, none⟩ = some (.string H.gname) := t11.hd hs.out (j := 8) rfl
         clear t10)
      | (go_at_call 74; refine (acc74 _ _).mono ?_; rintro e w' ⟨rfl, rfl⟩))
    refine wp_region_still_tail 7 (by kernel_rfl) (by kernel_rfl) ?_
    simp only [List.take_succ_cons, List.take_zero, List.drop_succ_cons, List.drop_zero]
    still_step
    still_step
    still_call ((acc79 bw 23 _).mono (by rintro e w' ⟨rfl, rfl⟩; exact ⟨rfl, rfl⟩))
    repeat still_step
    refine wpStill_nil ?_
    go_wp2_with (first
      | (go_at_call 96
         refine (t11.drew.strA 32 297 215 H.gname (by omega) (by omega) (by omega) ok2.out.gname).mono ?_
         rintro e w12 ⟨rfl, e12, t12, y12, q12⟩
         skip
         have c12 : w12.cell? ⟨bw, 18, none⟩ = some (.int .i64 H.maj) := t12.hd hs.out (j := 15) rfl
         clear t11)
      | (go_at_call 74; refine (acc74 _ _).mono ?_; rintro e w' ⟨rfl, rfl⟩))
    refine wp_region_still_tail 7 (by kernel_rfl) (by kernel_rfl) ?_
    simp only [List.take_succ_cons, List.take_zero, List.drop_succ_cons, List.drop_zero]
    still_step
    still_step
    still_call ((acc84 bw 23 _).mono (by rintro e w' ⟨rfl, rfl⟩; exact ⟨rfl, rfl⟩))
    repeat still_step
    refine wpStill_nil ?_
    go_wp2_with (first
      | (go_at_call 111
         refine (t12.drew.numA 8 329 183 H.maj fitsInOctal_8 fitsInBase256_8 (by omega) (by omega) (by omega) (by omega) ok2.out.maj).mono ?_
         rintro e w13 ⟨rfl, e13, t13, y13, q13⟩
         skip
         have c13 : w13.cell? ⟨bw, 19, none⟩ = some (.int .i64 H.min) := t13.hd hs.out (j := 16) rfl
         clear t12)
      | (go_at_call 74; refine (acc74 _ _).mono ?_; rintro e w' ⟨rfl, rfl⟩))
    refine wp_region_still_tail 7 (by kernel_rfl) (by kernel_rfl) ?_
    simp only [List.take_succ_cons, List.take_zero, List.drop_succ_cons, List.drop_zero]
    still_step
    still_step
    still_call ((acc85 bw 23 _).mono (by rintro e w' ⟨rfl, rfl⟩; exact ⟨rfl, rfl⟩))
    repeat still_step
    refine wpStill_nil ?_
    go_wp2_with (first
      | (go_at_call 111
         refine (t13.drew.numA 8 337 175 H.min fitsInOctal_8 fitsInBase256_8 (by omega) (by omega) (by omega) (by omega) ok2.out.min).mono ?_
         rintro e w14 ⟨rfl, e14, t14, y14, q14⟩
         skip
         clear t13)
      | (go_at_call 74; refine (acc74 _ _).mono ?_; rintro e w' ⟨rfl, rfl⟩))
    go_ret
    exact ⟨rfl, _, t14⟩
  · have hz2 : isZ H.mn H.mx = false := by simpa using hz
    have hz3 : Asd ((decide (H.mn = 0) && decide (H.mx = 0)) = false) := Asd.mk hz2
    have hsec : Asd (H.secs = tmUnix H.mx) := Asd.mk (by unfold Hd.secs; rw [hz2]; rfl)
    clear hz hz2
    go_enter Tryz.func95, Tryz.ntmps95
    go_wp2_with (first
      | (go_at_call 130
         refine h.reset.mono ?_
         rintro e w1 ⟨rfl, t1'⟩
         have t1 : Tm G B bw bb bc (s.bk zero512) bf ev w0 w1 := t1'
         clear t1'
         have c1 : w1.cell? ⟨bw, 12, none⟩ = some (.int .u64 H.mn) := t1.hd hs.out (j := 9) rfl
         have c2 : w1.cell? ⟨bw, 13, none⟩ = some (.int .i64 H.mx) := t1.hd hs.out (j := 10) rfl)
      | (go_at_call 69
         refine (isZero_any H.mn H.mx _).mono ?_
         rw [hz3.out]
         rintro e w2 ⟨rfl, f2⟩
         have t2 : Tm G B bw bb bc (s.bk zero512) bf ev w0 w2 := (t1.below ((Below.refl _ _).alloc (Nat.le_refl _) _)).below f2
         have g2 : w2.heap[w1.heap.size]? = some (.cells #[.int .u64 H.mn, .int .i64 H.mx] 96 (0, 0)) := blk_below (heap_alloc_new _ _) f2
         have n1 : w1.heap.size ≠ bw ∧ w1.heap.size ≠ bf := by
           have h1 := t1.wr.lt
           have h2 := blk_lt t1.fb
           omega
         have c3 : w2.cell? ⟨bw, 3, none⟩ = some (.int .u8 H.tf.toNat) := t2.hd hs.out (j := 0) rfl
         have c4 : w2.cell? ⟨bw, 179, none⟩ = some (.int .u8 0) := t2.wr.cblk (j := 156) z156
         have f4 := t2.wr.fz 179)
      | (go_at_call 73; refine (acc73 _ _).mono ?_; rintro e w' ⟨rfl, rfl⟩))
    refine wp_region_still_tail 7 (by kernel_rfl) (by kernel_rfl) ?_
    simp only [List.take_succ_cons, List.take_zero, List.drop_succ_cons, List.drop_zero]
    still_step
    still_call ((acc131 bw 23 _).mono (by rintro e w' ⟨rfl, rfl⟩; exact ⟨rfl, rfl⟩))
    repeat still_step
    refine wpStill_nil ?_
    have t3' : Tm G B bw bb bc (s.bk (putAt zero512 156 [H.tf])) bf ev w0 ((w2.setCell ⟨bw, 179, none⟩ (.int .u8 H.tf.toNat)).drew) := (t2.typ H.tf).drew
    have g3' : ((w2.setCell ⟨bw, 179, none⟩ (.int .u8 H.tf.toNat)).drew).heap[w1.heap.size]? = some (.cells #[.int .u64 H.mn, .int .i64 H.mx] 96 (0, 0)) := ((Kp.refl (fun k => k = bw) w2).setCell (p := ⟨bw, 179, none⟩) (.inl rfl) _).drew.get g2 n1.1
    obtain ⟨w3, hw3⟩ : ∃ w3, w3 = (w2.setCell ⟨bw, 179, none⟩ (.int .u8 H.tf.toNat)).drew := ⟨_, rfl⟩
    have t3 : Tm G B bw bb bc (s.bk (putAt zero512 156 [H.tf])) bf ev w0 w3 := by rw [hw3]; exact t3'
    have g3 : w3.heap[w1.heap.size]? = some (.cells #[.int .u64 H.mn, .int .i64 H.mx] 96 (0, 0)) := by rw [hw3]; exact g3'
    have c3n : w3.cell? ⟨bw, 4, none⟩ = some (.string H.name) := t3.hd hs.out (j := 1) rfl
    replace hw3 := Asd.mk hw3
    go_wp2_with fail
    rw [← hw3.out]
    clear t3' g3' c1 c2 c3 c4 f4
    refine wp_region_still_tail 7 (by kernel_rfl) (by kernel_rfl) ?_
    simp only [List.take_succ_cons, List.take_zero, List.drop_succ_cons, List.drop_zero]
    still_step
    still_step
    still_call ((acc76 bw 23 _).mono (by rintro e w' ⟨rfl, rfl⟩; exact ⟨rfl, rfl⟩))
    repeat still_step
    refine wpStill_nil ?_
    go_wp2_with (first
      | (go_at_call 96
         refine (t3.drew.strA 100 0 512 H.name (by omega) (by omega) (by omega) ok2.out.name).mono ?_
         rintro e w4 ⟨rfl, e4, t4, y4, q4⟩
         have g4 : w4.heap[w1.heap.size]? = some (.cells #[.int .u64 H.mn, .int .i64 H.mx] 96 (0, 0)) := q4.get (show w3.drew.heap[w1.heap.size]? = _ from g3) (by omega)
         have c4 : w4.cell? ⟨bw, 5, none⟩ = some (.string H.link) := t4.hd hs.out (j := 2) rfl
         clear t3)
      | (go_at_call 74; refine (acc74 _ _).mono ?_; rintro e w' ⟨rfl, rfl⟩))
    refine wp_region_still_tail 7 (by kernel_rfl) (by kernel_rfl) ?_
    simp only [List.take_succ_cons, List.take_zero, List.drop_succ_cons, List.drop_zero]
    still_step
    still_step
    still_call ((acc77 bw 23 _).mono (by rintro e w' ⟨rfl, rfl⟩; exact ⟨rfl, rfl⟩))
    repeat still_step
    refine wpStill_nil ?_
    go_wp2_with (first
      | (go_at_call 96
         refine (t4.drew.strA 100 157 355 H.link (by omega) (by omega) (by omega) ok2.out.link).mono ?_
         rintro e w5 ⟨rfl, e5, t5, y5, q5⟩
         have g5 : w5.heap[w1.heap.size]? = some (.cells #[.int .u64 H.mn, .int .i64 H.mx] 96 (0, 0)) := q5.get (show w4.drew.heap[w1.heap.size]? = _ from g4) (by omega)
         have c5 : w5.cell? ⟨bw, 7, none⟩ = some (.int .i64 H.mode) := t5.hd hs.out (j := 4) rfl
         clear t4)
      | (go_at_call 74; refine (acc74 _ _).mono ?_; rintro e w' ⟨rfl, rfl⟩))
    refine wp_region_still_tail 7 (by kernel_rfl) (by kernel_rfl) ?_
    simp only [List.take_succ_cons, List.take_zero, List.drop_succ_cons, List.drop_zero]
    still_step
    still_step
    still_call ((acc80 bw 23 _).mono (by rintro e w' ⟨rfl, rfl⟩; exact ⟨rfl, rfl⟩))
    repeat still_step
    refine wpStill_nil ?_
    go_wp2_with (first
      | (go_at_call 111
         refine (t5.drew.numA 8 100 412 H.mode fitsInOctal_8 fitsInBase256_8 (by omega) (by omega) (by omega) (by omega) ok2.out.mode).mono ?_
         rintro e w6 ⟨rfl, e6, t6, y6, q6⟩
         have g6 : w6.heap[w1.heap.size]? = some (.cells #[.int .u64 H.mn, .int .i64 H.mx] 96 (0, 0)) := q6.get (show w5.drew.heap[w1.heap.size]? = _ from g5) (by omega)
         have c6 : w6.cell? ⟨bw, 8, none⟩ = some (.int .i64 H.uid) := t6.hd hs.out (j := 5) rfl
         clear t5)
      | (go_at_call 74; refine (acc74 _ _).mono ?_; rintro e w' ⟨rfl, rfl⟩))
    refine wp_region_still_tail 7 (by kernel_rfl) (by kernel_rfl) ?_
    simp only [List.take_succ_cons, List.take_zero, List.drop_succ_cons, List.drop_zero]
    still_step
    still_step
    still_call ((acc81 bw 23 _).mono (by rintro e w' ⟨rfl, rfl⟩; exact ⟨rfl, rfl⟩))
    repeat still_step
    refine wpStill_nil ?_
    go_wp2_with (first
      | (go_at_call 111
         refine (t6.drew.numA 8 108 404 H.uid fitsInOctal_8 fitsInBase256_8 (by omega) (by omega) (by omega) (by omega) ok2.out.uid).mono ?_
         rintro e w7 ⟨rfl, e7, t7, y7, q7⟩
         have g7 : w7.heap[w1.heap.size]? = some (.cells #[.int .u64 H.mn, .int .i64 H.mx] 96 (0, 0)) := q7.get (show w6.drew.heap[w1.heap.size]? = _ from g6) (by omega)
         have c7 : w7.cell? ⟨bw, 9, none⟩ = some (.int .i64 H.gid) := t7.hd hs.out (j := 6) rfl
         clear t6)
      | (go_at_call 74; refine (acc74 _ _).mono ?_; rintro e w' ⟨rfl, rfl⟩))
    refine wp_region_still_tail 7 (by kernel_rfl) (by kernel_rfl) ?_
    simp only [List.take_succ_cons, List.take_zero, List.drop_succ_cons, List.drop_zero]
    still_step
    still_step
    still_call ((acc82 bw 23 _).mono (by rintro e w' ⟨rfl, rfl⟩; exact ⟨rfl, rfl⟩))
    repeat still_step
    refine wpStill_nil ?_
    go_wp2_with (first
      | (go_at_call 111
         refine (t7.drew.numA 8 116 396 H.gid fitsInOctal_8 fitsInBase256_8 (by omega) (by omega) (by omega) (by omega) ok2.out.gid).mono ?_
         rintro e w8 ⟨rfl, e8, t8, y8, q8⟩
         have g8 : w8.heap[w1.heap.size]? = some (.cells #[.int .u64 H.mn, .int .i64 H.mx] 96 (0, 0)) := q8.get (show w7.drew.heap[w1.heap.size]? = _ from g7) (by omega)
         have c8 : w8.cell? ⟨bw, 6, none⟩ = some (.int .i64 H.size) := t8.hd hs.out (j := 3) rfl
         clear t7)
      | (go_at_call 74; refine (acc74 _ _).mono ?_; rintro e w' ⟨rfl, rfl⟩))
    refine wp_region_still_tail 7 (by kernel_rfl) (by kernel_rfl) ?_
    simp only [List.take_succ_cons, List.take_zero, List.drop_succ_cons, List.drop_zero]
    still_step
    still_step
    still_call ((acc83 bw 23 _).mono (by rintro e w' ⟨rfl, rfl⟩; exact ⟨rfl, rfl⟩))
    repeat still_step
    refine wpStill_nil ?_
    go_wp2_with (first
      | (go_at_call 111
         refine (t8.drew.numA 12 124 388 H.size fitsInOctal_12 fitsInBase256_12 (by omega) (by omega) (by omega) (by omega) ok2.out.size).mono ?_
         rintro e w9 ⟨rfl, e9, t9, y9, q9⟩
         have g9 : w9.heap[w1.heap.size]? = some (.cells #[.int .u64 H.mn, .int .i64 H.mx] 96 (0, 0)) := q9.get (show w8.drew.heap[w1.heap.size]? = _ from g8) (by omega)
         have c9a : w9.cell? ⟨w1.heap.size, 0, none⟩ = some (.int .u64 H.mn) := cell_blk (C := [.int .u64 H.mn, .int .i64 H.mx]) g9 rfl
         have c9b : w9.cell? ⟨w1.heap.size, 1, none⟩ = some (.int .i64 H.mx) := cell_blk (C := [.int .u64 H.mn, .int .i64 H.mx]) g9 rfl
         clear t8)
      | (go_at_call 74; refine (acc74 _ _).mono ?_; rintro e w' ⟨rfl, rfl⟩))
    go_cut [] (fun wx => ∃ ev', Tm G B bw bb bc (s.bk (putN 12 136 H.secs (putN 12 124 H.size (putN 8 116 H.gid (putN 8 108 H.uid (putN 8 100 H.mode (fsU 100 157 H.link (fsU 100 0 H.name (putAt zero512 156 [H.tf]))))))))) bf ev' w0 wx ∧ (numOk 12 H.secs = true → ev' = e9))
    case first =>
      go_region_with (first
        | (go_at_call 86; refine (acc86 _ _ _).mono ?_; rintro e w' ⟨rfl, rfl⟩)
        | (go_at_call 70
           refine (tUnix_any H.mn H.mx _ (by omega)).mono ?_
           rw [← hsec.out]
           rintro e wu ⟨rfl, fu⟩
           have tu := t9.drew.below fu)
        | (go_at_call 111
           refine (tu.numA 12 136 376 H.secs fitsInOctal_12 fitsInBase256_12 (by omega) (by omega) (by omega) (by omega) (Hd.secs_range H)).mono ?_
           rintro e wv ⟨rfl, ev', tv, yv, qv⟩))
      all_goals (go_wp2_with fail; go_meet; exact ⟨ev', tv, yv⟩)
    case rest =>
    obtain ⟨e10, t10, y10⟩ := hcut
    have c10 : wc.cell? ⟨bw, 10, none⟩ = some (.string H.uname) := t10.hd hs.out (j := 7) rfl
    go_wp2_with (go_at_call 74; refine (acc74 _ _).mono ?_; rintro e w' ⟨rfl, rfl⟩)
    refine wp_region_still_tail 7 (by kernel_rfl) (by kernel_rfl) ?_
    simp only [List.take_succ_cons, List.take_zero, List.drop_succ_cons, List.drop_zero]
    still_step
    still_step
    still_call ((acc78 bw 23 _).mono (by rintro e w' ⟨rfl, rfl⟩; exact ⟨rfl, rfl⟩))
    repeat still_step
    refine wpStill_nil ?_
    go_wp2_with (first
      | (go_at_call 96
         refine (t10.drew.strA 32 265 247 H.uname (by omega) (by omega) (by omega) ok2.out.uname).mono ?_
         rintro e w11 ⟨rfl, e11, t11, y11, q11⟩
         skip
         have c11 : w11.cell? ⟨bw, 11, none⟩ = some (.string H.gname) := t11.hd hs.out (j := 8) rfl
         clear t10)
      | (go_at_call 74; refine (acc74 _ _).mono ?_; rintro e w' ⟨rfl, rfl⟩))
    refine wp_region_still_tail 7 (by kernel_rfl) (by kernel_rfl) ?_
    simp only [List.take_succ_cons, List.take_zero, List.drop_succ_cons, List.drop_zero]
    still_step
    still_step
    still_call ((acc79 bw 23 _).mono (by rintro e w' ⟨rfl, rfl⟩; exact ⟨rfl, rfl⟩))
    repeat still_step
    refine wpStill_nil ?_
    go_wp2_with (first
      | (go_at_call 96
         refine (t11.drew.strA 32 297 215 H.gname (by omega) (by omega) (by omega) ok2.out.gname).mono ?_
         rintro e w12 ⟨rfl, e12, t12, y12, q12⟩
         skip
         have c12 : w12.cell? ⟨bw, 18, none⟩ = some (.int .i64 H.maj) := t12.hd hs.out (j := 15) rfl
         clear t11)
      | (go_at_call 74; refine (acc74 _ _).mono ?_; rintro e w' ⟨rfl, rfl⟩))
    refine wp_region_still_tail 7 (by kernel_rfl) (by kernel_rfl) ?_
    simp only [List.take_succ_cons, List.take_zero, List.drop_succ_cons, List.drop_zero]
    still_step
    still_step
    still_call ((acc84 bw 23 _).mono (by rintro e w' ⟨rfl, rfl⟩; exact ⟨rfl, rfl⟩))
    repeat still_step
    refine wpStill_nil ?_
    go_wp2_with (first
      | (go_at_call 111
         refine (t12.drew.numA 8 329 183 H.maj fitsInOctal_8 fitsInBase256_8 (by omega) (by omega) (by omega) (by omega) ok2.out.maj).mono ?_
         rintro e w13 ⟨rfl, e13, t13, y13, q13⟩
         skip
         have c13 : w13.cell? ⟨bw, 19, none⟩ = some (.int .i64 H.min) := t13.hd hs.out (j := 16) rfl
         clear t12)
      | (go_at_call 74; refine (acc74 _ _).mono ?_; rintro e w' ⟨rfl, rfl⟩))
    refine wp_region_still_tail 7 (by kernel_rfl) (by kernel_rfl) ?_
    simp only [List.take_succ_cons, List.take_zero, List.drop_succ_cons, List.drop_zero]
    still_step
    still_step
    still_call ((acc85 bw 23 _).mono (by rintro e w' ⟨rfl, rfl⟩; exact ⟨rfl, rfl⟩))
    repeat still_step
    refine wpStill_nil ?_
    go_wp2_with (first
      | (go_at_call 111
         refine (t13.drew.numA 8 337 175 H.min fitsInOctal_8 fitsInBase256_8 (by omega) (by omega) (by omega) (by omega) ok2.out.min).mono ?_
         rintro e w14 ⟨rfl, e14, t14, y14, q14⟩
         skip
         clear t13)
      | (go_at_call 74; refine (acc74 _ _).mono ?_; rintro e w' ⟨rfl, rfl⟩))
    go_ret
    exact ⟨rfl, _, t14⟩
end Go.Proofs.YtpkilegnokajmaaGreatDoor
namespace Go.Proofs.YtpkilegnokajmaaGreatDoor
open Go.RowKit
def longN : ByteArray := ⟨#[46, 47, 46, 47, 64, 76, 111, 110, 103, 76, 105, 110, 107]⟩
/-- A long name goes ahead, as a file of its own. -/
def gnL (s : WSt) (p : Nat) (x : ByteArray) (flag : UInt8) : WSt := if 100 < x.size then rawFileSt s p true longN (x ++ ⟨#[0]⟩) flag else s
def gnP (p : Nat) (x : ByteArray) : Nat := if 100 < x.size then (bpad ((x ++ ⟨#[0]⟩ : ByteArray).size)).toNat else p
theorem gnL_err (s : WSt) (p : Nat) (x : ByteArray) (f : UInt8) : (gnL s p x f).err = s.err := by unfold gnL; split <;> rfl
theorem gnL_hdr (s : WSt) (p : Nat) (x : ByteArray) (f : UInt8) : (gnL s p x f).hdr = s.hdr := by unfold gnL; split <;> rfl
theorem gnL_nb (s : WSt) (p : Nat) (x : ByteArray) (f : UInt8) (h : s.nb ≤ 0) : (gnL s p x f).nb ≤ 0 := by unfold gnL; split; exact Int.le_refl 0; exact h
theorem gnL_pad (s : WSt) (p : Nat) (x : ByteArray) (f : UInt8) (h : s.pad = (p : Int)) : (gnL s p x f).pad = (gnP p x : Int) := by
  unfold gnL gnP
  split
  · have := (bpad_range ((x ++ ⟨#[0]⟩ : ByteArray).size : Int)).1
    show bpad _ = _
    omega
  · exact h
theorem gnP_le (p : Nat) (x : ByteArray) (h : p ≤ 512) : gnP p x ≤ 512 := by
  unfold gnP
  split
  · have := bpad_range ((x ++ ⟨#[0]⟩ : ByteArray).size : Int)
    omega
  · exact h
theorem rawB1_len (name : ByteArray) (flag : UInt8) : (rawB1 name flag).length = 512 := by
  unfold rawB1
  have h1 : (putAt zero512 156 [flag]).length = 512 := by rw [putAt_len _ _ _ (by rw [zero512_len]; simp), zero512_len]
  rw [putAt_len _ _ _ (by rw [fmtS_len, fld_len _ _ _ (by rw [h1]; omega), h1]; omega), h1]
theorem putO_len (n off : Nat) (x : Int) (b : List UInt8) (h : b.length = 512) (hn : off + n ≤ 512) : (putO n off x b).length = 512 := octS_len' n x off b h hn
theorem rawB_len (name : ByteArray) (size : Int) (flag : UInt8) : (rawB name size flag).length = 512 := by
  unfold rawB
  exact putO_len _ _ _ _ (putO_len _ _ _ _ (putO_len _ _ _ _ (putO_len _ _ _ _ (putO_len _ _ _ _ (rawB1_len _ _) (by omega)) (by omega)) (by omega)) (by omega)) (by omega)
theorem setFmtG_len (b : List UInt8) (h : b.length = 512) : (setFmtG b).length = 512 := by
  unfold setFmtG
  have h1 : (putAt b 257 magG).length = 512 := by rw [putAt_len _ _ _ (by rw [h]; show 257 + 6 ≤ 512; omega), h]
  exact withSum_len _ (by rw [putAt_len _ _ _ (by rw [h1]; show 263 + 2 ≤ 512; omega), h1])
theorem setFmtU_len (b : List UInt8) (h : b.length = 512) : (setFmtU b).length = 512 := by
  unfold setFmtU
  have h1 : (putAt b 257 magU).length = 512 := by rw [putAt_len _ _ _ (by rw [h]; show 257 + 6 ≤ 512; omega), h]
  exact withSum_len _ (by rw [putAt_len _ _ _ (by rw [h1]; show 263 + 2 ≤ 512; omega), h1])
theorem rawBlk_len (g : Bool) (name : ByteArray) (size : Int) (flag : UInt8) : (rawBlk g name size flag).length = 512 := by
  unfold rawBlk
  split
  · exact setFmtG_len _ (rawB_len _ _ _)
  · exact setFmtU_len _ (rawB_len _ _ _)
theorem rawFileSt_len (s : WSt) (p : Nat) (g : Bool) (name data : ByteArray) (flag : UInt8) : (rawFileSt s p g name data flag).out.length = s.out.length + p + 512 + data.size := by
  show (s.out ++ List.replicate p 0 ++ rawBlk g name data.size flag ++ data.data.toList).length = _
  rw [List.length_append, List.length_append, List.length_append, rawBlk_len]
  simp
theorem gnL_out (s : WSt) (p : Nat) (x : ByteArray) (f : UInt8) (hp : p ≤ 512) : (gnL s p x f).out.length ≤ s.out.length + 1025 + x.size := by
  unfold gnL
  split
  · rw [rawFileSt_len, ByteArray.size_append]
    have : (⟨#[0]⟩ : ByteArray).size = 1 := rfl
    omega
  · omega
/-- The state when the header's block comes; the block; the end. -/
def gnS (s : WSt) (p : Nat) (H : Hd) : WSt := gnL (gnL s p H.name 76) (gnP p H.name) H.link 75
def gnPad (p : Nat) (H : Hd) : Nat := gnP (gnP p H.name) H.link
def gnT (n : Nat) (x : Int) (off : Nat) (b : List UInt8) : List UInt8 := if isZ n x then b else putN 12 off (tmUnix x) b
def gnBlk (H : Hd) : List UInt8 := setFmtG (gnT H.cn H.cx 357 (gnT H.an H.ax 345 (tplB fsU putN H)))
def gnSt (s : WSt) (p : Nat) (H : Hd) : WSt := rawSt ((gnS s p H).bk (gnBlk H)) (gnPad p H) H.size H.tf
set_option maxRecDepth 100000 in
set_option maxHeartbeats 4000000 in
theorem gnu_any (G : GlP) (B bw bb bc : Nat) (s : WSt) (w : World) (p : Nat) (H : Hd) (hgl : Gl G B w) (h : Wr B bw bb bc s w) (he : s.err = .nilIface) (hnb : s.nb ≤ 0) (hp : s.pad = (p : Int)) (hp2 : p ≤ 512) (hlim : s.out.length ≤ 8796093022208)
    (hs : s.hdr = H.cells) (ok : H.Ok) (hn1 : H.name.size ≤ 1073741823) (hl1 : H.link.size ≤ 1073741823) :
    Calls Tryz.prog 39 #[.pointer (some ⟨bw, 0, none⟩), .pointer (some ⟨bw, 3, none⟩)] w fun e w' => e = .returned .nilIface ∧ ∃ bc', Wr B bw bb bc' (gnSt s p H) w' ∧ Fr B w w' := by
  have hB := hgl.size
  have c1 : w.cell? ⟨bw, 4, none⟩ = some (.string H.name) := h.chdr (j := 1) (by rw [hs]; rfl)
  have z0 : (⟨#[0]⟩ : ByteArray).size = 1 := rfl
  have r1 := rawFile_8 G B bw bb bc s w p longN (H.name ++ ⟨#[0]⟩) 76 hgl h he hnb hp hp2 (by omega) (by decide) (by rw [ByteArray.size_append, z0]; omega) rfl
  unfold longN at r1
  replace r1 := Asd.mk r1
  replace ok := Asd.mk ok
  replace hs := Asd.mk hs
  replace he := Asd.mk he
  replace hp := Asd.mk hp
  obtain ⟨s1, hs1⟩ : ∃ s1, Asd (s1 = gnL s p H.name 76) := ⟨_, ⟨rfl⟩⟩
  obtain ⟨p1, hp1⟩ : ∃ p1, Asd (p1 = gnP p H.name) := ⟨_, ⟨rfl⟩⟩
  obtain ⟨s2, hs2⟩ : ∃ s2, Asd (s2 = gnL s1 p1 H.link 75) := ⟨_, ⟨rfl⟩⟩
  obtain ⟨p2, hp2'⟩ : ∃ p2, Asd (p2 = gnP p1 H.link) := ⟨_, ⟨rfl⟩⟩
  have k1 : Asd (s1.err = .nilIface ∧ s1.hdr = H.cells ∧ s1.pad = (p1 : Int)) := ⟨by rw [hs1.out, gnL_err]; exact he.out, by rw [hs1.out, gnL_hdr]; exact hs.out, by rw [hs1.out, hp1.out]; exact gnL_pad _ _ _ _ hp.out⟩
  have m1 : s1.nb ≤ 0 := by rw [hs1.out]; exact gnL_nb _ _ _ _ hnb
  have m2 : p1 ≤ 512 := by rw [hp1.out]; exact gnP_le _ _ hp2
  have m3 : s1.out.length ≤ s.out.length + 1025 + H.name.size := by rw [hs1.out]; exact gnL_out _ _ _ _ hp2
  have k2 : Asd (s2.err = .nilIface ∧ s2.hdr = H.cells ∧ s2.pad = (p2 : Int)) := ⟨by rw [hs2.out, gnL_err]; exact k1.out.1, by rw [hs2.out, gnL_hdr]; exact k1.out.2.1, by rw [hs2.out, hp2'.out]; exact gnL_pad _ _ _ _ k1.out.2.2⟩
  have m4 : s2.nb ≤ 0 := by rw [hs2.out]; exact gnL_nb _ _ _ _ m1
  have m5 : p2 ≤ 512 := by rw [hp2'.out]; exact gnP_le _ _ m2
  have m6 : s2.out.length ≤ s1.out.length + 1025 + H.link.size := by rw [hs2.out]; exact gnL_out _ _ _ _ m2
  go_enter Tryz.func39, Tryz.ntmps39
  go_upto_if 21 with fail
  go_cut [] from 5 to 32 (fun wx => ∃ bc1, Wr B bw bb bc1 s1 wx ∧ Fr B w wx)
  case first =>
    by_cases hc : 100 < H.name.size
    · have e1 : Asd (s1 = rawFileSt s p true longN (H.name ++ ⟨#[0]⟩) 76) := ⟨by rw [hs1.out]; unfold gnL; rw [if_pos hc]⟩
      go_wp2_with (go_at_call 108; refine r1.out.mono ?_; rintro e w2 ⟨rfl, bc1, h2, q2⟩)
      go_meet
      case rel => exact ⟨bc1, by rw [e1.out]; exact h2, q2⟩
    · have e1 : Asd (s1 = s) := ⟨by rw [hs1.out]; unfold gnL; rw [if_neg hc]⟩
      go_wp2_with fail
      go_meet
      case rel => exact ⟨bc, by rw [e1.out]; exact h, Fr.refl B _⟩
  case rest =>
  clear c1
  obtain ⟨bc1, h1, q1⟩ := hcut
  have c2 : wc.cell? ⟨bw, 5, none⟩ = some (.string H.link) := h1.chdr (j := 2) (by rw [k1.out.2.1]; rfl)
  have r2 := rawFile_8 G B bw bb bc1 s1 wc p1 longN (H.link ++ ⟨#[0]⟩) 75 (q1.gl hgl) h1 k1.out.1 m1 k1.out.2.2 m2 (by omega) (by decide) (by rw [ByteArray.size_append, z0]; omega) rfl
  unfold longN at r2
  replace r2 := Asd.mk r2
  go_upto_if 38 with fail
  go_cut [] from 7 to 49 (fun wx => ∃ bc2, Wr B bw bb bc2 s2 wx ∧ Fr B w wx)
  case first =>
    by_cases hc : 100 < H.link.size
    · have e1 : Asd (s2 = rawFileSt s1 p1 true longN (H.link ++ ⟨#[0]⟩) 75) := ⟨by rw [hs2.out]; unfold gnL; rw [if_pos hc]⟩
      go_wp2_with (go_at_call 108; refine r2.out.mono ?_; rintro e w2 ⟨rfl, bc2, h2, q2⟩)
      go_meet
      case rel => exact ⟨bc2, by rw [e1.out]; exact h2, q1.trans q2⟩
    · have e1 : Asd (s2 = s1) := ⟨by rw [hs2.out]; unfold gnL; rw [if_neg hc]⟩
      go_wp2_with fail
      go_meet
      case rel => exact ⟨bc1, by rw [e1.out]; exact h1, q1⟩
  case rest =>
  clear c2
  obtain ⟨bc2, h2, q2⟩ := hcut
  obtain ⟨wz, rfl⟩ : ∃ wz : World, wz = wc := ⟨_, rfl⟩
  have t0 : Tm G B bw bb bc2 (s2.bk s2.blk) wz.heap.size .nilIface wz (wz.alloc (.cells #[.nilIface] 155 (0, 0))) := Tm.start h2 (Nat.le_trans hB q2.size) (q2.gl hgl)
  obtain ⟨X1, hX1⟩ : ∃ X, Asd (X = tplB fsU putN H) := ⟨_, ⟨rfl⟩⟩
  obtain ⟨X2, hX2⟩ : ∃ X, Asd (X = gnT H.an H.ax 345 X1) := ⟨_, ⟨rfl⟩⟩
  obtain ⟨X3, hX3⟩ : ∃ X, Asd (X = gnT H.cn H.cx 357 X2) := ⟨_, ⟨rfl⟩⟩
  obtain ⟨X4, hX4⟩ : ∃ X, Asd (X = setFmtG X3) := ⟨_, ⟨rfl⟩⟩
  have hZ1 := fun W => isZero_any H.an H.ax W
  have hZ2 := fun W => isZero_any H.cn H.cx W
  have hT1 := fun W => tUnix_any H.an H.ax W (by have := ok.out.an; omega)
  have hT2 := fun W => tUnix_any H.cn H.cx W (by have := ok.out.cn; omega)
  unfold tmV at hZ1 hZ2 hT1 hT2
  replace hZ1 := Asd.mk hZ1
  replace hZ2 := Asd.mk hZ2
  replace hT1 := Asd.mk hT1
  replace hT2 := Asd.mk hT2
  obtain ⟨bf, hbf⟩ : ∃ bf, Asd (bf = wz.heap.size) := ⟨_, ⟨rfl⟩⟩

  go_upto_region 15 with (first
    | (go_at_call 95
       refine (tpl_G G B bw bb bc2 s2 wz.heap.size .nilIface wz _ H s2.blk t0 ⟨k2.out.2.1⟩ ok.out).mono ?_
       rintro e w3 ⟨rfl, ev, t1⟩
       rw [← hX1.out] at t1
       have c14 : w3.cell? ⟨bw, 14, none⟩ = some (.int .u64 H.an) := t1.hd k2.out.2.1 (j := 11) rfl
       have c15 : w3.cell? ⟨bw, 15, none⟩ = some (.int .i64 H.ax) := t1.hd k2.out.2.1 (j := 12) rfl))
  obtain ⟨za, hza⟩ : ∃ b, Asd (isZ H.an H.ax = b) := ⟨_, ⟨rfl⟩⟩
  rw [← hbf.out]
  rw [← hbf.out] at t1
  go_cut [60] from 55 to 60 (fun s60 wx => s60 = .bool (!za) ∧ Tm G B bw bb bc2 (s2.bk X1) bf ev wz wx)
  case first =>
    go_wp2_with (go_at_call 69; (with_reducible refine (hZ1.out _).mono ?_); rw [show (decide (H.an = 0) && decide (H.ax = 0)) = za from hza.out]; rintro e w4 ⟨rfl, f4⟩)
    go_meet
    case rel => exact ⟨rfl, t1.below f4⟩
  case rest =>
  clear c14 c15 t1
  obtain ⟨rfl, t1⟩ := hcut
  have k1a : wc.cell? ⟨bw, 14, none⟩ = some (.int .u64 H.an) := t1.hd k2.out.2.1 (j := 11) rfl
  have k1b : wc.cell? ⟨bw, 15, none⟩ = some (.int .i64 H.ax) := t1.hd k2.out.2.1 (j := 12) rfl
  go_upto_if 60 with fail
  go_cut [] from 61 to 69 (fun wx => ∃ ev2, Tm G B bw bb bc2 (s2.bk X2) bf ev2 wz wx)
  case first =>
    cases za
    · have e1 : Asd (X2 = putN 12 345 (tmUnix H.ax) X1) := ⟨by rw [hX2.out]; unfold gnT; rw [hza.out]; rfl⟩
      go_upto_region 16 with fail
      go_region_with (first
        | (go_at_call 75; refine (acc75 _ _).mono ?_; rintro e w' ⟨rfl, rfl⟩)
        | (go_at_call 87; refine (acc87 _ _ _).mono ?_; rintro e w' ⟨rfl, rfl⟩)
        | (go_at_call 70
           (with_reducible refine (hT1.out _).mono ?_)
           rintro e wu ⟨rfl, fu⟩
           have tu := t1.drew.below fu)
        | (go_at_call 111
           refine (tu.numA 12 345 167 (tmUnix H.ax) fitsInOctal_12 fitsInBase256_12 (by omega) (by omega) (by omega) (by omega) (tmUnix_range _)).mono ?_
           rintro e wv ⟨rfl, ev', tv, yv, qv⟩))
      all_goals (go_wp2_with fail; go_meet; exact ⟨ev', by rw [e1.out]; exact tv⟩)
    · have e1 : Asd (X2 = X1) := ⟨by rw [hX2.out]; unfold gnT; rw [hza.out]; rfl⟩
      go_wp2_with fail
      go_meet
      case rel => exact ⟨_, by rw [e1.out]; exact t1⟩
  case rest =>
  clear t1 k1a k1b
  obtain ⟨ev2, t1⟩ := hcut
  have c16 : wc.cell? ⟨bw, 16, none⟩ = some (.int .u64 H.cn) := t1.hd k2.out.2.1 (j := 13) rfl
  have c17 : wc.cell? ⟨bw, 17, none⟩ = some (.int .i64 H.cx) := t1.hd k2.out.2.1 (j := 14) rfl
  obtain ⟨zc, hzc⟩ : ∃ b, Asd (isZ H.cn H.cx = b) := ⟨_, ⟨rfl⟩⟩
  go_upto_region 17 with fail
  go_cut [75] from 70 to 75 (fun s75 wx => s75 = .bool (!zc) ∧ Tm G B bw bb bc2 (s2.bk X2) bf ev2 wz wx)
  case first =>
    go_wp2_with (go_at_call 69; (with_reducible refine (hZ2.out _).mono ?_); rw [show (decide (H.cn = 0) && decide (H.cx = 0)) = zc from hzc.out]; rintro e w4 ⟨rfl, f4⟩)
    go_meet
    case rel => exact ⟨rfl, t1.below f4⟩
  case rest =>
  clear c16 c17 t1
  obtain ⟨rfl, t1⟩ := hcut
  have k1a : wc.cell? ⟨bw, 16, none⟩ = some (.int .u64 H.cn) := t1.hd k2.out.2.1 (j := 13) rfl
  have k1b : wc.cell? ⟨bw, 17, none⟩ = some (.int .i64 H.cx) := t1.hd k2.out.2.1 (j := 14) rfl
  go_upto_if 75 with fail
  go_cut [] from 76 to 84 (fun wx => ∃ ev2, Tm G B bw bb bc2 (s2.bk X3) bf ev2 wz wx)
  case first =>
    cases zc
    · have e1 : Asd (X3 = putN 12 357 (tmUnix H.cx) X2) := ⟨by rw [hX3.out]; unfold gnT; rw [hzc.out]; rfl⟩
      go_upto_region 18 with fail
      go_region_with (first
        | (go_at_call 75; refine (acc75 _ _).mono ?_; rintro e w' ⟨rfl, rfl⟩)
        | (go_at_call 88; refine (acc88 _ _ _).mono ?_; rintro e w' ⟨rfl, rfl⟩)
        | (go_at_call 70
           (with_reducible refine (hT2.out _).mono ?_)
           rintro e wu ⟨rfl, fu⟩
           have tu := t1.drew.below fu)
        | (go_at_call 111
           refine (tu.numA 12 357 155 (tmUnix H.cx) fitsInOctal_12 fitsInBase256_12 (by omega) (by omega) (by omega) (by omega) (tmUnix_range _)).mono ?_
           rintro e wv ⟨rfl, ev', tv, yv, qv⟩))
      all_goals (go_wp2_with fail; go_meet; exact ⟨ev', by rw [e1.out]; exact tv⟩)
    · have e1 : Asd (X3 = X2) := ⟨by rw [hX3.out]; unfold gnT; rw [hzc.out]; rfl⟩
      go_wp2_with fail
      go_meet
      case rel => exact ⟨_, by rw [e1.out]; exact t1⟩
  case rest =>
  clear t1 k1a k1b
  obtain ⟨ev2, t1⟩ := hcut
  go_upto_region 20 with (first
    | (go_at_call 99
       refine (Tm.setG8 t1).mono ?_
       rintro e w5 ⟨rfl, t3⟩
       rw [← hX4.out] at t3
       have c6 : w5.cell? ⟨bw, 6, none⟩ = some (.int .i64 H.size) := t3.hd k2.out.2.1 (j := 3) rfl
       have c3 : w5.cell? ⟨bw, 3, none⟩ = some (.int .u8 H.tf.toNat) := t3.hd k2.out.2.1 (j := 0) rfl))
  have q3 := q2.trans t3.drew.fr
  have r1 := rawHeader_any B bw bb bc2 (s2.bk X4) w5.drew p2 H.size H.tf t3.drew.wr (Nat.le_trans hB q3.size) (by rw [WSt.bk_err]; exact k2.out.1) (by rw [WSt.bk_nb]; exact m4) (by rw [WSt.bk_pad]; exact k2.out.2.2) m5 (by rw [WSt.bk_out]; omega) ok.out.size
  replace r1 := Asd.mk r1
  refine wp_region_still_tail 10 (by kernel_rfl) (by kernel_rfl) ?_
  simp only [List.take_succ_cons, List.take_zero, List.drop_succ_cons, List.drop_zero]
  repeat still_step
  refine wpStill_nil ?_
  go_wp2_with (go_at_call 100; refine r1.out.mono ?_; rintro e w6 ⟨rfl, bc', h6, q6⟩)
  go_ret
  refine ⟨rfl, bc', ?_, q3.trans q6⟩
  have eS : gnSt s p H = rawSt (s2.bk X4) p2 H.size H.tf := by
    unfold gnSt gnBlk gnS gnPad
    rw [hX4.out, hX3.out, hX2.out, hX1.out, hs2.out, hs1.out, hp2'.out, hp1.out]
  rw [eS]
  exact h6
end Go.Proofs.YtpkilegnokajmaaGreatDoor
