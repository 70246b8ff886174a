/- templateV7Plus. -/
import Derived.Test.YtpkilegnokajmaaGreatDoorA14
set_option linter.unusedVariables false
set_option linter.unusedSimpArgs false
set_option linter.unnecessarySimpa false
set_option linter.unusedSectionVars false
namespace Go.Proofs.YtpkilegnokajmaaGreatDoor
open Go.RowKit
open Go.RowKit
set_option maxRecDepth 100000 in
set_option maxHeartbeats 2000000 in
theorem tpl_P (G : GlP) (B bw bb bc : Nat) (s : WSt) (bf : Nat) (ev : Value) (w0 w : World) (H : Hd) (b : List UInt8) (h : Tm G B bw bb bc (s.bk b) bf ev w0 w) (hs : Asd (s.hdr = H.cells)) (ok : H.Ok) :
    Calls Tryz.prog 95 #[.pointer (some ⟨bw, 0, none⟩), .pointer (some ⟨bw, 3, none⟩), .func (.func 109) #[] #[.pointer (some ⟨bf, 0, none⟩)], .func (.func 97) #[.pointer (some ⟨bf, 0, none⟩)] #[]] w fun e w' =>
      e = .returned (.pointer (some ⟨bw, 23, none⟩)) ∧ ∃ ev', Tm G B bw bb bc (s.bk (tplB fsP putO H)) bf ev' w0 w' := by
  have hmn := ok.mn
  have ok2 := Asd.mk ok
  clear ok
  by_cases hz : isZ H.mn H.mx = true
  · have hz3 : Asd ((decide (H.mn = 0) && decide (H.mx = 0)) = true) := Asd.mk hz
    have hsec : Asd (H.secs = tmUnix 62135596800) := Asd.mk (by unfold Hd.secs; rw [hz, if_pos rfl]; unfold tmUnix wrap64; omega)
    clear hz
    go_enter Tryz.func95, Tryz.ntmps95
    go_wp2_with (first
      | (go_at_call 130
         refine h.reset.mono ?_
         rintro e w1 ⟨rfl, t1'⟩
         have t1 : Tm G B bw bb bc (s.bk zero512) bf ev w0 w1 := t1'
         clear t1'
         have c1 : w1.cell? ⟨bw, 12, none⟩ = some (.int .u64 H.mn) := t1.hd hs.out (j := 9) rfl
         have c2 : w1.cell? ⟨bw, 13, none⟩ = some (.int .i64 H.mx) := t1.hd hs.out (j := 10) rfl)
      | (go_at_call 69
         refine (isZero_any H.mn H.mx _).mono ?_
         rw [hz3.out]
         rintro e w2a ⟨rfl, f2⟩
         have t2a : Tm G B bw bb bc (s.bk zero512) bf ev w0 w2a := (t1.below ((Below.refl _ _).alloc (Nat.le_refl _) _)).below f2
         have g2a : w2a.heap[w1.heap.size]? = some (.cells #[.int .u64 H.mn, .int .i64 H.mx] 96 (0, 0)) := blk_below (heap_alloc_new _ _) f2
         have b2a : Below w1.heap.size w1 w2a := ((Below.refl w1.heap.size w1).alloc (Nat.le_refl _) _).trans (f2.mono (by show w1.heap.size ≤ (w1.heap.push _).size; simp))
         have n1 : w1.heap.size ≠ bw ∧ w1.heap.size ≠ bf := by
           have h1 := t1.wr.lt
           have h2 := blk_lt t1.fb
           omega)
      | (go_at_call 40
         refine (unix_any 0 0 _ (by omega) (by omega)).mono ?_
         rw [unix00.1, unix00.2]
         unfold tmV
         rintro e w2b ⟨rfl, f2b⟩
         have g2b := blk_below g2a f2b
         have c2a : w2b.cell? ⟨w1.heap.size, 0, none⟩ = some (.int .u64 H.mn) := cell_blk (C := [.int .u64 H.mn, .int .i64 H.mx]) g2b rfl
         have c2b : w2b.cell? ⟨w1.heap.size, 1, none⟩ = some (.int .i64 H.mx) := cell_blk (C := [.int .u64 H.mn, .int .i64 H.mx]) g2b rfl
         have f2c : ∀ j, w2b.frozen? ⟨w1.heap.size, j, none⟩ = false := fun j => frozen_blk (C := [.int .u64 H.mn, .int .i64 H.mx]) g2b)
      | (go_at_call 73; refine (acc73 _ _).mono ?_; rintro e w' ⟨rfl, rfl⟩))
    obtain ⟨w2, hw2⟩ : ∃ w2, w2 = (w2b.setCell ⟨w1.heap.size, 0, none⟩ (.int .u64 0)).setCell ⟨w1.heap.size, 1, none⟩ (.int .i64 62135596800) := ⟨_, rfl⟩
    rw [← hw2]
    have b2b : Below w1.heap.size w1 w2 := by
      rw [hw2]
      exact ((b2a.trans (f2b.mono b2a.size)).setCell (p := ⟨w1.heap.size, 0, none⟩) (Nat.le_refl _) _).setCell (p := ⟨w1.heap.size, 1, none⟩) (Nat.le_refl _) _
    have t2 : Tm G B bw bb bc (s.bk zero512) bf ev w0 w2 := t1.below b2b
    have g2 : w2.heap[w1.heap.size]? = some (.cells #[.int .u64 0, .int .i64 62135596800] 96 (0, 0)) := by
      rw [hw2]
      exact set_blk (j := 1) (set_blk (C := [.int .u64 H.mn, .int .i64 H.mx]) (j := 0) g2b)
    have c3 : w2.cell? ⟨bw, 3, none⟩ = some (.int .u8 H.tf.toNat) := t2.hd hs.out (j := 0) rfl
    have c4 : w2.cell? ⟨bw, 179, none⟩ = some (.int .u8 0) := t2.wr.cblk (j := 156) z156
    have f4 := t2.wr.fz 179
    clear c2a c2b f2c g2b g2a
    replace hw2 := Asd.mk hw2
    refine wp_region_still_tail 7 (by kernel_rfl) (by kernel_rfl) ?_
    simp only [List.take_succ_cons, List.take_zero, List.drop_succ_cons, List.drop_zero]
    still_step
    still_call ((acc131 bw 23 _).mono (by rintro e w' ⟨rfl, rfl⟩; exact ⟨rfl, rfl⟩))
    repeat still_step
    refine wpStill_nil ?_
    have t3' : Tm G B bw bb bc (s.bk (putAt zero512 156 [H.tf])) bf ev w0 ((w2.setCell ⟨bw, 179, none⟩ (.int .u8 H.tf.toNat)).drew) := (t2.typ H.tf).drew
    have g3' : ((w2.setCell ⟨bw, 179, none⟩ (.int .u8 H.tf.toNat)).drew).heap[w1.heap.size]? = some (.cells #[.int .u64 0, .int .i64 62135596800] 96 (0, 0)) := ((Kp.refl (fun k => k = bw) w2).setCell (p := ⟨bw, 179, none⟩) (.inl rfl) _).drew.get g2 n1.1
    obtain ⟨w3, hw3⟩ : ∃ w3, w3 = (w2.setCell ⟨bw, 179, none⟩ (.int .u8 H.tf.toNat)).drew := ⟨_, rfl⟩
    have t3 : Tm G B bw bb bc (s.bk (putAt zero512 156 [H.tf])) bf ev w0 w3 := by rw [hw3]; exact t3'
    have g3 : w3.heap[w1.heap.size]? = some (.cells #[.int .u64 0, .int .i64 62135596800] 96 (0, 0)) := by rw [hw3]; exact g3'
    have c3n : w3.cell? ⟨bw, 4, none⟩ = some (.string H.name) := t3.hd hs.out (j := 1) rfl
    replace hw3 := Asd.mk hw3
    go_wp2_with fail
    rw [← hw3.out]
    clear t3' g3' c1 c2 c3 c4 f4
    refine wp_region_still_tail 7 (by kernel_rfl) (by kernel_rfl) ?_
    simp only [List.take_succ_cons, List.take_zero, List.drop_succ_cons, List.drop_zero]
    still_step
    still_step
    still_call ((acc76 bw 23 _).mono (by rintro e w' ⟨rfl, rfl⟩; exact ⟨rfl, rfl⟩))
    repeat still_step
    refine wpStill_nil ?_
    go_wp2_with (first
      | (go_at_call 109
         refine (t3.drew.strP 100 0 512 H.name (by omega) (by omega) (by omega) ok2.out.name).mono ?_
         rintro e w4 ⟨rfl, e4, t4, y4, wm4, fm4, q4⟩
         have g4 : w4.heap[w1.heap.size]? = some (.cells #[.int .u64 0, .int .i64 62135596800] 96 (0, 0)) := q4.get (blk_below (w := w3.drew) g3 fm4) (by omega)
         have c4 : w4.cell? ⟨bw, 5, none⟩ = some (.string H.link) := t4.hd hs.out (j := 2) rfl
         clear t3)
      | (go_at_call 74; refine (acc74 _ _).mono ?_; rintro e w' ⟨rfl, rfl⟩))
    refine wp_region_still_tail 7 (by kernel_rfl) (by kernel_rfl) ?_
    simp only [List.take_succ_cons, List.take_zero, List.drop_succ_cons, List.drop_zero]
    still_step
    still_step
    still_call ((acc77 bw 23 _).mono (by rintro e w' ⟨rfl, rfl⟩; exact ⟨rfl, rfl⟩))
    repeat still_step
    refine wpStill_nil ?_
    go_wp2_with (first
      | (go_at_call 109
         refine (t4.drew.strP 100 157 355 H.link (by omega) (by omega) (by omega) ok2.out.link).mono ?_
         rintro e w5 ⟨rfl, e5, t5, y5, wm5, fm5, q5⟩
         have g5 : w5.heap[w1.heap.size]? = some (.cells #[.int .u64 0, .int .i64 62135596800] 96 (0, 0)) := q5.get (blk_below (w := w4.drew) g4 fm5) (by omega)
         have c5 : w5.cell? ⟨bw, 7, none⟩ = some (.int .i64 H.mode) := t5.hd hs.out (j := 4) rfl
         clear t4)
      | (go_at_call 74; refine (acc74 _ _).mono ?_; rintro e w' ⟨rfl, rfl⟩))
    refine wp_region_still_tail 7 (by kernel_rfl) (by kernel_rfl) ?_
    simp only [List.take_succ_cons, List.take_zero, List.drop_succ_cons, List.drop_zero]
    still_step
    still_step
    still_call ((acc80 bw 23 _).mono (by rintro e w' ⟨rfl, rfl⟩; exact ⟨rfl, rfl⟩))
    repeat still_step
    refine wpStill_nil ?_
    go_wp2_with (first
      | (go_at_call 97
         refine (t5.drew.octA 8 100 412 H.mode fitsInOctal_8 (by omega) (by omega) (by omega) (by omega)).mono ?_
         rintro e w6 ⟨rfl, e6, t6, y6, q6⟩
         have g6 : w6.heap[w1.heap.size]? = some (.cells #[.int .u64 0, .int .i64 62135596800] 96 (0, 0)) := q6.get (show w5.drew.heap[w1.heap.size]? = _ from g5) (by omega)
         have c6 : w6.cell? ⟨bw, 8, none⟩ = some (.int .i64 H.uid) := t6.hd hs.out (j := 5) rfl
         clear t5)
      | (go_at_call 74; refine (acc74 _ _).mono ?_; rintro e w' ⟨rfl, rfl⟩))
    refine wp_region_still_tail 7 (by kernel_rfl) (by kernel_rfl) ?_
    simp only [List.take_succ_cons, List.take_zero, List.drop_succ_cons, List.drop_zero]
    still_step
    still_step
    still_call ((acc81 bw 23 _).mono (by rintro e w' ⟨rfl, rfl⟩; exact ⟨rfl, rfl⟩))
    repeat still_step
    refine wpStill_nil ?_
    go_wp2_with (first
      | (go_at_call 97
         refine (t6.drew.octA 8 108 404 H.uid fitsInOctal_8 (by omega) (by omega) (by omega) (by omega)).mono ?_
         rintro e w7 ⟨rfl, e7, t7, y7, q7⟩
         have g7 : w7.heap[w1.heap.size]? = some (.cells #[.int .u64 0, .int .i64 62135596800] 96 (0, 0)) := q7.get (show w6.drew.heap[w1.heap.size]? = _ from g6) (by omega)
         have c7 : w7.cell? ⟨bw, 9, none⟩ = some (.int .i64 H.gid) := t7.hd hs.out (j := 6) rfl
         clear t6)
      | (go_at_call 74; refine (acc74 _ _).mono ?_; rintro e w' ⟨rfl, rfl⟩))
    refine wp_region_still_tail 7 (by kernel_rfl) (by kernel_rfl) ?_
    simp only [List.take_succ_cons, List.take_zero, List.drop_succ_cons, List.drop_zero]
    still_step
    still_step
    still_call ((acc82 bw 23 _).mono (by rintro e w' ⟨rfl, rfl⟩; exact ⟨rfl, rfl⟩))
    repeat still_step
    refine wpStill_nil ?_
    go_wp2_with (first
      | (go_at_call 97
         refine (t7.drew.octA 8 116 396 H.gid fitsInOctal_8 (by omega) (by omega) (by omega) (by omega)).mono ?_
         rintro e w8 ⟨rfl, e8, t8, y8, q8⟩
         have g8 : w8.heap[w1.heap.size]? = some (.cells #[.int .u64 0, .int .i64 62135596800] 96 (0, 0)) := q8.get (show w7.drew.heap[w1.heap.size]? = _ from g7) (by omega)
         have c8 : w8.cell? ⟨bw, 6, none⟩ = some (.int .i64 H.size) := t8.hd hs.out (j := 3) rfl
         clear t7)
      | (go_at_call 74; refine (acc74 _ _).mono ?_; rintro e w' ⟨rfl, rfl⟩))
    refine wp_region_still_tail 7 (by kernel_rfl) (by kernel_rfl) ?_
    simp only [List.take_succ_cons, List.take_zero, List.drop_succ_cons, List.drop_zero]
    still_step
    still_step
    still_call ((acc83 bw 23 _).mono (by rintro e w' ⟨rfl, rfl⟩; exact ⟨rfl, rfl⟩))
    repeat still_step
    refine wpStill_nil ?_
    go_wp2_with (first
      | (go_at_call 97
         refine (t8.drew.octA 12 124 388 H.size fitsInOctal_12 (by omega) (by omega) (by omega) (by omega)).mono ?_
         rintro e w9 ⟨rfl, e9, t9, y9, q9⟩
         have g9 : w9.heap[w1.heap.size]? = some (.cells #[.int .u64 0, .int .i64 62135596800] 96 (0, 0)) := q9.get (show w8.drew.heap[w1.heap.size]? = _ from g8) (by omega)
         have c9a : w9.cell? ⟨w1.heap.size, 0, none⟩ = some (.int .u64 0) := cell_blk (C := [.int .u64 0, .int .i64 62135596800]) g9 rfl
         have c9b : w9.cell? ⟨w1.heap.size, 1, none⟩ = some (.int .i64 62135596800) := cell_blk (C := [.int .u64 0, .int .i64 62135596800]) g9 rfl
         clear t8)
      | (go_at_call 74; refine (acc74 _ _).mono ?_; rintro e w' ⟨rfl, rfl⟩))
    go_cut [] (fun wx => ∃ ev', Tm G B bw bb bc (s.bk (putO 12 136 H.secs (putO 12 124 H.size (putO 8 116 H.gid (putO 8 108 H.uid (putO 8 100 H.mode (fsP 100 157 H.link (fsP 100 0 H.name (putAt zero512 156 [H.tf]))))))))) bf ev' w0 wx ∧ (fitO 12 H.secs = true → ev' = e9))
    case first =>
      go_region_with (first
        | (go_at_call 86; refine (acc86 _ _ _).mono ?_; rintro e w' ⟨rfl, rfl⟩)
        | (go_at_call 70
           refine (tUnix_any 0 62135596800 _ (by omega)).mono ?_
           rw [← hsec.out]
           rintro e wu ⟨rfl, fu⟩
           have tu := t9.drew.below fu)
        | (go_at_call 97
           refine (tu.octA 12 136 376 H.secs fitsInOctal_12 (by omega) (by omega) (by omega) (by omega)).mono ?_
           rintro e wv ⟨rfl, ev', tv, yv, qv⟩))
      all_goals (go_wp2_with fail; go_meet; exact ⟨ev', tv, yv⟩)
    case rest =>
    obtain ⟨e10, t10, y10⟩ := hcut
    have c10 : wc.cell? ⟨bw, 10, none⟩ = some (.string H.uname) := t10.hd hs.out (j := 7) rfl
    go_wp2_with (go_at_call 74; refine (acc74 _ _).mono ?_; rintro e w' ⟨rfl, rfl⟩)
    refine wp_region_still_tail 7 (by kernel_rfl) (by kernel_rfl) ?_
    simp only [List.take_succ_cons, List.take_zero, List.drop_succ_cons, List.drop_zero]
    still_step
    still_step
    still_call ((acc78 bw 23 _).mono (by rintro e w' ⟨rfl, rfl⟩; exact ⟨rfl, rfl⟩))
    repeat still_step
    refine wpStill_nil ?_
    go_wp2_with (first
      | (go_at_call 109
         refine (t10.drew.strP 32 265 247 H.uname (by omega) (by omega) (by omega) ok2.out.uname).mono ?_
         rintro e w11 ⟨rfl, e11, t11, y11, wm11, fm11, q11⟩
         skip
         have c11 : w11.cell? ⟨bw, 11, none⟩ = some (.string H.gname) := t11.hd hs.out (j := 8) rfl
         clear t10)
      | (go_at_call 74; refine (acc74 _ _).mono ?_; rintro e w' ⟨rfl, rfl⟩))
    refine wp_region_still_tail 7 (by kernel_rfl) (by kernel_rfl) ?_
    simp only [List.take_succ_cons, List.take_zero, List.drop_succ_cons, List.drop_zero]
    still_step
    still_step
    still_call ((acc79 bw 23 _).mono (by rintro e w' ⟨rfl, rfl⟩; exact ⟨rfl, rfl⟩))
    repeat still_step
    refine wpStill_nil ?_
    go_wp2_with (first
      | (go_at_call 109
         refine (t11.drew.strP 32 297 215 H.gname (by omega) (by omega) (by omega) ok2.out.gname).mono ?_
         rintro e w12 ⟨rfl, e12, t12, y12, wm12, fm12, q12⟩
         skip
         have c12 : w12.cell? ⟨bw, 18, none⟩ = some (.int .i64 H.maj) := t12.hd hs.out (j := 15) rfl
         clear t11)
      | (go_at_call 74; refine (acc74 _ _).mono ?_; rintro e w' ⟨rfl, rfl⟩))
    refine wp_region_still_tail 7 (by kernel_rfl) (by kernel_rfl) ?_
    simp only [List.take_succ_cons, List.take_zero, List.drop_succ_cons, List.drop_zero]
    still_step
    still_step
    still_call ((acc84 bw 23 _).mono (by rintro e w' ⟨rfl, rfl⟩; exact ⟨rfl, rfl⟩))
    repeat still_step
    refine wpStill_nil ?_
    go_wp2_with (first
      | (go_at_call 97
         refine (t12.drew.octA 8 329 183 H.maj fitsInOctal_8 (by omega) (by omega) (by omega) (by omega)).mono ?_
         rintro e w13 ⟨rfl, e13, t13, y13, q13⟩
         skip
         have c13 : w13.cell? ⟨bw, 19, none⟩ = some (.int .i64 H.min) := t13.hd hs.out (j := 16) rfl
         clear t12)
      | (go_at_call 74; refine (acc74 _ _).mono ?_; rintro e w' ⟨rfl, rfl⟩))
    refine wp_region_still_tail 7 (by kernel_rfl) (by kernel_rfl) ?_
    simp only [List.take_succ_cons, List.take_zero, List.drop_succ_cons, List.drop_zero]
    still_step
    still_step
    still_call ((acc85 bw 23 _).mono (by rintro e w' ⟨rfl, rfl⟩; exact ⟨rfl, rfl⟩))
    repeat still_step
    refine wpStill_nil ?_
    go_wp2_with (first
      | (go_at_call 97
         refine (t13.drew.octA 8 337 175 H.min fitsInOctal_8 (by omega) (by omega) (by omega) (by omega)).mono ?_
         rintro e w14 ⟨rfl, e14, t14, y14, q14⟩
         skip
         clear t13)
      | (go_at_call 74; refine (acc74 _ _).mono ?_; rintro e w' ⟨rfl, rfl⟩))
    go_ret
    exact ⟨rfl, _, t14⟩
  · have hz2 : isZ H.mn H.mx = false := by simpa using hz
    have hz3 : Asd ((decide (H.mn = 0) && decide (H.mx = 0)) = false) := Asd.mk hz2
    have hsec : Asd (H.secs = tmUnix H.mx) := Asd.mk (by unfold Hd.secs; rw [hz2]; rfl)
    clear hz hz2
    go_enter Tryz.func95, Tryz.ntmps95
    go_wp2_with (first
      | (go_at_call 130
         refine h.reset.mono ?_
         rintro e w1 ⟨rfl, t1'⟩
         have t1 : Tm G B bw bb bc (s.bk zero512) bf ev w0 w1 := t1'
         clear t1'
         have c1 : w1.cell? ⟨bw, 12, none⟩ = some (.int .u64 H.mn) := t1.hd hs.out (j := 9) rfl
         have c2 : w1.cell? ⟨bw, 13, none⟩ = some (.int .i64 H.mx) := t1.hd hs.out (j := 10) rfl)
      | (go_at_call 69
         refine (isZero_any H.mn H.mx _).mono ?_
         rw [hz3.out]
         rintro e w2 ⟨rfl, f2⟩
         have t2 : Tm G B bw bb bc (s.bk zero512) bf ev w0 w2 := (t1.below ((Below.refl _ _).alloc (Nat.le_refl _) _)).below f2
         have g2 : w2.heap[w1.heap.size]? = some (.cells #[.int .u64 H.mn, .int .i64 H.mx] 96 (0, 0)) := blk_below (heap_alloc_new _ _) f2
         have n1 : w1.heap.size ≠ bw ∧ w1.heap.size ≠ bf := by
           have h1 := t1.wr.lt
           have h2 := blk_lt t1.fb
           omega
         have c3 : w2.cell? ⟨bw, 3, none⟩ = some (.int .u8 H.tf.toNat) := t2.hd hs.out (j := 0) rfl
         have c4 : w2.cell? ⟨bw, 179, none⟩ = some (.int .u8 0) := t2.wr.cblk (j := 156) z156
         have f4 := t2.wr.fz 179)
      | (go_at_call 73; refine (acc73 _ _).mono ?_; rintro e w' ⟨rfl, rfl⟩))
    refine wp_region_still_tail 7 (by kernel_rfl) (by kernel_rfl) ?_
    simp only [List.take_succ_cons, List.take_zero, List.drop_succ_cons, List.drop_zero]
    still_step
    still_call ((acc131 bw 23 _).mono (by rintro e w' ⟨rfl, rfl⟩; exact ⟨rfl, rfl⟩))
    repeat still_step
    refine wpStill_nil ?_
    have t3' : Tm G B bw bb bc (s.bk (putAt zero512 156 [H.tf])) bf ev w0 ((w2.setCell ⟨bw, 179, none⟩ (.int .u8 H.tf.toNat)).drew) := (t2.typ H.tf).drew
    have g3' : ((w2.setCell ⟨bw, 179, none⟩ (.int .u8 H.tf.toNat)).drew).heap[w1.heap.size]? = some (.cells #[.int .u64 H.mn, .int .i64 H.mx] 96 (0, 0)) := ((Kp.refl (fun k => k = bw) w2).setCell (p := ⟨bw, 179, none⟩) (.inl rfl) _).drew.get g2 n1.1
    obtain ⟨w3, hw3⟩ : ∃ w3, w3 = (w2.setCell ⟨bw, 179, none⟩ (.int .u8 H.tf.toNat)).drew := ⟨_, rfl⟩
    have t3 : Tm G B bw bb bc (s.bk (putAt zero512 156 [H.tf])) bf ev w0 w3 := by rw [hw3]; exact t3'
    have g3 : w3.heap[w1.heap.size]? = some (.cells #[.int .u64 H.mn, .int .i64 H.mx] 96 (0, 0)) := by rw [hw3]; exact g3'
    have c3n : w3.cell? ⟨bw, 4, none⟩ = some (.string H.name) := t3.hd hs.out (j := 1) rfl
    replace hw3 := Asd.mk hw3
    go_wp2_with fail
    rw [← hw3.out]
    clear t3' g3' c1 c2 c3 c4 f4
    refine wp_region_still_tail 7 (by kernel_rfl) (by kernel_rfl) ?_
    simp only [List.take_succ_cons, List.take_zero, List.drop_succ_cons, List.drop_zero]
    still_step
    still_step
    still_call ((acc76 bw 23 _).mono (by rintro e w' ⟨rfl, rfl⟩; exact ⟨rfl, rfl⟩))
    repeat still_step
    refine wpStill_nil ?_
    go_wp2_with (first
      | (go_at_call 109
         refine (t3.drew.strP 100 0 512 H.name (by omega) (by omega) (by omega) ok2.out.name).mono ?_
         rintro e w4 ⟨rfl, e4, t4, y4, wm4, fm4, q4⟩
         have g4 : w4.heap[w1.heap.size]? = some (.cells #[.int .u64 H.mn, .int .i64 H.mx] 96 (0, 0)) := q4.get (blk_below (w := w3.drew) g3 fm4) (by omega)
         have c4 : w4.cell? ⟨bw, 5, none⟩ = some (.string H.link) := t4.hd hs.out (j := 2) rfl
         clear t3)
      | (go_at_call 74; refine (acc74 _ _).mono ?_; rintro e w' ⟨rfl, rfl⟩))
    refine wp_region_still_tail 7 (by kernel_rfl) (by kernel_rfl) ?_
    simp only [List.take_succ_cons, List.take_zero, List.drop_succ_cons, List.drop_zero]
    still_step
    still_step
    still_call ((acc77 bw 23 _).mono (by rintro e w' ⟨rfl, rfl⟩; exact ⟨rfl, rfl⟩))
    repeat still_step
    refine wpStill_nil ?_
    go_wp2_with (first
      | (go_at_call 109
         refine (t4.drew.strP 100 157 355 H.link (by omega) (by omega) (by omega) ok2.out.link).mono ?_
         rintro e w5 ⟨rfl, e5, t5, y5, wm5, fm5, q5⟩
         have g5 : w5.heap[w1.heap.size]? = some (.cells #[.int .u64 H.mn, .int .i64 H.mx] 96 (0, 0)) := q5.get (blk_below (w := w4.drew) g4 fm5) (by omega)
         have c5 : w5.cell? ⟨bw, 7, none⟩ = some (.int .i64 H.mode) := t5.hd hs.out (j := 4) rfl
         clear t4)
      | (go_at_call 74; refine (acc74 _ _).mono ?_; rintro e w' ⟨rfl, rfl⟩))
    refine wp_region_still_tail 7 (by kernel_rfl) (by kernel_rfl) ?_
    simp only [List.take_succ_cons, List.take_zero, List.drop_succ_cons, List.drop_zero]
    still_step
    still_step
    still_call ((acc80 bw 23 _).mono (by rintro e w' ⟨rfl, rfl⟩; exact ⟨rfl, rfl⟩))
    repeat still_step
    refine wpStill_nil ?_
    go_wp2_with (first
      | (go_at_call 97
         refine (t5.drew.octA 8 100 412 H.mode fitsInOctal_8 (by omega) (by omega) (by omega) (by omega)).mono ?_
         rintro e w6 ⟨rfl, e6, t6, y6, q6⟩
         have g6 : w6.heap[w1.heap.size]? = some (.cells #[.int .u64 H.mn, .int .i64 H.mx] 96 (0, 0)) := q6.get (show w5.drew.heap[w1.heap.size]? = _ from g5) (by omega)
         have c6 : w6.cell? ⟨bw, 8, none⟩ = some (.int .i64 H.uid) := t6.hd hs.out (j := 5) rfl
         clear t5)
      | (go_at_call 74; refine (acc74 _ _).mono ?_; rintro e w' ⟨rfl, rfl⟩))
    refine wp_region_still_tail 7 (by kernel_rfl) (by kernel_rfl) ?_
    simp only [List.take_succ_cons, List.take_zero, List.drop_succ_cons, List.drop_zero]
    still_step
    still_step
    still_call ((acc81 bw 23 _).mono (by rintro e w' ⟨rfl, rfl⟩; exact ⟨rfl, rfl⟩))
    repeat still_step
    refine wpStill_nil ?_
    go_wp2_with (first
      | (go_at_call 97
         refine (t6.drew.octA 8 108 404 H.uid fitsInOctal_8 (by omega) (by omega) (by omega) (by omega)).mono ?_
         rintro e w7 ⟨rfl, e7, t7, y7, q7⟩
         have g7 : w7.heap[w1.heap.size]? = some (.cells #[.int .u64 H.mn, .int .i64 H.mx] 96 (0, 0)) := q7.get (show w6.drew.heap[w1.heap.size]? = _ from g6) (by omega)
         have c7 : w7.cell? ⟨bw, 9, none⟩ = some (.int .i64 H.gid) := t7.hd hs.out (j := 6) rfl
         clear t6)
      | (go_at_call 74; refine (acc74 _ _).mono ?_; rintro e w' ⟨rfl, rfl⟩))
    refine wp_region_still_tail 7 (by kernel_rfl) (by kernel_rfl) ?_
    simp only [List.take_succ_cons, List.take_zero, List.drop_succ_cons, List.drop_zero]
    still_step
    still_step
    still_call ((acc82 bw 23 _).mono (by rintro e w' ⟨rfl, rfl⟩; exact ⟨rfl, rfl⟩))
    repeat still_step
    refine wpStill_nil ?_
    go_wp2_with (first
      | (go_at_call 97
         refine (t7.drew.octA 8 116 396 H.gid fitsInOctal_8 (by omega) (by omega) (by omega) (by omega)).mono ?_
         rintro e w8 ⟨rfl, e8, t8, y8, q8⟩
         have g8 : w8.heap[w1.heap.size]? = some (.cells #[.int .u64 H.mn, .int .i64 H.mx] 96 (0, 0)) := q8.get (show w7.drew.heap[w1.heap.size]? = _ from g7) (by omega)
         have c8 : w8.cell? ⟨bw, 6, none⟩ = some (.int .i64 H.size) := t8.hd hs.out (j := 3) rfl
         clear t7)
      | (go_at_call 74; refine (acc74 _ _).mono ?_; rintro e w' ⟨rfl, rfl⟩))
    refine wp_region_still_tail 7 (by kernel_rfl) (by kernel_rfl) ?_
    simp only [List.take_succ_cons, List.take_zero, List.drop_succ_cons, List.drop_zero]
    still_step
    still_step
    still_call ((acc83 bw 23 _).mono (by rintro e w' ⟨rfl, rfl⟩; exact ⟨rfl, rfl⟩))
    repeat still_step
    refine wpStill_nil ?_
    go_wp2_with (first
      | (go_at_call 97
         refine (t8.drew.octA 12 124 388 H.size fitsInOctal_12 (by omega) (by omega) (by omega) (by omega)).mono ?_
         rintro e w9 ⟨rfl, e9, t9, y9, q9⟩
         have g9 : w9.heap[w1.heap.size]? = some (.cells #[.int .u64 H.mn, .int .i64 H.mx] 96 (0, 0)) := q9.get (show w8.drew.heap[w1.heap.size]? = _ from g8) (by omega)
         have c9a : w9.cell? ⟨w1.heap.size, 0, none⟩ = some (.int .u64 H.mn) := cell_blk (C := [.int .u64 H.mn, .int .i64 H.mx]) g9 rfl
         have c9b : w9.cell? ⟨w1.heap.size, 1, none⟩ = some (.int .i64 H.mx) := cell_blk (C := [.int .u64 H.mn, .int .i64 H.mx]) g9 rfl
         clear t8)
      | (go_at_call 74; refine (acc74 _ _).mono ?_; rintro e w' ⟨rfl, rfl⟩))
    go_cut [] (fun wx => ∃ ev', Tm G B bw bb bc (s.bk (putO 12 136 H.secs (putO 12 124 H.size (putO 8 116 H.gid (putO 8 108 H.uid (putO 8 100 H.mode (fsP 100 157 H.link (fsP 100 0 H.name (putAt zero512 156 [H.tf]))))))))) bf ev' w0 wx ∧ (fitO 12 H.secs = true → ev' = e9))
    case first =>
      go_region_with (first
        | (go_at_call 86; refine (acc86 _ _ _).mono ?_; rintro e w' ⟨rfl, rfl⟩)
        | (go_at_call 70
           refine (tUnix_any H.mn H.mx _ (by omega)).mono ?_
           rw [← hsec.out]
           rintro e wu ⟨rfl, fu⟩
           have tu := t9.drew.below fu)
        | (go_at_call 97
           refine (tu.octA 12 136 376 H.secs fitsInOctal_12 (by omega) (by omega) (by omega) (by omega)).mono ?_
           rintro e wv ⟨rfl, ev', tv, yv, qv⟩))
      all_goals (go_wp2_with fail; go_meet; exact ⟨ev', tv, yv⟩)
    case rest =>
    obtain ⟨e10, t10, y10⟩ := hcut
    have c10 : wc.cell? ⟨bw, 10, none⟩ = some (.string H.uname) := t10.hd hs.out (j := 7) rfl
    go_wp2_with (go_at_call 74; refine (acc74 _ _).mono ?_; rintro e w' ⟨rfl, rfl⟩)
    refine wp_region_still_tail 7 (by kernel_rfl) (by kernel_rfl) ?_
    simp only [List.take_succ_cons, List.take_zero, List.drop_succ_cons, List.drop_zero]
    still_step
    still_step
    still_call ((acc78 bw 23 _).mono (by rintro e w' ⟨rfl, rfl⟩; exact ⟨rfl, rfl⟩))
    repeat still_step
    refine wpStill_nil ?_
    go_wp2_with (first
      | (go_at_call 109
         refine (t10.drew.strP 32 265 247 H.uname (by omega) (by omega) (by omega) ok2.out.uname).mono ?_
         rintro e w11 ⟨rfl, e11, t11, y11, wm11, fm11, q11⟩
         skip
         have c11 : w11.cell? ⟨bw, 11, none⟩ = some (.string H.gname) := t11.hd hs.out (j := 8) rfl
         clear t10)
      | (go_at_call 74; refine (acc74 _ _).mono ?_; rintro e w' ⟨rfl, rfl⟩))
    refine wp_region_still_tail 7 (by kernel_rfl) (by kernel_rfl) ?_
    simp only [List.take_succ_cons, List.take_zero, List.drop_succ_cons, List.drop_zero]
    still_step
    still_step
    still_call ((acc79 bw 23 _).mono (by rintro e w' ⟨rfl, rfl⟩; exact ⟨rfl, rfl⟩))
    repeat still_step
    refine wpStill_nil ?_
    go_wp2_with (first
      | (go_at_call 109
         refine (t11.drew.strP 32 297 215 H.gname (by omega) (by omega) (by omega) ok2.out.gname).mono ?_
         rintro e w12 ⟨rfl, e12, t12, y12, wm12, fm12, q12⟩
         skip
         have c12 : w12.cell? ⟨bw, 18, none⟩ = some (.int .i64 H.maj) := t12.hd hs.out (j := 15) rfl
         clear t11)
      | (go_at_call 74; refine (acc74 _ _).mono ?_; rintro e w' ⟨rfl, rfl⟩))
    refine wp_region_still_tail 7 (by kernel_rfl) (by kernel_rfl) ?_
    simp only [List.take_succ_cons, List.take_zero, List.drop_succ_cons, List.drop_zero]
    still_step
    still_step
    still_call ((acc84 bw 23 _).mono (by rintro e w' ⟨rfl, rfl⟩; exact ⟨rfl, rfl⟩))
    repeat still_step
    refine wpStill_nil ?_
    go_wp2_with (first
      | (go_at_call 97
         refine (t12.drew.octA 8 329 183 H.maj fitsInOctal_8 (by omega) (by omega) (by omega) (by omega)).mono ?_
         rintro e w13 ⟨rfl, e13, t13, y13, q13⟩
         skip
         have c13 : w13.cell? ⟨bw, 19, none⟩ = some (.int .i64 H.min) := t13.hd hs.out (j := 16) rfl
         clear t12)
      | (go_at_call 74; refine (acc74 _ _).mono ?_; rintro e w' ⟨rfl, rfl⟩))
    refine wp_region_still_tail 7 (by kernel_rfl) (by kernel_rfl) ?_
    simp only [List.take_succ_cons, List.take_zero, List.drop_succ_cons, List.drop_zero]
    still_step
    still_step
    still_call ((acc85 bw 23 _).mono (by rintro e w' ⟨rfl, rfl⟩; exact ⟨rfl, rfl⟩))
    repeat still_step
    refine wpStill_nil ?_
    go_wp2_with (first
      | (go_at_call 97
         refine (t13.drew.octA 8 337 175 H.min fitsInOctal_8 (by omega) (by omega) (by omega) (by omega)).mono ?_
         rintro e w14 ⟨rfl, e14, t14, y14, q14⟩
         skip
         clear t13)
      | (go_at_call 74; refine (acc74 _ _).mono ?_; rintro e w' ⟨rfl, rfl⟩))
    go_ret
    exact ⟨rfl, _, t14⟩
end Go.Proofs.YtpkilegnokajmaaGreatDoor
