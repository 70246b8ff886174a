/- The header in the Writer; the fields of its block. templateV7Plus. writeUSTARHeader. The closure that writePAXHeader hands to templateV7Plus. -/
import Derived.Test.YtpkilegnokajmaaGreatDoorA04
import Derived.Test.YtpkilegnokajmaaGreatDoorA00
import Derived.Test.YtpkilegnokajmaaGreatDoorA06
import Derived.StillTailTactics
import Derived.Deep.DeepCutAuto
set_option linter.unusedVariables false
set_option linter.unusedSimpArgs false
set_option linter.unnecessarySimpa false
set_option linter.unusedSectionVars false
namespace Go.Proofs.YtpkilegnokajmaaGreatDoor
open Go.RowKit
def putN (n off : Nat) (x : Int) (b : List UInt8) : List UInt8 := putAt b off (numS n (fld b off n) x)
/-- The fields of a header in a block, by what writes a text and what writes a number. -/
def tplB (fs : Nat → Nat → ByteArray → List UInt8 → List UInt8) (fn : Nat → Nat → Int → List UInt8 → List UInt8) (h : Hd) : List UInt8 :=
  fn 8 337 h.min (fn 8 329 h.maj (fs 32 297 h.gname (fs 32 265 h.uname (fn 12 136 h.secs (fn 12 124 h.size (fn 8 116 h.gid (fn 8 108 h.uid (fn 8 100 h.mode (fs 100 157 h.link (fs 100 0 h.name (putAt zero512 156 [h.tf])))))))))))
def fsU (n off : Nat) (x : ByteArray) (b : List UInt8) : List UInt8 := putS n off x.data.toList b
def fsP (n off : Nat) (x : ByteArray) (b : List UInt8) : List UInt8 := putS n off (toAsc x).data.toList b
/-- All fields of a USTAR block are wide enough. -/
def fitsU (h : Hd) : Prop := h.name.size ≤ 100 ∧ h.link.size ≤ 100 ∧ fitO 8 h.mode = true ∧ fitO 8 h.uid = true ∧ fitO 8 h.gid = true ∧ fitO 12 h.size = true ∧ fitO 12 h.secs = true ∧ h.uname.size ≤ 32 ∧ h.gname.size ≤ 32 ∧ fitO 8 h.maj = true ∧ fitO 8 h.min = true
section
variable {G : GlP} {B bw bb bc : Nat} {s : WSt} {bf : Nat} {ev : Value} {w0 w : World} {b0 : List UInt8}
theorem Tm.octA (h : Tm G B bw bb bc (s.bk b0) bf ev w0 w) (n off c : Nat) (x : Int) (hfit : ∀ (x : Int) (w : World), Calls Tryz.prog 66 #[.int .i64 n, .int .i64 x] w fun e w' => e = .returned (.bool (fitO n x)) ∧ w = w') (hn2 : 3 ≤ n) (hn3 : n ≤ 12)
    (hn : off + n ≤ 512) (hc : n ≤ c) :
    Calls Tryz.prog 97 #[.pointer (some ⟨bf, 0, none⟩), .slice (some ⟨bw, 23 + off, none⟩) n c, .int .i64 x] w fun e w' => e = .returned (.tuple #[]) ∧ ∃ ev', Tm G B bw bb bc (s.bk (putO n off x b0)) bf ev' w0 w' ∧ (fitO n x = true → ev' = ev) ∧ Kp (fun k => k = bw ∨ k = bf) w w' := by
  have hbl : b0.length = 512 := h.wr.bl
  refine (fmtO_fld bw 23 (wA (s.bk b0) bb bc) b0 [(s.bk b0).err] 104 w h.wr.hw (wA_len _ _ _ h.wr.hl) (by omega) hbl n hfit hn2 hn3 bf off c x ev G B h.gl h.wr.Bw h.bfB hn hc h.fb h.nbf).mono ?_
  rintro e w' ⟨rfl, h1, h2, h3⟩
  exact ⟨rfl, _, h.step (putO n off x b0) _ (octS_len' n x off b0 hbl hn) h1 h2 h3, fun hx => if_pos hx, h3⟩
theorem Tm.numA (h : Tm G B bw bb bc (s.bk b0) bf ev w0 w) (n off c : Nat) (x : Int) (hfit : ∀ (x : Int) (w : World), Calls Tryz.prog 66 #[.int .i64 n, .int .i64 x] w fun e w' => e = .returned (.bool (fitO n x)) ∧ w = w')
    (hfit2 : ∀ (x : Int) (w : World), Calls Tryz.prog 65 #[.int .i64 n, .int .i64 x] w fun e w' => e = .returned (.bool (fitB n x)) ∧ w = w') (hn2 : 3 ≤ n) (hn3 : n ≤ 12)
    (hn : off + n ≤ 512) (hc : n ≤ c) (hxr : -9223372036854775808 ≤ x ∧ x ≤ 9223372036854775807) :
    Calls Tryz.prog 111 #[.pointer (some ⟨bf, 0, none⟩), .slice (some ⟨bw, 23 + off, none⟩) n c, .int .i64 x] w fun e w' => e = .returned (.tuple #[]) ∧ ∃ ev', Tm G B bw bb bc (s.bk (putN n off x b0)) bf ev' w0 w' ∧ (numOk n x = true → ev' = ev) ∧ Kp (fun k => k = bw ∨ k = bf) w w' := by
  have hbl : b0.length = 512 := h.wr.bl
  refine (fmtN_fld bw 23 (wA (s.bk b0) bb bc) b0 [(s.bk b0).err] 104 w h.wr.hw (wA_len _ _ _ h.wr.hl) (by omega) hbl n hfit hfit2 hn2 hn3 bf off c x ev G B h.gl h.wr.Bw h.bfB hn hc h.fb h.nbf hxr).mono ?_
  rintro e w' ⟨rfl, h1, h2, h3⟩
  have hl2 : (numS n (fld b0 off n) x).length = n := numS_len n _ x (fld_len _ _ _ (by rw [hbl]; exact hn))
  exact ⟨rfl, _, h.step (putN n off x b0) _ (by unfold putN; rw [putAt_len _ _ _ (by rw [hl2, hbl]; exact hn), hbl]) h1 h2 h3, fun hx => if_pos hx, h3⟩
theorem Tm.strA (h : Tm G B bw bb bc (s.bk b0) bf ev w0 w) (n off c : Nat) (x : ByteArray) (hn : off + n ≤ 512) (hn1 : 1 ≤ n) (hc : n ≤ c) (hx : x.size ≤ 1073741824) :
    Calls Tryz.prog 96 #[.pointer (some ⟨bf, 0, none⟩), .slice (some ⟨bw, 23 + off, none⟩) n c, .string x] w fun e w' => e = .returned (.tuple #[]) ∧ ∃ ev', Tm G B bw bb bc (s.bk (fsU n off x b0)) bf ev' w0 w' ∧ (x.size ≤ n → ev' = ev) ∧ Kp (fun k => k = bw ∨ k = bf) w w' := by
  have hbl : b0.length = 512 := h.wr.bl
  refine (fmtS_fld bw 23 (wA (s.bk b0) bb bc) b0 [(s.bk b0).err] 104 w h.wr.hw (wA_len _ _ _ h.wr.hl) (by omega) hbl bf off n c x ev G.p4 hn hn1 hc h.gl.c4 h.fb h.nbf (by omega)).mono ?_
  rintro e w' ⟨rfl, h1, h2, h3⟩
  exact ⟨rfl, _, h.step (fsU n off x b0) _ (by unfold fsU putS; rw [putAt_len _ _ _ (by rw [fmtS_len, fld_len _ _ _ (by rw [hbl]; exact hn), hbl]; exact hn), hbl]) h1 h2 h3, fun hx => if_neg (by omega), h3⟩
end
theorem Tm.hd {G : GlP} {B bw bb bc : Nat} {s : WSt} {bf : Nat} {ev : Value} {w0 w : World} {H : Hd} {b : List UInt8} (h : Tm G B bw bb bc (s.bk b) bf ev w0 w) (hs : s.hdr = H.cells) {j : Nat} {v : Value} (hv : H.cells[j]? = some v) : w.cell? ⟨bw, 3 + j, none⟩ = some v :=
  h.wr.chdr (j := j) (by show s.hdr[j]? = some v; rw [hs]; exact hv)
theorem Tm.drew {G : GlP} {B bw bb bc : Nat} {s : WSt} {bf : Nat} {ev : Value} {w0 w : World} (h : Tm G B bw bb bc s bf ev w0 w) : Tm G B bw bb bc s bf ev w0 w.drew := h.drewN 1
theorem unix00 : unixN 0 = 0 ∧ unixX 0 0 = 62135596800 := ⟨by decide, by unfold unixX wrap64; omega⟩
set_option maxRecDepth 100000 in
set_option maxHeartbeats 2000000 in
theorem tpl_U (G : GlP) (B bw bb bc : Nat) (s : WSt) (bf : Nat) (ev : Value) (w0 w : World) (H : Hd) (b : List UInt8) (h : Tm G B bw bb bc (s.bk b) bf ev w0 w) (hs : Asd (s.hdr = H.cells)) (ok : H.Ok) :
    Calls Tryz.prog 95 #[.pointer (some ⟨bw, 0, none⟩), .pointer (some ⟨bw, 3, none⟩), .func (.func 96) #[.pointer (some ⟨bf, 0, none⟩)] #[], .func (.func 97) #[.pointer (some ⟨bf, 0, none⟩)] #[]] w fun e w' =>
      e = .returned (.pointer (some ⟨bw, 23, none⟩)) ∧ ∃ ev', Tm G B bw bb bc (s.bk (tplB fsU putO H)) bf ev' w0 w' ∧ (fitsU H → ev' = ev) := by
  have hmn := ok.mn
  have ok2 := Asd.mk ok
  clear ok
  by_cases hz : isZ H.mn H.mx = true
  · have hz3 : Asd ((decide (H.mn = 0) && decide (H.mx = 0)) = true) := Asd.mk hz
    have hsec : Asd (H.secs = tmUnix 62135596800) := Asd.mk (by unfold Hd.secs; rw [hz, if_pos rfl]; unfold tmUnix wrap64; omega)
    clear hz
    go_enter Tryz.func95, Tryz.ntmps95
    go_wp2_with (first
      | (go_at_call 130
         refine h.reset.mono ?_
         rintro e w1 ⟨rfl, t1'⟩
         have t1 : Tm G B bw bb bc (s.bk zero512) bf ev w0 w1 := t1'
         clear t1'
         have c1 : w1.cell? ⟨bw, 12, none⟩ = some (.int .u64 H.mn) := t1.hd hs.out (j := 9) rfl
         have c2 : w1.cell? ⟨bw, 13, none⟩ = some (.int .i64 H.mx) := t1.hd hs.out (j := 10) rfl)
      | (go_at_call 69
         refine (isZero_any H.mn H.mx _).mono ?_
         rw [hz3.out]
         rintro e w2a ⟨rfl, f2⟩
         have t2a : Tm G B bw bb bc (s.bk zero512) bf ev w0 w2a := (t1.below ((Below.refl _ _).alloc (Nat.le_refl _) _)).below f2
         have g2a : w2a.heap[w1.heap.size]? = some (.cells #[.int .u64 H.mn, .int .i64 H.mx] 96 (0, 0)) := blk_below (heap_alloc_new _ _) f2
         have b2a : Below w1.heap.size w1 w2a := ((Below.refl w1.heap.size w1).alloc (Nat.le_refl _) _).trans (f2.mono (by show w1.heap.size ≤ (w1.heap.push _).size; simp))
         have n1 : w1.heap.size ≠ bw ∧ w1.heap.size ≠ bf := by
           have h1 := t1.wr.lt
           have h2 := blk_lt t1.fb
           omega)
      | (go_at_call 40
         refine (unix_any 0 0 _ (by omega) (by omega)).mono ?_
         rw [unix00.1, unix00.2]
         unfold tmV
         rintro e w2b ⟨rfl, f2b⟩
         have g2b := blk_below g2a f2b
         have c2a : w2b.cell? ⟨w1.heap.size, 0, none⟩ = some (.int .u64 H.mn) := cell_blk (C := [.int .u64 H.mn, .int .i64 H.mx]) g2b rfl
         have c2b : w2b.cell? ⟨w1.heap.size, 1, none⟩ = some (.int .i64 H.mx) := cell_blk (C := [.int .u64 H.mn, .int .i64 H.mx]) g2b rfl
         have f2c : ∀ j, w2b.frozen? ⟨w1.heap.size, j, none⟩ = false := fun j => frozen_blk (C := [.int .u64 H.mn, .int .i64 H.mx]) g2b)
      | (go_at_call 73; refine (acc73 _ _).mono ?_; rintro e w' ⟨rfl, rfl⟩))
    obtain ⟨w2, hw2⟩ : ∃ w2, w2 = (w2b.setCell ⟨w1.heap.size, 0, none⟩ (.int .u64 0)).setCell ⟨w1.heap.size, 1, none⟩ (.int .i64 62135596800) := ⟨_, rfl⟩
    rw [← hw2]
    have b2b : Below w1.heap.size w1 w2 := by
      rw [hw2]
      exact ((b2a.trans (f2b.mono b2a.size)).setCell (p := ⟨w1.heap.size, 0, none⟩) (Nat.le_refl _) _).setCell (p := ⟨w1.heap.size, 1, none⟩) (Nat.le_refl _) _
    have t2 : Tm G B bw bb bc (s.bk zero512) bf ev w0 w2 := t1.below b2b
    have g2 : w2.heap[w1.heap.size]? = some (.cells #[.int .u64 0, .int .i64 62135596800] 96 (0, 0)) := by
      rw [hw2]
      exact set_blk (j := 1) (set_blk (C := [.int .u64 H.mn, .int .i64 H.mx]) (j := 0) g2b)
    have c3 : w2.cell? ⟨bw, 3, none⟩ = some (.int .u8 H.tf.toNat) := t2.hd hs.out (j := 0) rfl
    have c4 : w2.cell? ⟨bw, 179, none⟩ = some (.int .u8 0) := t2.wr.cblk (j := 156) z156
    have f4 := t2.wr.fz 179
    clear c2a c2b f2c g2b g2a
    replace hw2 := Asd.mk hw2
    refine wp_region_still_tail 7 (by kernel_rfl) (by kernel_rfl) ?_
    simp only [List.take_succ_cons, List.take_zero, List.drop_succ_cons, List.drop_zero]
    still_step
    still_call ((acc131 bw 23 _).mono (by rintro e w' ⟨rfl, rfl⟩; exact ⟨rfl, rfl⟩))
    repeat still_step
    refine wpStill_nil ?_
    have t3' : Tm G B bw bb bc (s.bk (putAt zero512 156 [H.tf])) bf ev w0 ((w2.setCell ⟨bw, 179, none⟩ (.int .u8 H.tf.toNat)).drew) := (t2.typ H.tf).drew
    have g3' : ((w2.setCell ⟨bw, 179, none⟩ (.int .u8 H.tf.toNat)).drew).heap[w1.heap.size]? = some (.cells #[.int .u64 0, .int .i64 62135596800] 96 (0, 0)) := ((Kp.refl (fun k => k = bw) w2).setCell (p := ⟨bw, 179, none⟩) (.inl rfl) _).drew.get g2 n1.1
    obtain ⟨w3, hw3⟩ : ∃ w3, w3 = (w2.setCell ⟨bw, 179, none⟩ (.int .u8 H.tf.toNat)).drew := ⟨_, rfl⟩
    have t3 : Tm G B bw bb bc (s.bk (putAt zero512 156 [H.tf])) bf ev w0 w3 := by rw [hw3]; exact t3'
    have g3 : w3.heap[w1.heap.size]? = some (.cells #[.int .u64 0, .int .i64 62135596800] 96 (0, 0)) := by rw [hw3]; exact g3'
    have c3n : w3.cell? ⟨bw, 4, none⟩ = some (.string H.name) := t3.hd hs.out (j := 1) rfl
    replace hw3 := Asd.mk hw3
    go_wp2_with fail
    rw [← hw3.out]
    clear t3' g3' c1 c2 c3 c4 f4
    refine wp_region_still_tail 7 (by kernel_rfl) (by kernel_rfl) ?_
    simp only [List.take_succ_cons, List.take_zero, List.drop_succ_cons, List.drop_zero]
    still_step
    still_step
    still_call ((acc76 bw 23 _).mono (by rintro e w' ⟨rfl, rfl⟩; exact ⟨rfl, rfl⟩))
    repeat still_step
    refine wpStill_nil ?_
    go_wp2_with (first
      | (go_at_call 96
         refine (t3.drew.strA 100 0 512 H.name (by omega) (by omega) (by omega) ok2.out.name).mono ?_
         rintro e w4 ⟨rfl, e4, t4, y4, q4⟩
         have g4 : w4.heap[w1.heap.size]? = some (.cells #[.int .u64 0, .int .i64 62135596800] 96 (0, 0)) := q4.get (show w3.drew.heap[w1.heap.size]? = _ from g3) (by omega)
         have c4 : w4.cell? ⟨bw, 5, none⟩ = some (.string H.link) := t4.hd hs.out (j := 2) rfl
         clear t3)
      | (go_at_call 74; refine (acc74 _ _).mono ?_; rintro e w' ⟨rfl, rfl⟩))
    refine wp_region_still_tail 7 (by kernel_rfl) (by kernel_rfl) ?_
    simp only [List.take_succ_cons, List.take_zero, List.drop_succ_cons, List.drop_zero]
    still_step
    still_step
    still_call ((acc77 bw 23 _).mono (by rintro e w' ⟨rfl, rfl⟩; exact ⟨rfl, rfl⟩))
    repeat still_step
    refine wpStill_nil ?_
    go_wp2_with (first
      | (go_at_call 96
         refine (t4.drew.strA 100 157 355 H.link (by omega) (by omega) (by omega) ok2.out.link).mono ?_
         rintro e w5 ⟨rfl, e5, t5, y5, q5⟩
         have g5 : w5.heap[w1.heap.size]? = some (.cells #[.int .u64 0, .int .i64 62135596800] 96 (0, 0)) := q5.get (show w4.drew.heap[w1.heap.size]? = _ from g4) (by omega)
         have c5 : w5.cell? ⟨bw, 7, none⟩ = some (.int .i64 H.mode) := t5.hd hs.out (j := 4) rfl
         clear t4)
      | (go_at_call 74; refine (acc74 _ _).mono ?_; rintro e w' ⟨rfl, rfl⟩))
    refine wp_region_still_tail 7 (by kernel_rfl) (by kernel_rfl) ?_
    simp only [List.take_succ_cons, List.take_zero, List.drop_succ_cons, List.drop_zero]
    still_step
    still_step
    still_call ((acc80 bw 23 _).mono (by rintro e w' ⟨rfl, rfl⟩; exact ⟨rfl, rfl⟩))
    repeat still_step
    refine wpStill_nil ?_
    go_wp2_with (first
      | (go_at_call 97
         refine (t5.drew.octA 8 100 412 H.mode fitsInOctal_8 (by omega) (by omega) (by omega) (by omega)).mono ?_
         rintro e w6 ⟨rfl, e6, t6, y6, q6⟩
         have g6 : w6.heap[w1.heap.size]? = some (.cells #[.int .u64 0, .int .i64 62135596800] 96 (0, 0)) := q6.get (show w5.drew.heap[w1.heap.size]? = _ from g5) (by omega)
         have c6 : w6.cell? ⟨bw, 8, none⟩ = some (.int .i64 H.uid) := t6.hd hs.out (j := 5) rfl
         clear t5)
      | (go_at_call 74; refine (acc74 _ _).mono ?_; rintro e w' ⟨rfl, rfl⟩))
    refine wp_region_still_tail 7 (by kernel_rfl) (by kernel_rfl) ?_
    simp only [List.take_succ_cons, List.take_zero, List.drop_succ_cons, List.drop_zero]
    still_step
    still_step
    still_call ((acc81 bw 23 _).mono (by rintro e w' ⟨rfl, rfl⟩; exact ⟨rfl, rfl⟩))
    repeat still_step
    refine wpStill_nil ?_
    go_wp2_with (first
      | (go_at_call 97
         refine (t6.drew.octA 8 108 404 H.uid fitsInOctal_8 (by omega) (by omega) (by omega) (by omega)).mono ?_
         rintro e w7 ⟨rfl, e7, t7, y7, q7⟩
         have g7 : w7.heap[w1.heap.size]? = some (.cells #[.int .u64 0, .int .i64 62135596800] 96 (0, 0)) := q7.get (show w6.drew.heap[w1.heap.size]? = _ from g6) (by omega)
         have c7 : w7.cell? ⟨bw, 9, none⟩ = some (.int .i64 H.gid) := t7.hd hs.out (j := 6) rfl
         clear t6)
      | (go_at_call 74; refine (acc74 _ _).mono ?_; rintro e w' ⟨rfl, rfl⟩))
    refine wp_region_still_tail 7 (by kernel_rfl) (by kernel_rfl) ?_
    simp only [List.take_succ_cons, List.take_zero, List.drop_succ_cons, List.drop_zero]
    still_step
    still_step
    still_call ((acc82 bw 23 _).mono (by rintro e w' ⟨rfl, rfl⟩; exact ⟨rfl, rfl⟩))
    repeat still_step
    refine wpStill_nil ?_
    go_wp2_with (first
      | (go_at_call 97
         refine (t7.drew.octA 8 116 396 H.gid fitsInOctal_8 (by omega) (by omega) (by omega) (by omega)).mono ?_
         rintro e w8 ⟨rfl, e8, t8, y8, q8⟩
         have g8 : w8.heap[w1.heap.size]? = some (.cells #[.int .u64 0, .int .i64 62135596800] 96 (0, 0)) := q8.get (show w7.drew.heap[w1.heap.size]? = _ from g7) (by omega)
         have c8 : w8.cell? ⟨bw, 6, none⟩ = some (.int .i64 H.size) := t8.hd hs.out (j := 3) rfl
         clear t7)
      | (go_at_call 74; refine (acc74 _ _).mono ?_; rintro e w' ⟨rfl, rfl⟩))
    refine wp_region_still_tail 7 (by kernel_rfl) (by kernel_rfl) ?_
    simp only [List.take_succ_cons, List.take_zero, List.drop_succ_cons, List.drop_zero]
    still_step
    still_step
    still_call ((acc83 bw 23 _).mono (by rintro e w' ⟨rfl, rfl⟩; exact ⟨rfl, rfl⟩))
    repeat still_step
    refine wpStill_nil ?_
    go_wp2_with (first
      | (go_at_call 97
         refine (t8.drew.octA 12 124 388 H.size fitsInOctal_12 (by omega) (by omega) (by omega) (by omega)).mono ?_
         rintro e w9 ⟨rfl, e9, t9, y9, q9⟩
         have g9 : w9.heap[w1.heap.size]? = some (.cells #[.int .u64 0, .int .i64 62135596800] 96 (0, 0)) := q9.get (show w8.drew.heap[w1.heap.size]? = _ from g8) (by omega)
         have c9a : w9.cell? ⟨w1.heap.size, 0, none⟩ = some (.int .u64 0) := cell_blk (C := [.int .u64 0, .int .i64 62135596800]) g9 rfl
         have c9b : w9.cell? ⟨w1.heap.size, 1, none⟩ = some (.int .i64 62135596800) := cell_blk (C := [.int .u64 0, .int .i64 62135596800]) g9 rfl
         clear t8)
      | (go_at_call 74; refine (acc74 _ _).mono ?_; rintro e w' ⟨rfl, rfl⟩))
    go_cut [] (fun wx => ∃ ev', Tm G B bw bb bc (s.bk (putO 12 136 H.secs (putO 12 124 H.size (putO 8 116 H.gid (putO 8 108 H.uid (putO 8 100 H.mode (fsU 100 157 H.link (fsU 100 0 H.name (putAt zero512 156 [H.tf]))))))))) bf ev' w0 wx ∧ (fitO 12 H.secs = true → ev' = e9))
    case first =>
      go_region_with (first
        | (go_at_call 86; refine (acc86 _ _ _).mono ?_; rintro e w' ⟨rfl, rfl⟩)
        | (go_at_call 70
           refine (tUnix_any 0 62135596800 _ (by omega)).mono ?_
           rw [← hsec.out]
           rintro e wu ⟨rfl, fu⟩
           have tu := t9.drew.below fu)
        | (go_at_call 97
           refine (tu.octA 12 136 376 H.secs fitsInOctal_12 (by omega) (by omega) (by omega) (by omega)).mono ?_
           rintro e wv ⟨rfl, ev', tv, yv, qv⟩))
      all_goals (go_wp2_with fail; go_meet; exact ⟨ev', tv, yv⟩)
    case rest =>
    obtain ⟨e10, t10, y10⟩ := hcut
    have c10 : wc.cell? ⟨bw, 10, none⟩ = some (.string H.uname) := t10.hd hs.out (j := 7) rfl
    go_wp2_with (go_at_call 74; refine (acc74 _ _).mono ?_; rintro e w' ⟨rfl, rfl⟩)
    refine wp_region_still_tail 7 (by kernel_rfl) (by kernel_rfl) ?_
    simp only [List.take_succ_cons, List.take_zero, List.drop_succ_cons, List.drop_zero]
    still_step
    still_step
    still_call ((acc78 bw 23 _).mono (by rintro e w' ⟨rfl, rfl⟩; exact ⟨rfl, rfl⟩))
    repeat still_step
    refine wpStill_nil ?_
    go_wp2_with (first
      | (go_at_call 96
         refine (t10.drew.strA 32 265 247 H.uname (by omega) (by omega) (by omega) ok2.out.uname).mono ?_
         rintro e w11 ⟨rfl, e11, t11, y11, q11⟩
         skip
         have c11 : w11.cell? ⟨bw, 11, none⟩ = some (.string H.gname) := t11.hd hs.out (j := 8) rfl
         clear t10)
      | (go_at_call 74; refine (acc74 _ _).mono ?_; rintro e w' ⟨rfl, rfl⟩))
    refine wp_region_still_tail 7 (by kernel_rfl) (by kernel_rfl) ?_
    simp only [List.take_succ_cons, List.take_zero, List.drop_succ_cons, List.drop_zero]
    still_step
    still_step
    still_call ((acc79 bw 23 _).mono (by rintro e w' ⟨rfl, rfl⟩; exact ⟨rfl, rfl⟩))
    repeat still_step
    refine wpStill_nil ?_
    go_wp2_with (first
      | (go_at_call 96
         refine (t11.drew.strA 32 297 215 H.gname (by omega) (by omega) (by omega) ok2.out.gname).mono ?_
         rintro e w12 ⟨rfl, e12, t12, y12, q12⟩
         skip
         have c12 : w12.cell? ⟨bw, 18, none⟩ = some (.int .i64 H.maj) := t12.hd hs.out (j := 15) rfl
         clear t11)
      | (go_at_call 74; refine (acc74 _ _).mono ?_; rintro e w' ⟨rfl, rfl⟩))
    refine wp_region_still_tail 7 (by kernel_rfl) (by kernel_rfl) ?_
    simp only [List.take_succ_cons, List.take_zero, List.drop_succ_cons, List.drop_zero]
    still_step
    still_step
    still_call ((acc84 bw 23 _).mono (by rintro e w' ⟨rfl, rfl⟩; exact ⟨rfl, rfl⟩))
    repeat still_step
    refine wpStill_nil ?_
    go_wp2_with (first
      | (go_at_call 97
         refine (t12.drew.octA 8 329 183 H.maj fitsInOctal_8 (by omega) (by omega) (by omega) (by omega)).mono ?_
         rintro e w13 ⟨rfl, e13, t13, y13, q13⟩
         skip
         have c13 : w13.cell? ⟨bw, 19, none⟩ = some (.int .i64 H.min) := t13.hd hs.out (j := 16) rfl
         clear t12)
      | (go_at_call 74; refine (acc74 _ _).mono ?_; rintro e w' ⟨rfl, rfl⟩))
    refine wp_region_still_tail 7 (by kernel_rfl) (by kernel_rfl) ?_
    simp only [List.take_succ_cons, List.take_zero, List.drop_succ_cons, List.drop_zero]
    still_step
    still_step
    still_call ((acc85 bw 23 _).mono (by rintro e w' ⟨rfl, rfl⟩; exact ⟨rfl, rfl⟩))
    repeat still_step
    refine wpStill_nil ?_
    go_wp2_with (first
      | (go_at_call 97
         refine (t13.drew.octA 8 337 175 H.min fitsInOctal_8 (by omega) (by omega) (by omega) (by omega)).mono ?_
         rintro e w14 ⟨rfl, e14, t14, y14, q14⟩
         skip
         clear t13)
      | (go_at_call 74; refine (acc74 _ _).mono ?_; rintro e w' ⟨rfl, rfl⟩))
    go_ret
    exact ⟨rfl, _, t14, fun hf => by obtain ⟨a1, a2, a3, a4, a5, a6, a7, a8, a9, a10, a11⟩ := hf; rw [y14 a11, y13 a10, y12 a9, y11 a8, y10 a7, y9 a6, y8 a5, y7 a4, y6 a3, y5 a2, y4 a1]⟩
  · have hz2 : isZ H.mn H.mx = false := by simpa using hz
    have hz3 : Asd ((decide (H.mn = 0) && decide (H.mx = 0)) = false) := Asd.mk hz2
    have hsec : Asd (H.secs = tmUnix H.mx) := Asd.mk (by unfold Hd.secs; rw [hz2]; rfl)
    clear hz hz2
    go_enter Tryz.func95, Tryz.ntmps95
    go_wp2_with (first
      | (go_at_call 130
         refine h.reset.mono ?_
         rintro e w1 ⟨rfl, t1'⟩
         have t1 : Tm G B bw bb bc (s.bk zero512) bf ev w0 w1 := t1'
         clear t1'
         have c1 : w1.cell? ⟨bw, 12, none⟩ = some (.int .u64 H.mn) := t1.hd hs.out (j := 9) rfl
         have c2 : w1.cell? ⟨bw, 13, none⟩ = some (.int .i64 H.mx) := t1.hd hs.out (j := 10) rfl)
      | (go_at_call 69
         refine (isZero_any H.mn H.mx _).mono ?_
         rw [hz3.out]
         rintro e w2 ⟨rfl, f2⟩
         have t2 : Tm G B bw bb bc (s.bk zero512) bf ev w0 w2 := (t1.below ((Below.refl _ _).alloc (Nat.le_refl _) _)).below f2
         have g2 : w2.heap[w1.heap.size]? = some (.cells #[.int .u64 H.mn, .int .i64 H.mx] 96 (0, 0)) := blk_below (heap_alloc_new _ _) f2
         have n1 : w1.heap.size ≠ bw ∧ w1.heap.size ≠ bf := by
           have h1 := t1.wr.lt
           have h2 := blk_lt t1.fb
           omega
         have c3 : w2.cell? ⟨bw, 3, none⟩ = some (.int .u8 H.tf.toNat) := t2.hd hs.out (j := 0) rfl
         have c4 : w2.cell? ⟨bw, 179, none⟩ = some (.int .u8 0) := t2.wr.cblk (j := 156) z156
         have f4 := t2.wr.fz 179)
      | (go_at_call 73; refine (acc73 _ _).mono ?_; rintro e w' ⟨rfl, rfl⟩))
    refine wp_region_still_tail 7 (by kernel_rfl) (by kernel_rfl) ?_
    simp only [List.take_succ_cons, List.take_zero, List.drop_succ_cons, List.drop_zero]
    still_step
    still_call ((acc131 bw 23 _).mono (by rintro e w' ⟨rfl, rfl⟩; exact ⟨rfl, rfl⟩))
    repeat still_step
    refine wpStill_nil ?_
    have t3' : Tm G B bw bb bc (s.bk (putAt zero512 156 [H.tf])) bf ev w0 ((w2.setCell ⟨bw, 179, none⟩ (.int .u8 H.tf.toNat)).drew) := (t2.typ H.tf).drew
    have g3' : ((w2.setCell ⟨bw, 179, none⟩ (.int .u8 H.tf.toNat)).drew).heap[w1.heap.size]? = some (.cells #[.int .u64 H.mn, .int .i64 H.mx] 96 (0, 0)) := ((Kp.refl (fun k => k = bw) w2).setCell (p := ⟨bw, 179, none⟩) (.inl rfl) _).drew.get g2 n1.1
    obtain ⟨w3, hw3⟩ : ∃ w3, w3 = (w2.setCell ⟨bw, 179, none⟩ (.int .u8 H.tf.toNat)).drew := ⟨_, rfl⟩
    have t3 : Tm G B bw bb bc (s.bk (putAt zero512 156 [H.tf])) bf ev w0 w3 := by rw [hw3]; exact t3'
    have g3 : w3.heap[w1.heap.size]? = some (.cells #[.int .u64 H.mn, .int .i64 H.mx] 96 (0, 0)) := by rw [hw3]; exact g3'
    have c3n : w3.cell? ⟨bw, 4, none⟩ = some (.string H.name) := t3.hd hs.out (j := 1) rfl
    replace hw3 := Asd.mk hw3
    go_wp2_with fail
    rw [← hw3.out]
    clear t3' g3' c1 c2 c3 c4 f4
    refine wp_region_still_tail 7 (by kernel_rfl) (by kernel_rfl) ?_
    simp only [List.take_succ_cons, List.take_zero, List.drop_succ_cons, List.drop_zero]
    still_step
    still_step
    still_call ((acc76 bw 23 _).mono (by rintro e w' ⟨rfl, rfl⟩; exact ⟨rfl, rfl⟩))
    repeat still_step
    refine wpStill_nil ?_
    go_wp2_with (first
      | (go_at_call 96
         refine (t3.drew.strA 100 0 512 H.name (by omega) (by omega) (by omega) ok2.out.name).mono ?_
         rintro e w4 ⟨rfl, e4, t4, y4, q4⟩
         have g4 : w4.heap[w1.heap.size]? = some (.cells #[.int .u64 H.mn, .int .i64 H.mx] 96 (0, 0)) := q4.get (show w3.drew.heap[w1.heap.size]? = _ from g3) (by omega)
         have c4 : w4.cell? ⟨bw, 5, none⟩ = some (.string H.link) := t4.hd hs.out (j := 2) rfl
         clear t3)
      | (go_at_call 74; refine (acc74 _ _).mono ?_; rintro e w' ⟨rfl, rfl⟩))
    refine wp_region_still_tail 7 (by kernel_rfl) (by kernel_rfl) ?_
    simp only [List.take_succ_cons, List.take_zero, List.drop_succ_cons, List.drop_zero]
    still_step
    still_step
    still_call ((acc77 bw 23 _).mono (by rintro e w' ⟨rfl, rfl⟩; exact ⟨rfl, rfl⟩))
    repeat still_step
    refine wpStill_nil ?_
    go_wp2_with (first
      | (go_at_call 96
         refine (t4.drew.strA 100 157 355 H.link (by omega) (by omega) (by omega) ok2.out.link).mono ?_
         rintro e w5 ⟨rfl, e5, t5, y5, q5⟩
         have g5 : w5.heap[w1.heap.size]? = some (.cells #[.int .u64 H.mn, .int .i64 H.mx] 96 (0, 0)) := q5.get (show w4.drew.heap[w1.heap.size]? = _ from g4) (by omega)
         have c5 : w5.cell? ⟨bw, 7, none⟩ = some (.int .i64 H.mode) := t5.hd hs.out (j := 4) rfl
         clear t4)
      | (go_at_call 74; refine (acc74 _ _).mono ?_; rintro e w' ⟨rfl, rfl⟩))
    refine wp_region_still_tail 7 (by kernel_rfl) (by kernel_rfl) ?_
    simp only [List.take_succ_cons, List.take_zero, List.drop_succ_cons, List.drop_zero]
    still_step
    still_step
    still_call ((acc80 bw 23 _).mono (by rintro e w' ⟨rfl, rfl⟩; exact ⟨rfl, rfl⟩))
    repeat still_step
    refine wpStill_nil ?_
    go_wp2_with (first
      | (go_at_call 97
         refine (t5.drew.octA 8 100 412 H.mode fitsInOctal_8 (by omega) (by omega) (by omega) (by omega)).mono ?_
         rintro e w6 ⟨rfl, e6, t6, y6, q6⟩
         have g6 : w6.heap[w1.heap.size]? = some (.cells #[.int .u64 H.mn, .int .i64 H.mx] 96 (0, 0)) := q6.get (show w5.drew.heap[w1.heap.size]? = _ from g5) (by omega)
         have c6 : w6.cell? ⟨bw, 8, none⟩ = some (.int .i64 H.uid) := t6.hd hs.out (j := 5) rfl
         clear t5)
      | (go_at_call 74; refine (acc74 _ _).mono ?_; rintro e w' ⟨rfl, rfl⟩))
    refine wp_region_still_tail 7 (by kernel_rfl) (by kernel_rfl) ?_
    simp only [List.take_succ_cons, List.take_zero, List.drop_succ_cons, List.drop_zero]
    still_step
    still_step
    still_call ((acc81 bw 23 _).mono (by rintro e w' ⟨rfl, rfl⟩; exact ⟨rfl, rfl⟩))
    repeat still_step
    refine wpStill_nil ?_
    go_wp2_with (first
      | (go_at_call 97
         refine (t6.drew.octA 8 108 404 H.uid fitsInOctal_8 (by omega) (by omega) (by omega) (by omega)).mono ?_
         rintro e w7 ⟨rfl, e7, t7, y7, q7⟩
         have g7 : w7.heap[w1.heap.size]? = some (.cells #[.int .u64 H.mn, .int .i64 H.mx] 96 (0, 0)) := q7.get (show w6.drew.heap[w1.heap.size]? = _ from g6) (by omega)
         have c7 : w7.cell? ⟨bw, 9, none⟩ = some (.int .i64 H.gid) := t7.hd hs.out (j := 6) rfl
         clear t6)
      | (go_at_call 74; refine (acc74 _ _).mono ?_; rintro e w' ⟨rfl, rfl⟩))
    refine wp_region_still_tail 7 (by kernel_rfl) (by kernel_rfl) ?_
    simp only [List.take_succ_cons, List.take_zero, List.drop_succ_cons, List.drop_zero]
    still_step
    still_step
    still_call ((acc82 bw 23 _).mono (by rintro e w' ⟨rfl, rfl⟩; exact ⟨rfl, rfl⟩))
    repeat still_step
    refine wpStill_nil ?_
    go_wp2_with (first
      | (go_at_call 97
         refine (t7.drew.octA 8 116 396 H.gid fitsInOctal_8 (by omega) (by omega) (by omega) (by omega)).mono ?_
         rintro e w8 ⟨rfl, e8, t8, y8, q8⟩
         have g8 : w8.heap[w1.heap.size]? = some (.cells #[.int .u64 H.mn, .int .i64 H.mx] 96 (0, 0)) := q8.get (show w7.drew.heap[w1.heap.size]? = _ from g7) (by omega)
         have c8 : w8.cell? ⟨bw, 6, none⟩ = some (.int .i64 H.size) := t8.hd hs.out (j := 3) rfl
         clear t7)
      | (go_at_call 74; refine (acc74 _ _).mono ?_; rintro e w' ⟨rfl, rfl⟩))
    refine wp_region_still_tail 7 (by kernel_rfl) (by kernel_rfl) ?_
    simp only [List.take_succ_cons, List.take_zero, List.drop_succ_cons, List.drop_zero]
    still_step
    still_step
    still_call ((acc83 bw 23 _).mono (by rintro e w' ⟨rfl, rfl⟩; exact ⟨rfl, rfl⟩))
    repeat still_step
    refine wpStill_nil ?_
    go_wp2_with (first
      | (go_at_call 97
         refine (t8.drew.octA 12 124 388 H.size fitsInOctal_12 (by omega) (by omega) (by omega) (by omega)).mono ?_
         rintro e w9 ⟨rfl, e9, t9, y9, q9⟩
         have g9 : w9.heap[w1.heap.size]? = some (.cells #[.int .u64 H.mn, .int .i64 H.mx] 96 (0, 0)) := q9.get (show w8.drew.heap[w1.heap.size]? = _ from g8) (by omega)
         have c9a : w9.cell? ⟨w1.heap.size, 0, none⟩ = some (.int .u64 H.mn) := cell_blk (C := [.int .u64 H.mn, .int .i64 H.mx]) g9 rfl
         have c9b : w9.cell? ⟨w1.heap.size, 1, none⟩ = some (.int .i64 H.mx) := cell_blk (C := [.int .u64 H.mn, .int .i64 H.mx]) g9 rfl
         clear t8)
      | (go_at_call 74; refine (acc74 _ _).mono ?_; rintro e w' ⟨rfl, rfl⟩))
    go_cut [] (fun wx => ∃ ev', Tm G B bw bb bc (s.bk (putO 12 136 H.secs (putO 12 124 H.size (putO 8 116 H.gid (putO 8 108 H.uid (putO 8 100 H.mode (fsU 100 157 H.link (fsU 100 0 H.name (putAt zero512 156 [H.tf]))))))))) bf ev' w0 wx ∧ (fitO 12 H.secs = true → ev' = e9))
    case first =>
      go_region_with (first
        | (go_at_call 86; refine (acc86 _ _ _).mono ?_; rintro e w' ⟨rfl, rfl⟩)
        | (go_at_call 70
           refine (tUnix_any H.mn H.mx _ (by omega)).mono ?_
           rw [← hsec.out]
           rintro e wu ⟨rfl, fu⟩
           have tu := t9.drew.below fu)
        | (go_at_call 97
           refine (tu.octA 12 136 376 H.secs fitsInOctal_12 (by omega) (by omega) (by omega) (by omega)).mono ?_
           rintro e wv ⟨rfl, ev', tv, yv, qv⟩))
      all_goals (go_wp2_with fail; go_meet; exact ⟨ev', tv, yv⟩)
    case rest =>
    obtain ⟨e10, t10, y10⟩ := hcut
    have c10 : wc.cell? ⟨bw, 10, none⟩ = some (.string H.uname) := t10.hd hs.out (j := 7) rfl
    go_wp2_with (go_at_call 74; refine (acc74 _ _).mono ?_; rintro e w' ⟨rfl, rfl⟩)
    refine wp_region_still_tail 7 (by kernel_rfl) (by kernel_rfl) ?_
    simp only [List.take_succ_cons, List.take_zero, List.drop_succ_cons, List.drop_zero]
    still_step
    still_step
    still_call ((acc78 bw 23 _).mono (by rintro e w' ⟨rfl, rfl⟩; exact ⟨rfl, rfl⟩))
    repeat still_step
    refine wpStill_nil ?_
    go_wp2_with (first
      | (go_at_call 96
         refine (t10.drew.strA 32 265 247 H.uname (by omega) (by omega) (by omega) ok2.out.uname).mono ?_
         rintro e w11 ⟨rfl, e11, t11, y11, q11⟩
         skip
         have c11 : w11.cell? ⟨bw, 11, none⟩ = some (.string H.gname) := t11.hd hs.out (j := 8) rfl
         clear t10)
      | (go_at_call 74; refine (acc74 _ _).mono ?_; rintro e w' ⟨rfl, rfl⟩))
    refine wp_region_still_tail 7 (by kernel_rfl) (by kernel_rfl) ?_
    simp only [List.take_succ_cons, List.take_zero, List.drop_succ_cons, List.drop_zero]
    still_step
    still_step
    still_call ((acc79 bw 23 _).mono (by rintro e w' ⟨rfl, rfl⟩; exact ⟨rfl, rfl⟩))
    repeat still_step
    refine wpStill_nil ?_
    go_wp2_with (first
      | (go_at_call 96
         refine (t11.drew.strA 32 297 215 H.gname (by omega) (by omega) (by omega) ok2.out.gname).mono ?_
         rintro e w12 ⟨rfl, e12, t12, y12, q12⟩
         skip
         have c12 : w12.cell? ⟨bw, 18, none⟩ = some (.int .i64 H.maj) := t12.hd hs.out (j := 15) rfl
         clear t11)
      | (go_at_call 74; refine (acc74 _ _).mono ?_; rintro e w' ⟨rfl, rfl⟩))
    refine wp_region_still_tail 7 (by kernel_rfl) (by kernel_rfl) ?_
    simp only [List.take_succ_cons, List.take_zero, List.drop_succ_cons, List.drop_zero]
    still_step
    still_step
    still_call ((acc84 bw 23 _).mono (by rintro e w' ⟨rfl, rfl⟩; exact ⟨rfl, rfl⟩))
    repeat still_step
    refine wpStill_nil ?_
    go_wp2_with (first
      | (go_at_call 97
         refine (t12.drew.octA 8 329 183 H.maj fitsInOctal_8 (by omega) (by omega) (by omega) (by omega)).mono ?_
         rintro e w13 ⟨rfl, e13, t13, y13, q13⟩
         skip
         have c13 : w13.cell? ⟨bw, 19, none⟩ = some (.int .i64 H.min) := t13.hd hs.out (j := 16) rfl
         clear t12)
      | (go_at_call 74; refine (acc74 _ _).mono ?_; rintro e w' ⟨rfl, rfl⟩))
    refine wp_region_still_tail 7 (by kernel_rfl) (by kernel_rfl) ?_
    simp only [List.take_succ_cons, List.take_zero, List.drop_succ_cons, List.drop_zero]
    still_step
    still_step
    still_call ((acc85 bw 23 _).mono (by rintro e w' ⟨rfl, rfl⟩; exact ⟨rfl, rfl⟩))
    repeat still_step
    refine wpStill_nil ?_
    go_wp2_with (first
      | (go_at_call 97
         refine (t13.drew.octA 8 337 175 H.min fitsInOctal_8 (by omega) (by omega) (by omega) (by omega)).mono ?_
         rintro e w14 ⟨rfl, e14, t14, y14, q14⟩
         skip
         clear t13)
      | (go_at_call 74; refine (acc74 _ _).mono ?_; rintro e w' ⟨rfl, rfl⟩))
    go_ret
    exact ⟨rfl, _, t14, fun hf => by obtain ⟨a1, a2, a3, a4, a5, a6, a7, a8, a9, a10, a11⟩ := hf; rw [y14 a11, y13 a10, y12 a9, y11 a8, y10 a7, y9 a6, y8 a5, y7 a4, y6 a3, y5 a2, y4 a1]⟩
def WSt.hd (s : WSt) (l : List Value) : WSt := { s with hdr := l }
def Hd.nm (h : Hd) (n : ByteArray) : Hd := { h with name := n }
theorem WSt.hd_same (s : WSt) (l : List Value) (h : s.hdr = l) : s.hd l = s := by subst h; rfl
theorem Wr.setName {B bw bb bc : Nat} {s : WSt} {w : World} {H : Hd} (h : Wr B bw bb bc s w) (hs : s.hdr = H.cells) (n : ByteArray) : Wr B bw bb bc (s.hd (H.nm n).cells) (w.setCell ⟨bw, 4, none⟩ (.string n)) := by
  refine h.set 4 _ _ ?_ rfl rfl rfl h.bl
  unfold wCells wA
  rw [hs]
  unfold Hd.cells Hd.nm WSt.hd
  rfl
theorem WSt.bk_err (s : WSt) (b : List UInt8) : (s.bk b).err = s.err := rfl
theorem WSt.bk_nb (s : WSt) (b : List UInt8) : (s.bk b).nb = s.nb := rfl
theorem WSt.bk_pad (s : WSt) (b : List UInt8) : (s.bk b).pad = s.pad := rfl
theorem WSt.bk_out (s : WSt) (b : List UInt8) : (s.bk b).out = s.out := rfl
theorem WSt.bk_hdr (s : WSt) (b : List UInt8) : (s.bk b).hdr = s.hdr := rfl
theorem Tm.setU2 {G : GlP} {B bw bb bc : Nat} {s : WSt} {bf : Nat} {ev : Value} {w0 w : World} {b : List UInt8} (h : Tm G B bw bb bc (s.bk b) bf ev w0 w) :
    Calls Tryz.prog 99 #[.pointer (some ⟨bw, 23, none⟩), .int .i64 2] w fun e w' => e = .returned (.tuple #[]) ∧ Tm G B bw bb bc (s.bk (setFmtU b)) bf ev w0 w' := h.setF2
theorem Tm.setU4 {G : GlP} {B bw bb bc : Nat} {s : WSt} {bf : Nat} {ev : Value} {w0 w : World} {b : List UInt8} (h : Tm G B bw bb bc (s.bk b) bf ev w0 w) :
    Calls Tryz.prog 99 #[.pointer (some ⟨bw, 23, none⟩), .int .i64 4] w fun e w' => e = .returned (.tuple #[]) ∧ Tm G B bw bb bc (s.bk (setFmtU b)) bf ev w0 w' := h.setF4
theorem Tm.setG8 {G : GlP} {B bw bb bc : Nat} {s : WSt} {bf : Nat} {ev : Value} {w0 w : World} {b : List UInt8} (h : Tm G B bw bb bc (s.bk b) bf ev w0 w) :
    Calls Tryz.prog 99 #[.pointer (some ⟨bw, 23, none⟩), .int .i64 8] w fun e w' => e = .returned (.tuple #[]) ∧ Tm G B bw bb bc (s.bk (setFmtG b)) bf ev w0 w' := h.setF8
/-- The header as a USTAR block has it: a long name is parted. -/
def usH (H : Hd) : Hd := if splitOk H.name then H.nm (spSuf H.name) else H
def usPre (H : Hd) : ByteArray := if splitOk H.name then spPre H.name else ⟨#[]⟩
def usBlk (H : Hd) : List UInt8 := setFmtU (fsU 155 345 (usPre H) (tplB fsU putO (usH H)))
def usSt (s : WSt) (p : Nat) (H : Hd) : WSt := rawSt ((s.hd (usH H).cells).bk (usBlk H)) p H.size H.tf
theorem spPre_le (s : ByteArray) : (spPre s).size ≤ s.size := by
  unfold spPre
  split
  · rw [Lib.size_eq, Lib.extract_data]; simp <;> omega
  · show 0 ≤ _; exact Nat.zero_le _
theorem spSuf_le (s : ByteArray) : (spSuf s).size ≤ s.size := by
  unfold spSuf
  split
  · rw [Lib.size_eq, Lib.extract_data]; simp <;> omega
  · show 0 ≤ _; exact Nat.zero_le _
theorem usH_ok (H : Hd) (ok : H.Ok) : (usH H).Ok := by
  unfold usH
  split
  · exact { ok with name := Nat.le_trans (spSuf_le _) ok.name }
  · exact ok
set_option maxRecDepth 100000 in
set_option maxHeartbeats 2000000 in
theorem ustar_any (G : GlP) (B bw bb bc : Nat) (s : WSt) (w : World) (p : Nat) (H : Hd) (hgl : Gl G B w) (h : Wr B bw bb bc s w) (he : s.err = .nilIface) (hnb : s.nb ≤ 0) (hp : s.pad = (p : Int)) (hp2 : p ≤ 512) (hlim : s.out.length ≤ 17592186044416)
    (hs : s.hdr = H.cells) (ok : H.Ok) (hfit : fitsU (usH H)) (hpre : (usPre H).size ≤ 155) :
    Calls Tryz.prog 37 #[.pointer (some ⟨bw, 0, none⟩), .pointer (some ⟨bw, 3, none⟩)] w fun e w' => e = .returned .nilIface ∧ ∃ bc', Wr B bw bb bc' (usSt s p H) w' ∧ Fr B w w' := by
  have hB := hgl.size
  have c1 : w.cell? ⟨bw, 4, none⟩ = some (.string H.name) := h.chdr (j := 1) (by rw [hs]; rfl)
  have hnm := ok.name
  have oku := Asd.mk (usH_ok H ok)
  replace ok := Asd.mk ok
  replace hfit := Asd.mk hfit
  replace hpre := Asd.mk hpre
  replace hs := Asd.mk hs
  replace he := Asd.mk he
  replace hp := Asd.mk hp
  go_enter Tryz.func37, Tryz.ntmps37
  go_upto_if 20 with (go_at_call 63; refine (splitUSTARPath_any H.name _ (by omega)).mono ?_; rintro e w1 ⟨rfl, f1⟩; have h1 := h.below f1; have c4 : w1.cell? ⟨bw, 4, none⟩ = some (.string H.name) := h1.chdr (j := 1) (by rw [hs.out]; rfl); have g4 := h1.fz 4; have q1 := Fr.of_below f1 hB)
  go_cut [5] from 5 to 25 (fun s5 wx => s5 = .string (usPre H) ∧ Wr B bw bb bc (s.hd (usH H).cells) wx ∧ Fr B w wx)
  case first =>
    rcases (Bool.eq_false_or_eq_true (splitOk H.name)) with hk | hk
    · have hk2 := Asd.mk hk
      simp only [hk]
      go_wp2_with fail
      go_meet
      case rel =>
        unfold usPre usH
        rw [hk2.out]
        exact ⟨rfl, h1.setName hs.out _, q1.trans (h1.frSet (Nat.le_trans hB q1.size) 4 _)⟩
    · have hk2 := Asd.mk hk
      simp only [hk]
      go_wp2_with fail
      go_meet
      case rel =>
        unfold usPre usH
        rw [hk2.out]
        exact ⟨rfl, by show Wr B bw bb bc (s.hd H.cells) _; rw [WSt.hd_same s _ hs.out]; exact h1, q1⟩
  case rest =>
  obtain ⟨rfl, h2, q2⟩ := hcut
  clear c1
  have e1 : (usH H).size = H.size ∧ (usH H).tf = H.tf := by unfold usH; split <;> exact ⟨rfl, rfl⟩
  obtain ⟨H1, hH1⟩ : ∃ H1, Asd (H1 = usH H) := ⟨_, ⟨rfl⟩⟩
  rw [← hH1.out] at h2 e1 oku hfit
  obtain ⟨s1, hs1⟩ : ∃ s1, Asd (s1 = s.hd H1.cells) := ⟨_, ⟨rfl⟩⟩
  have f1 : s1.err = .nilIface := by rw [hs1.out]; exact he.out
  have f2 : s1.nb ≤ 0 := by rw [hs1.out]; exact hnb
  have f3 : s1.pad = (p : Int) := by rw [hs1.out]; exact hp.out
  have f4 : s1.out.length ≤ 17592186044416 := by rw [hs1.out]; exact hlim
  have f5 : s1.hdr = H1.cells := by rw [hs1.out]; rfl
  rw [← hs1.out] at h2
  replace f1 := Asd.mk f1
  replace f3 := Asd.mk f3
  replace f5 := Asd.mk f5
  replace e1 := Asd.mk e1
  have t0 : Tm G B bw bb bc (s1.bk s1.blk) wc.heap.size .nilIface wc (wc.alloc (.cells #[.nilIface] 155 (0, 0))) := Tm.start h2 (Nat.le_trans hB q2.size) (q2.gl hgl)
  obtain ⟨X1, hX1⟩ : ∃ X, Asd (X = tplB fsU putO H1) := ⟨_, ⟨rfl⟩⟩
  obtain ⟨X2, hX2⟩ : ∃ X, Asd (X = fsU 155 345 (usPre H) X1) := ⟨_, ⟨rfl⟩⟩
  obtain ⟨X3, hX3⟩ : ∃ X, Asd (X = setFmtU X2) := ⟨_, ⟨rfl⟩⟩
  go_upto_region 11 with (first
    | (go_at_call 95
       refine (tpl_U G B bw bb bc s1 wc.heap.size .nilIface wc _ H1 s1.blk t0 f5 oku.out).mono ?_
       rintro e w3 ⟨rfl, ev, t1, hev⟩
       obtain rfl : ev = .nilIface := hev hfit.out
       clear hev
       rw [← hX1.out] at t1)
    | (go_at_call 74; refine (acc74 _ _).mono ?_; rintro e w' ⟨rfl, rfl⟩)
    | (go_at_call 98; refine (acc98 _ _ _).mono ?_; rintro e w' ⟨rfl, rfl⟩)
    | (go_at_call 96
       refine (t1.strA 155 345 167 (usPre H) (by omega) (by omega) (by omega) (by have := hpre.out; omega)).mono ?_
       rintro e w4 ⟨rfl, ev, t2, hev, _⟩
       obtain rfl : ev = .nilIface := hev hpre.out
       clear hev
       rw [← hX2.out] at t2)
    | (go_at_call 99
       refine (Tm.setU2 t2).mono ?_
       rintro e w5 ⟨rfl, t3⟩
       rw [← hX3.out] at t3
       have c5 : w5.cell? ⟨wc.heap.size, 0, none⟩ = some .nilIface := cell_blk (C := [_]) t3.fb rfl
       have c6 : w5.cell? ⟨bw, 6, none⟩ = some (.int .i64 H.size) := (by rw [← e1.out.1]; exact t3.hd f5.out (j := 3) rfl)
       have c3 : w5.cell? ⟨bw, 3, none⟩ = some (.int .u8 H.tf.toNat) := (by rw [← e1.out.2]; exact t3.hd f5.out (j := 0) rfl)))
  refine wp_region_still_tail 10 (by kernel_rfl) (by kernel_rfl) ?_
  simp only [List.take_succ_cons, List.take_zero, List.drop_succ_cons, List.drop_zero]
  repeat still_step
  refine wpStill_nil ?_
  have q3 := q2.trans t3.drew.fr
  have r1 := rawHeader_any B bw bb bc (s1.bk X3) w5.drew p H.size H.tf t3.drew.wr (Nat.le_trans hB q3.size) (by rw [WSt.bk_err]; exact f1.out) (by rw [WSt.bk_nb]; exact f2) (by rw [WSt.bk_pad]; exact f3.out) hp2 (by rw [WSt.bk_out]; omega) ok.out.size
  replace r1 := Asd.mk r1
  go_wp2_with (go_at_call 100; refine r1.out.mono ?_; rintro e w6 ⟨rfl, bc', h6, q6⟩)
  go_ret
  refine ⟨rfl, bc', ?_, q3.trans q6⟩
  have eS : usSt s p H = rawSt (s1.bk X3) p H.size H.tf := by
    unfold usSt usBlk
    rw [hX3.out, hX2.out, hX1.out, hs1.out, hH1.out]
  rw [eS]
  exact h6
section
variable {G : GlP} {B bw bb bc : Nat} {s : WSt} {bf : Nat} {ev : Value} {w0 w : World} {b0 : List UInt8}
theorem toAsc_le (x : ByteArray) (h : x.size ≤ 1073741824) : (toAsc x).size ≤ 1073741824 := by
  have h1 : (toAsc x).size = (x.data.toList.filter ascB).length := by rw [Lib.size_eq]; rfl
  have h2 : (x.data.toList.filter ascB).length ≤ x.data.toList.length := List.length_filter_le _ _
  have h3 : x.data.toList.length = x.size := by simp
  omega
theorem Tm.strP (h : Tm G B bw bb bc (s.bk b0) bf ev w0 w) (n off c : Nat) (x : ByteArray) (hn : off + n ≤ 512) (hn1 : 1 ≤ n) (hc : n ≤ c) (hx : x.size ≤ 1073741824) :
    Calls Tryz.prog 109 #[.slice (some ⟨bw, 23 + off, none⟩) n c, .string x, .pointer (some ⟨bf, 0, none⟩)] w fun e w' => e = .returned (.tuple #[]) ∧ ∃ ev', Tm G B bw bb bc (s.bk (fsP n off x b0)) bf ev' w0 w' ∧ (True → True) ∧ ∃ wm, Below w.heap.size w wm ∧ Kp (fun k => k = bw ∨ k = bf) wm w' := by
  have hl := toAsc_le x hx
  go_enter Tryz.func109, Tryz.ntmps109
  go_wp2_with (first
    | (go_at_call 110
       refine (toASCII_any x _ (by omega)).mono ?_
       rintro e w2 ⟨rfl, f2⟩)
    | (go_at_call 96
       refine ((h.below f2).strA n off c (toAsc x) hn hn1 hc hl).mono ?_
       rintro e w3 ⟨rfl, ev', t3, y3, q3⟩))
  go_end0
  exact ⟨rfl, ev', t3, fun _ => trivial, w2, f2, q3⟩
end
end Go.Proofs.YtpkilegnokajmaaGreatDoor
