/- Fields of a header block as pieces of its bytes; contract: setFormat. Contract: setFormat: magic, version and check sum of a header block (laid by a program of mine: one text for each format). -/
import Derived.Test.YtpkilegnokajmaaGreatDoorA00
import Derived.Test.YtpkilegnokajmaaGreatDoorA05
import Derived.Test.YtpkilegnokajmaaGreatDoorA07
set_option linter.unusedVariables false
set_option linter.unusedSimpArgs false
set_option linter.unnecessarySimpa false
set_option linter.unusedSectionVars false
namespace Go.Proofs.YtpkilegnokajmaaGreatDoor
open Go.RowKit

/-- n bytes of a block from off on; a block with other bytes there. -/
def fld (blk : List UInt8) (off n : Nat) : List UInt8 := (blk.drop off).take n
def putAt (blk : List UInt8) (off : Nat) (new : List UInt8) : List UInt8 := blk.take off ++ new ++ blk.drop (off + new.length)
theorem fld_len (blk : List UInt8) (off n : Nat) (h : off + n ≤ blk.length) : (fld blk off n).length = n := by unfold fld; simp; omega
theorem putAt_len (blk : List UInt8) (off : Nat) (new : List UInt8) (h : off + new.length ≤ blk.length) : (putAt blk off new).length = blk.length := by unfold putAt; simp; omega
theorem fld_split (A : List Value) (blk : List UInt8) (Q : List Value) (off n : Nat) : A ++ cells blk ++ Q = (A ++ cells (blk.take off)) ++ cells (fld blk off n) ++ (cells (blk.drop (off + n)) ++ Q) := by
  have e : blk = blk.take off ++ (fld blk off n ++ blk.drop (off + n)) := by
    unfold fld
    rw [← List.drop_drop, List.take_append_drop, List.take_append_drop]
  conv => lhs; rw [e]
  simp [cells_append]
theorem fld_join (A : List Value) (blk : List UInt8) (Q : List Value) (off n : Nat) (new : List UInt8) (hn : new.length = n) : (A ++ cells (blk.take off)) ++ cells new ++ (cells (blk.drop (off + n)) ++ Q) = A ++ cells (putAt blk off new) ++ Q := by
  unfold putAt
  rw [hn]
  simp [cells_append]
theorem fld_pre (A : List Value) (blk : List UInt8) (o off : Nat) (ho : A.length = o) (h : off ≤ blk.length) : (A ++ cells (blk.take off)).length = o + off := by
  rw [List.length_append, cells_len, List.length_take, ho]; omega

section
variable (b o : Nat) (A : List Value) (blk : List UInt8) (Q : List Value) (T : TypeId) (w : World) (hb : w.heap[b]? = some (.cells (A ++ cells blk ++ Q).toArray T (0, 0))) (ho : A.length = o) (ho2 : o ≤ 512) (hl : blk.length = 512)
include hb ho ho2 hl
theorem copy_fld (off n c : Nat) (s : ByteArray) (hn : s.size = n) (h : off + n ≤ 512) :
    ∃ w1, (Builtin.copy_ #[25, 9] 3 #[.slice (some ⟨b, o + off, none⟩) n c, .string s]).run Tryz.prog w = .ok (goInt n) w1 ∧
      w1.heap[b]? = some (.cells (A ++ cells (putAt blk off s.data.toList) ++ Q).toArray T (0, 0)) ∧ Kp (fun k => k = b) w w1 := by
  rw [fld_split A blk Q off n] at hb
  obtain ⟨w1, h1, h2, h3⟩ := copy_str w b (o + off) n c _ _ _ T s hb (fld_pre A blk o off ho (by omega)) (fld_len blk off n (by omega))
  have hsl : s.data.toList.length = n := by simpa using hn
  have e : cpy (fld blk off n) s.data.toList = s.data.toList := by
    unfold cpy
    have hf := fld_len blk off n (by omega)
    rw [hf, hsl, List.take_of_length_le (by omega), List.drop_of_length_le (by omega), List.append_nil]
  rw [e, fld_join A blk Q off n _ hsl] at h2
  refine ⟨w1, ?_, h2, h3⟩
  rw [h1]
  rw [show Nat.min s.size n = n by rw [hn]; exact Nat.min_self n]
theorem fmtS_fld (bf off n c : Nat) (s : ByteArray) (e0 : Value) (p4 : Addr) (h : off + n ≤ 512) (hn1 : 1 ≤ n) (hc : n ≤ c)
    (hg : w.cell? ⟨4, 0, none⟩ = some (.iface 182 (.pointer (some p4)))) (hf : w.heap[bf]? = some (.cells #[e0] 155 (0, 0))) (hfb : bf ≠ b) (hsz : s.size ≤ 140737488351232) :
    Calls Tryz.prog 96 #[.pointer (some ⟨bf, 0, none⟩), .slice (some ⟨b, o + off, none⟩) n c, .string s] w fun e w' => e = .returned (.tuple #[]) ∧
      w'.heap[b]? = some (.cells (A ++ cells (putAt blk off (fmtS (fld blk off n) s.data.toList)) ++ Q).toArray T (0, 0)) ∧ w'.heap[bf]? = some (.cells #[if n < s.size then .iface 182 (.pointer (some p4)) else e0] 155 (0, 0)) ∧ Kp (fun k => k = b ∨ k = bf) w w' := by
  rw [fld_split A blk Q off n] at hb
  refine (formatString_any b (o + off) n c bf _ _ _ T s e0 p4 w hb (fld_pre A blk o off ho (by omega)) (fld_len blk off n (by omega)) (by omega) hn1 hc (by omega) hg hf hfb hsz).mono ?_
  rintro e w' ⟨rfl, h1, h2, h3⟩
  rw [fld_join A blk Q off n _ (by rw [fmtS_len, fld_len blk off n (by omega)])] at h1
  exact ⟨rfl, h1, h2, h3⟩
theorem fmtO_fld (n : Nat) (hfit : ∀ (x : Int) (w : World), Calls Tryz.prog 66 #[.int .i64 n, .int .i64 x] w fun e w' => e = .returned (.bool (fitO n x)) ∧ w = w') (hn2 : 3 ≤ n) (hn : n ≤ 12)
    (bf off c : Nat) (x : Int) (e0 : Value) (G : GlP) (B : Nat) (hgl : Gl G B w) (hbB : B ≤ b) (hfB : B ≤ bf) (h : off + n ≤ 512) (hc : n ≤ c)
    (hf : w.heap[bf]? = some (.cells #[e0] 155 (0, 0))) (hfb : bf ≠ b) :
    Calls Tryz.prog 97 #[.pointer (some ⟨bf, 0, none⟩), .slice (some ⟨b, o + off, none⟩) n c, .int .i64 x] w fun e w' => e = .returned (.tuple #[]) ∧
      w'.heap[b]? = some (.cells (A ++ cells (putAt blk off (fmtS (fld blk off n) (octS n x))) ++ Q).toArray T (0, 0)) ∧ w'.heap[bf]? = some (.cells #[if fitO n x then e0 else errV G.p4] 155 (0, 0)) ∧ Kp (fun k => k = b ∨ k = bf) w w' := by
  rw [fld_split A blk Q off n] at hb
  refine (formatOctal_of n hfit hn2 hn b (o + off) c bf _ _ _ T x e0 G B w hgl hbB hfB hb (fld_pre A blk o off ho (by omega)) (fld_len blk off n (by omega)) hc (by omega) hf hfb).mono ?_
  rintro e w' ⟨rfl, h1, h2, h3⟩
  rw [fld_join A blk Q off n _ (by rw [fmtS_len, fld_len blk off n (by omega)])] at h1
  exact ⟨rfl, h1, h2, h3⟩
theorem fmtN_fld (n : Nat) (hfit : ∀ (x : Int) (w : World), Calls Tryz.prog 66 #[.int .i64 n, .int .i64 x] w fun e w' => e = .returned (.bool (fitO n x)) ∧ w = w')
    (hfit2 : ∀ (x : Int) (w : World), Calls Tryz.prog 65 #[.int .i64 n, .int .i64 x] w fun e w' => e = .returned (.bool (fitB n x)) ∧ w = w') (hn2 : 3 ≤ n) (hn : n ≤ 12)
    (bf off c : Nat) (x : Int) (e0 : Value) (G : GlP) (B : Nat) (hgl : Gl G B w) (hbB : B ≤ b) (hfB : B ≤ bf) (h : off + n ≤ 512) (hc : n ≤ c)
    (hf : w.heap[bf]? = some (.cells #[e0] 155 (0, 0))) (hfb : bf ≠ b) (hxr : -9223372036854775808 ≤ x ∧ x ≤ 9223372036854775807) :
    Calls Tryz.prog 111 #[.pointer (some ⟨bf, 0, none⟩), .slice (some ⟨b, o + off, none⟩) n c, .int .i64 x] w fun e w' => e = .returned (.tuple #[]) ∧
      w'.heap[b]? = some (.cells (A ++ cells (putAt blk off (numS n (fld blk off n) x)) ++ Q).toArray T (0, 0)) ∧ w'.heap[bf]? = some (.cells #[if numOk n x then e0 else errV G.p4] 155 (0, 0)) ∧ Kp (fun k => k = b ∨ k = bf) w w' := by
  rw [fld_split A blk Q off n] at hb
  refine (formatNumeric_of n hfit hfit2 hn2 hn b (o + off) c bf _ _ _ T x e0 G B w hgl hbB hfB hb (fld_pre A blk o off ho (by omega)) (fld_len blk off n (by omega)) hc (by omega) hf hfb hxr).mono ?_
  rintro e w' ⟨rfl, h1, h2, h3⟩
  rw [fld_join A blk Q off n _ (numS_len n _ x (fld_len blk off n (by omega)))] at h1
  exact ⟨rfl, h1, h2, h3⟩
end
def magU : List UInt8 := [117, 115, 116, 97, 114, 0]
def verU : List UInt8 := [48, 48]
def magG : List UInt8 := [117, 115, 116, 97, 114, 32]
def verG : List UInt8 := [32, 0]
/-- What setFormat makes of a block. -/
def withSum (blk : List UInt8) : List UInt8 := putAt (putAt blk 148 (fmtS (fld blk 148 7) (octS 7 (ckTo blk 512 : Nat)))) 155 [32]
def setFmtU (blk : List UInt8) : List UInt8 := withSum (putAt (putAt blk 257 magU) 263 verU)
def setFmtG (blk : List UInt8) : List UInt8 := withSum (putAt (putAt blk 257 magG) 263 verG)
theorem withSum_len (blk : List UInt8) (h : blk.length = 512) : (withSum blk).length = 512 := by
  unfold withSum
  have h1 : (putAt blk 148 (fmtS (fld blk 148 7) (octS 7 (ckTo blk 512 : Nat)))).length = 512 := by
    rw [putAt_len _ _ _ (by rw [fmtS_len, fld_len _ _ _ (by omega)]; omega), h]
  rw [putAt_len _ _ _ (by rw [h1]; simp), h1]
theorem putAt_one (A : List Value) (blk : List UInt8) (Q : List Value) (j : Nat) (v : UInt8) (hj : j < blk.length) : (A ++ cells blk ++ Q).set (A.length + j) (.int .u8 v.toNat) = A ++ cells (putAt blk j [v]) ++ Q := by
  rw [set3 A blk Q v j hj]
  congr 3
  unfold putAt
  simp [List.set_eq_take_append_cons_drop, hj]
set_option maxRecDepth 100000 in
set_option maxHeartbeats 2000000 in
theorem setFormat_8 (b o : Nat) (A : List Value) (blk : List UInt8) (Q : List Value) (T : TypeId) (G : GlP) (B : Nat) (w : World) (hgl : Gl G B w) (hbB : B ≤ b)
    (hb : w.heap[b]? = some (.cells (A ++ cells blk ++ Q).toArray T (0, 0))) (ho : A.length = o) (ho2 : o ≤ 512) (hl : blk.length = 512) :
    Calls Tryz.prog 99 #[.pointer (some ⟨b, o, none⟩), .int .i64 8] w fun e w' => e = .returned (.tuple #[]) ∧ w'.heap[b]? = some (.cells (A ++ cells (setFmtG blk) ++ Q).toArray T (0, 0)) ∧ Kp (fun k => k = b) w w' := by
  obtain ⟨w1, r1, b1, k1⟩ := copy_fld b o A blk Q T w hb ho ho2 hl 257 6 255 ⟨#[117, 115, 116, 97, 114, 32]⟩ rfl (by omega)
  have l1 : (putAt blk 257 magG).length = 512 := by rw [putAt_len _ _ _ (by rw [hl]; show 257 + 6 ≤ 512; omega), hl]
  obtain ⟨w2, r2, b2, k2⟩ := copy_fld b o A (putAt blk 257 magG) Q T w1 b1 ho ho2 l1 263 2 249 ⟨#[32, 0]⟩ rfl (by omega)
  have l2 : (putAt (putAt blk 257 magG) 263 verG).length = 512 := by rw [putAt_len _ _ _ (by rw [l1]; show 263 + 2 ≤ 512; omega), l1]
  obtain ⟨bl, hbl⟩ : ∃ bl, putAt (putAt blk 257 magG) 263 verG = bl := ⟨_, rfl⟩
  have b2' : w2.heap[b]? = some (.cells (A ++ cells bl ++ Q).toArray T (0, 0)) := by rw [← hbl]; exact b2
  rw [hbl] at l2
  have hfin : setFmtG blk = withSum bl := by unfold setFmtG; rw [hbl]
  have hg2 : Gl G B w2 := (hgl.kp k1 (fun k hk => by subst hk; exact hbB)).kp k2 (fun k hk => by subst hk; exact hbB)
  have HG := Asd.mk hg2
  have HB := Asd.mk b2'
  have HF := Asd.mk hfin
  have HK := Asd.mk (k1.trans k2)
  have hlt := blk_lt b2'
  have e1 : (bits .and .i64 8 1 != 0) = false := rfl
  have e8 : (bits .and .i64 8 8 != 0) = true := rfl
  have e16 : (bits .and .i64 8 16 != 0) = false := rfl
  have e6 : (bits .and .i64 8 6 != 0) = false := rfl
  clear hb b1 b2 b2' hbl hfin hg2 hgl k1 k2 l1
  go_enter Tryz.func99, Tryz.ntmps99
  go_wp2_with (first
    | (go_at_call 36; refine (has_any _ _ _).mono ?_; rintro e x ⟨rfl, rfl⟩)
    | (go_at_call 75; refine (acc75 _ _).mono ?_; rintro e x ⟨rfl, rfl⟩)
    | (go_at_call 133; refine (acc133 _ _ _).mono ?_; rintro e x ⟨rfl, rfl⟩)
    | (go_at_call 134; refine (acc134 _ _ _).mono ?_; rintro e x ⟨rfl, rfl⟩)
    | (go_at_call 73; refine (acc73 _ _).mono ?_; rintro e x ⟨rfl, rfl⟩)
    | (go_at_call 141; refine (acc141 _ _ _).mono ?_; rintro e x ⟨rfl, rfl⟩)
    | (with_reducible refine Lib.wpList_copy_run _ rfl (.tmp 17) (.const (.string ⟨#[117, 115, 116, 97, 114, 32]⟩)) 25 9 rfl _ _ rfl rfl r1 ?_)
    | (with_reducible refine Lib.wpList_copy_run _ rfl (.tmp 21) (.const (.string ⟨#[32, 0]⟩)) 25 9 rfl _ _ rfl rfl r2 ?_)
    | (go_at_call 142; refine (computeChecksum_any b o A bl Q T _ (by rw [Below.heap_alloc _ _ _ hlt]; exact HB.out) ho l2).mono ?_; rintro e x ⟨q, rfl, s2, rfl⟩)
    | (go_at_call 97; refine (fmtO_fld b o A bl Q T ((w2.alloc (.cells #[.nilIface] 155)).drewN q) (by show (w2.alloc _).heap[b]? = _; rw [Below.heap_alloc _ _ _ hlt]; exact HB.out) ho ho2 l2 7 (fun x w => fitsInOctal_7 x w) (by omega) (by omega) w2.heap.size 148 364 _ .nilIface G B ((HG.out.below ((Below.refl B w2).alloc HG.out.size _)).below ⟨rfl, rfl, rfl, Nat.le_refl _, fun _ _ => rfl⟩) hbB HG.out.size (by omega) (by omega) (heap_alloc_new w2 _) (Nat.ne_of_gt hlt)).mono ?_; rintro e w3 ⟨rfl, h1, h2, h3⟩; have HH := Asd.mk (And.intro h1 h3); have l3 : (putAt bl 148 (fmtS (fld bl 148 7) (octS 7 (ckTo bl 512 : Nat)))).length = 512 := (by rw [putAt_len _ _ _ (by rw [fmtS_len, fld_len _ _ _ (by omega)]; omega), l2]); have hcl := cell_blk h1 (get3 A _ Q 155 (by rw [l3]; omega)); rw [ho] at hcl; have hfr := frozen_blk h1 (j := o + 155); generalize u8 ((putAt bl 148 (fmtS (fld bl 148 7) (octS 7 (ckTo bl 512 : Nat))))[155]'(by rw [l3]; omega)) = ov at hcl; clear h1 h2 h3))
  go_end0
  obtain ⟨h1, h3⟩ := HH.out
  refine ⟨rfl, ?_, ?_⟩
  · have g := set_blk (j := o + 155) (v := .int .u8 32) h1
    rw [← ho] at g ⊢
    have g2 := putAt_one A (putAt bl 148 (fmtS (fld bl 148 7) (octS 7 (ckTo bl 512 : Nat)))) Q 155 32 (by rw [l3]; omega)
    have g3 : (Value.int .u8 ((32 : UInt8).toNat : Int)) = .int .u8 32 := rfl
    rw [g3] at g2
    rw [g2] at g
    rw [HF.out]
    unfold withSum
    simpa using g
  · exact (((HK.out.alloc _).drewN q).then_ h3 (fun k hk => by rcases hk with hk | hk; exact .inl hk; right; rw [hk]; exact HK.out.size)).setCell (.inl rfl) _
set_option maxRecDepth 100000 in
set_option maxHeartbeats 2000000 in
theorem setFormat_2 (b o : Nat) (A : List Value) (blk : List UInt8) (Q : List Value) (T : TypeId) (G : GlP) (B : Nat) (w : World) (hgl : Gl G B w) (hbB : B ≤ b)
    (hb : w.heap[b]? = some (.cells (A ++ cells blk ++ Q).toArray T (0, 0))) (ho : A.length = o) (ho2 : o ≤ 512) (hl : blk.length = 512) :
    Calls Tryz.prog 99 #[.pointer (some ⟨b, o, none⟩), .int .i64 2] w fun e w' => e = .returned (.tuple #[]) ∧ w'.heap[b]? = some (.cells (A ++ cells (setFmtU blk) ++ Q).toArray T (0, 0)) ∧ Kp (fun k => k = b) w w' := by
  obtain ⟨w1, r1, b1, k1⟩ := copy_fld b o A blk Q T w hb ho ho2 hl 257 6 255 ⟨#[117, 115, 116, 97, 114, 0]⟩ rfl (by omega)
  have l1 : (putAt blk 257 magU).length = 512 := by rw [putAt_len _ _ _ (by rw [hl]; show 257 + 6 ≤ 512; omega), hl]
  obtain ⟨w2, r2, b2, k2⟩ := copy_fld b o A (putAt blk 257 magU) Q T w1 b1 ho ho2 l1 263 2 249 ⟨#[48, 48]⟩ rfl (by omega)
  have l2 : (putAt (putAt blk 257 magU) 263 verU).length = 512 := by rw [putAt_len _ _ _ (by rw [l1]; show 263 + 2 ≤ 512; omega), l1]
  obtain ⟨bl, hbl⟩ : ∃ bl, putAt (putAt blk 257 magU) 263 verU = bl := ⟨_, rfl⟩
  have b2' : w2.heap[b]? = some (.cells (A ++ cells bl ++ Q).toArray T (0, 0)) := by rw [← hbl]; exact b2
  rw [hbl] at l2
  have hfin : setFmtU blk = withSum bl := by unfold setFmtU; rw [hbl]
  have hg2 : Gl G B w2 := (hgl.kp k1 (fun k hk => by subst hk; exact hbB)).kp k2 (fun k hk => by subst hk; exact hbB)
  have HG := Asd.mk hg2
  have HB := Asd.mk b2'
  have HF := Asd.mk hfin
  have HK := Asd.mk (k1.trans k2)
  have hlt := blk_lt b2'
  have e1 : (bits .and .i64 2 1 != 0) = false := rfl
  have e8 : (bits .and .i64 2 8 != 0) = false := rfl
  have e16 : (bits .and .i64 2 16 != 0) = false := rfl
  have e6 : (bits .and .i64 2 6 != 0) = true := rfl
  clear hb b1 b2 b2' hbl hfin hg2 hgl k1 k2 l1
  go_enter Tryz.func99, Tryz.ntmps99
  go_wp2_with (first
    | (go_at_call 36; refine (has_any _ _ _).mono ?_; rintro e x ⟨rfl, rfl⟩)
    | (go_at_call 74; refine (acc74 _ _).mono ?_; rintro e x ⟨rfl, rfl⟩)
    | (go_at_call 139; refine (acc139 _ _ _).mono ?_; rintro e x ⟨rfl, rfl⟩)
    | (go_at_call 140; refine (acc140 _ _ _).mono ?_; rintro e x ⟨rfl, rfl⟩)
    | (go_at_call 73; refine (acc73 _ _).mono ?_; rintro e x ⟨rfl, rfl⟩)
    | (go_at_call 141; refine (acc141 _ _ _).mono ?_; rintro e x ⟨rfl, rfl⟩)
    | (with_reducible refine Lib.wpList_copy_run _ rfl (.tmp 43) (.const (.string ⟨#[117, 115, 116, 97, 114, 0]⟩)) 25 9 rfl _ _ rfl rfl r1 ?_)
    | (with_reducible refine Lib.wpList_copy_run _ rfl (.tmp 47) (.const (.string ⟨#[48, 48]⟩)) 25 9 rfl _ _ rfl rfl r2 ?_)
    | (go_at_call 142; refine (computeChecksum_any b o A bl Q T _ (by rw [Below.heap_alloc _ _ _ hlt]; exact HB.out) ho l2).mono ?_; rintro e x ⟨q, rfl, s2, rfl⟩)
    | (go_at_call 97; refine (fmtO_fld b o A bl Q T ((w2.alloc (.cells #[.nilIface] 155)).drewN q) (by show (w2.alloc _).heap[b]? = _; rw [Below.heap_alloc _ _ _ hlt]; exact HB.out) ho ho2 l2 7 (fun x w => fitsInOctal_7 x w) (by omega) (by omega) w2.heap.size 148 364 _ .nilIface G B ((HG.out.below ((Below.refl B w2).alloc HG.out.size _)).below ⟨rfl, rfl, rfl, Nat.le_refl _, fun _ _ => rfl⟩) hbB HG.out.size (by omega) (by omega) (heap_alloc_new w2 _) (Nat.ne_of_gt hlt)).mono ?_; rintro e w3 ⟨rfl, h1, h2, h3⟩; have HH := Asd.mk (And.intro h1 h3); have l3 : (putAt bl 148 (fmtS (fld bl 148 7) (octS 7 (ckTo bl 512 : Nat)))).length = 512 := (by rw [putAt_len _ _ _ (by rw [fmtS_len, fld_len _ _ _ (by omega)]; omega), l2]); have hcl := cell_blk h1 (get3 A _ Q 155 (by rw [l3]; omega)); rw [ho] at hcl; have hfr := frozen_blk h1 (j := o + 155); generalize u8 ((putAt bl 148 (fmtS (fld bl 148 7) (octS 7 (ckTo bl 512 : Nat))))[155]'(by rw [l3]; omega)) = ov at hcl; clear h1 h2 h3))
  go_end0
  obtain ⟨h1, h3⟩ := HH.out
  refine ⟨rfl, ?_, ?_⟩
  · have g := set_blk (j := o + 155) (v := .int .u8 32) h1
    rw [← ho] at g ⊢
    have g2 := putAt_one A (putAt bl 148 (fmtS (fld bl 148 7) (octS 7 (ckTo bl 512 : Nat)))) Q 155 32 (by rw [l3]; omega)
    have g3 : (Value.int .u8 ((32 : UInt8).toNat : Int)) = .int .u8 32 := rfl
    rw [g3] at g2
    rw [g2] at g
    rw [HF.out]
    unfold withSum
    simpa using g
  · exact (((HK.out.alloc _).drewN q).then_ h3 (fun k hk => by rcases hk with hk | hk; exact .inl hk; right; rw [hk]; exact HK.out.size)).setCell (.inl rfl) _
set_option maxRecDepth 100000 in
set_option maxHeartbeats 2000000 in
theorem setFormat_4 (b o : Nat) (A : List Value) (blk : List UInt8) (Q : List Value) (T : TypeId) (G : GlP) (B : Nat) (w : World) (hgl : Gl G B w) (hbB : B ≤ b)
    (hb : w.heap[b]? = some (.cells (A ++ cells blk ++ Q).toArray T (0, 0))) (ho : A.length = o) (ho2 : o ≤ 512) (hl : blk.length = 512) :
    Calls Tryz.prog 99 #[.pointer (some ⟨b, o, none⟩), .int .i64 4] w fun e w' => e = .returned (.tuple #[]) ∧ w'.heap[b]? = some (.cells (A ++ cells (setFmtU blk) ++ Q).toArray T (0, 0)) ∧ Kp (fun k => k = b) w w' := by
  obtain ⟨w1, r1, b1, k1⟩ := copy_fld b o A blk Q T w hb ho ho2 hl 257 6 255 ⟨#[117, 115, 116, 97, 114, 0]⟩ rfl (by omega)
  have l1 : (putAt blk 257 magU).length = 512 := by rw [putAt_len _ _ _ (by rw [hl]; show 257 + 6 ≤ 512; omega), hl]
  obtain ⟨w2, r2, b2, k2⟩ := copy_fld b o A (putAt blk 257 magU) Q T w1 b1 ho ho2 l1 263 2 249 ⟨#[48, 48]⟩ rfl (by omega)
  have l2 : (putAt (putAt blk 257 magU) 263 verU).length = 512 := by rw [putAt_len _ _ _ (by rw [l1]; show 263 + 2 ≤ 512; omega), l1]
  obtain ⟨bl, hbl⟩ : ∃ bl, putAt (putAt blk 257 magU) 263 verU = bl := ⟨_, rfl⟩
  have b2' : w2.heap[b]? = some (.cells (A ++ cells bl ++ Q).toArray T (0, 0)) := by rw [← hbl]; exact b2
  rw [hbl] at l2
  have hfin : setFmtU blk = withSum bl := by unfold setFmtU; rw [hbl]
  have hg2 : Gl G B w2 := (hgl.kp k1 (fun k hk => by subst hk; exact hbB)).kp k2 (fun k hk => by subst hk; exact hbB)
  have HG := Asd.mk hg2
  have HB := Asd.mk b2'
  have HF := Asd.mk hfin
  have HK := Asd.mk (k1.trans k2)
  have hlt := blk_lt b2'
  have e1 : (bits .and .i64 4 1 != 0) = false := rfl
  have e8 : (bits .and .i64 4 8 != 0) = false := rfl
  have e16 : (bits .and .i64 4 16 != 0) = false := rfl
  have e6 : (bits .and .i64 4 6 != 0) = true := rfl
  clear hb b1 b2 b2' hbl hfin hg2 hgl k1 k2 l1
  go_enter Tryz.func99, Tryz.ntmps99
  go_wp2_with (first
    | (go_at_call 36; refine (has_any _ _ _).mono ?_; rintro e x ⟨rfl, rfl⟩)
    | (go_at_call 74; refine (acc74 _ _).mono ?_; rintro e x ⟨rfl, rfl⟩)
    | (go_at_call 139; refine (acc139 _ _ _).mono ?_; rintro e x ⟨rfl, rfl⟩)
    | (go_at_call 140; refine (acc140 _ _ _).mono ?_; rintro e x ⟨rfl, rfl⟩)
    | (go_at_call 73; refine (acc73 _ _).mono ?_; rintro e x ⟨rfl, rfl⟩)
    | (go_at_call 141; refine (acc141 _ _ _).mono ?_; rintro e x ⟨rfl, rfl⟩)
    | (with_reducible refine Lib.wpList_copy_run _ rfl (.tmp 43) (.const (.string ⟨#[117, 115, 116, 97, 114, 0]⟩)) 25 9 rfl _ _ rfl rfl r1 ?_)
    | (with_reducible refine Lib.wpList_copy_run _ rfl (.tmp 47) (.const (.string ⟨#[48, 48]⟩)) 25 9 rfl _ _ rfl rfl r2 ?_)
    | (go_at_call 142; refine (computeChecksum_any b o A bl Q T _ (by rw [Below.heap_alloc _ _ _ hlt]; exact HB.out) ho l2).mono ?_; rintro e x ⟨q, rfl, s2, rfl⟩)
    | (go_at_call 97; refine (fmtO_fld b o A bl Q T ((w2.alloc (.cells #[.nilIface] 155)).drewN q) (by show (w2.alloc _).heap[b]? = _; rw [Below.heap_alloc _ _ _ hlt]; exact HB.out) ho ho2 l2 7 (fun x w => fitsInOctal_7 x w) (by omega) (by omega) w2.heap.size 148 364 _ .nilIface G B ((HG.out.below ((Below.refl B w2).alloc HG.out.size _)).below ⟨rfl, rfl, rfl, Nat.le_refl _, fun _ _ => rfl⟩) hbB HG.out.size (by omega) (by omega) (heap_alloc_new w2 _) (Nat.ne_of_gt hlt)).mono ?_; rintro e w3 ⟨rfl, h1, h2, h3⟩; have HH := Asd.mk (And.intro h1 h3); have l3 : (putAt bl 148 (fmtS (fld bl 148 7) (octS 7 (ckTo bl 512 : Nat)))).length = 512 := (by rw [putAt_len _ _ _ (by rw [fmtS_len, fld_len _ _ _ (by omega)]; omega), l2]); have hcl := cell_blk h1 (get3 A _ Q 155 (by rw [l3]; omega)); rw [ho] at hcl; have hfr := frozen_blk h1 (j := o + 155); generalize u8 ((putAt bl 148 (fmtS (fld bl 148 7) (octS 7 (ckTo bl 512 : Nat))))[155]'(by rw [l3]; omega)) = ov at hcl; clear h1 h2 h3))
  go_end0
  obtain ⟨h1, h3⟩ := HH.out
  refine ⟨rfl, ?_, ?_⟩
  · have g := set_blk (j := o + 155) (v := .int .u8 32) h1
    rw [← ho] at g ⊢
    have g2 := putAt_one A (putAt bl 148 (fmtS (fld bl 148 7) (octS 7 (ckTo bl 512 : Nat)))) Q 155 32 (by rw [l3]; omega)
    have g3 : (Value.int .u8 ((32 : UInt8).toNat : Int)) = .int .u8 32 := rfl
    rw [g3] at g2
    rw [g2] at g
    rw [HF.out]
    unfold withSum
    simpa using g
  · exact (((HK.out.alloc _).drewN q).then_ h3 (fun k hk => by rcases hk with hk | hk; exact .inl hk; right; rw [hk]; exact HK.out.size)).setCell (.inl rfl) _
end Go.Proofs.YtpkilegnokajmaaGreatDoor
