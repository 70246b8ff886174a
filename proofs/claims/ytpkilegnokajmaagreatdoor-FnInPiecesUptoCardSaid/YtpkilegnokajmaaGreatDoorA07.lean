/- Numbers as texts. Times of PAX records as texts. Contract: formatOctal: a number put into a field in octal. Contract: formatNumeric: a number put into a field, in octal or in base 256. formatPAXRecord; a Builder that is written. strings.Builder at this dump: copyCheck, WriteString. -/
import Derived.Test.YtpkilegnokajmaaGreatDoorA01
import Derived.Test.YtpkilegnokajmaaGreatDoorA03
import Derived.Test.YtpkilegnokajmaaGreatDoorA00
import Derived.Test.YtpkilegnokajmaaGreatDoorA08
import Derived.Test.YtpkilegnokajmaaGreatDoorA12
import Derived.Lib.ItoaLen
import Derived.Deep.DeepCutAuto
set_option linter.unusedVariables false
set_option linter.unusedSimpArgs false
set_option linter.unnecessarySimpa false
set_option linter.unusedSectionVars false
namespace Go.Proofs.YtpkilegnokajmaaGreatDoor
open Go.RowKit Go.Sort
/-- A number's digits. -/
def dec (x : Int) : ByteArray := ⟨(Lib.itoa x).toArray⟩
theorem dec_size (x : Int) (h0 : -9223372036854775808 ≤ x) (h1 : x ≤ 9223372036854775807) : (dec x).size ≤ 21 := by
  have := Lib.itoa_length_le x h0 h1
  rw [Lib.size_eq]
  simpa [dec] using this
theorem below_grow (w : World) (k : Nat) (os : Array Obj) : Below w.heap.size w (grow (w.drewN k) os) :=
  ⟨rfl, rfl, rfl, by show w.heap.size ≤ (w.heap ++ os).size; simp, fun i hi => by show (w.heap ++ os)[i]? = _; rw [Array.getElem?_append_left hi]⟩
theorem fmtInt_any {G : GlP} {B : Nat} {w : World} (hg : Gl G B w) (x : Int) (h0 : -9223372036854775808 ≤ x) (h1 : x ≤ 9223372036854775807) :
    Calls Tryz.prog 67 #[.int .i64 x, .int .i64 10] w fun e w' => e = .returned (.string (dec x)) ∧ Below w.heap.size w w' := by
  refine (Tryz.strconv_FormatInt_10 x h0 h1 w hg.pow).mono ?_
  rintro e w' ⟨rfl, k, os, rfl⟩
  exact ⟨rfl, below_grow w k os⟩
theorem itoa_any {G : GlP} {B : Nat} {w : World} (hg : Gl G B w) (x : Int) (h0 : -9223372036854775808 ≤ x) (h1 : x ≤ 9223372036854775807) :
    Calls Tryz.prog 147 #[.int .i64 x] w fun e w' => e = .returned (.string (dec x)) ∧ Below w.heap.size w w' := by
  refine (Tryz.strconv_Itoa x h0 h1 w hg.pow).mono ?_
  rintro e w' ⟨rfl, k, os, rfl⟩
  exact ⟨rfl, below_grow w k os⟩
end Go.Proofs.YtpkilegnokajmaaGreatDoor
namespace Go.Proofs.YtpkilegnokajmaaGreatDoor
open Go.RowKit
theorem ba_list (l : List UInt8) : (⟨l.toArray⟩ : ByteArray).data.toList = l := by simp
theorem ba_size (l : List UInt8) : (⟨l.toArray⟩ : ByteArray).size = l.length := by rw [Lib.size_eq]
/-- Nine digits. -/
def pad9L (l : List UInt8) : List UInt8 := List.replicate (9 - l.length) 48 ++ l
def pad9 (s : ByteArray) : ByteArray := ⟨(pad9L s.data.toList).toArray⟩
theorem pad9_size (s : ByteArray) (h : s.size ≤ 21) : (pad9 s).size ≤ 30 := by
  unfold pad9 pad9L
  rw [ba_size]
  have : s.data.toList.length = s.size := by simp
  simp only [List.length_append, List.length_replicate]
  omega
def zs (k : Nat) (s : ByteArray) : ByteArray := ⟨(List.replicate k 48 ++ s.data.toList).toArray⟩
theorem zs_zero (s : ByteArray) : zs 0 s = s := ba_ext (by unfold zs; rw [ba_list]; simp)
theorem zs_size (k : Nat) (s : ByteArray) : (zs k s).size = k + s.size := by unfold zs; rw [ba_size]; simp
theorem zs_succ (k : Nat) (s : ByteArray) : (⟨#[48]⟩ : ByteArray) ++ zs k s = zs (k + 1) s := ba_ext (by
  unfold zs
  rw [ba_list]
  simp [List.replicate_succ])
theorem zs_end (k : Nat) (s : ByteArray) (h : k + s.size = 9 ∨ (k = 0 ∧ 9 ≤ s.size)) : zs k s = pad9 s := by
  unfold zs pad9 pad9L
  have h1 : s.data.toList.length = s.size := by simp
  rw [h1, show 9 - s.size = k by omega]
set_option maxRecDepth 100000 in
theorem nine_any {G : GlP} {B : Nat} {w : World} (hg : Gl G B w) (x : Int) (h0 : 0 ≤ x) (h1 : x ≤ 1000000000) :
    Calls Tryz.prog 128 #[.int .i64 x] w fun e w' => e = .returned (.string (pad9 (dec x))) ∧ Below w.heap.size w w' := by
  have hd := dec_size x (by omega) (by omega)
  go_enter Tryz.func128, Tryz.ntmps128
  go_wp2_with (go_at_call 147; refine (itoa_any hg x (by omega) (by omega)).mono ?_; rintro e w1 ⟨rfl, f1⟩)
  go_loop [3] (fun s => ∃ k : Nat, s = .string (zs k (dec x)) ∧ (k = 0 ∨ k + (dec x).size ≤ 9)) (fun s => match s with | .string b => 9 - b.size | _ => 0)
  case atStart => exact ⟨0, by rw [zs_zero], .inl rfl⟩
  case round =>
    obtain ⟨k, rfl, hk⟩ := hrel
    have hz := zs_size k (dec x)
    by_cases hlt : (zs k (dec x)).size < 9
    · have hs := Asd.mk (zs_succ k (dec x))
      have hz := Asd.mk hz
      go_wp2
      go_round
      case rel => exact ⟨k + 1, by rw [hs.out], by have := hz.out; omega⟩
      case measure =>
        show 9 - ((⟨#[48]⟩ : ByteArray) ++ zs k (dec x)).size < 9 - (zs k (dec x)).size
        rw [hs.out, zs_size]
        have := hz.out
        omega
    · have he := Asd.mk (zs_end k (dec x) (by omega))
      have hz := Asd.mk hz
      go_wp2
      go_ret
      exact ⟨ret_str he.out, f1⟩
def sgnB (x : Int) : ByteArray := if tmUnix x < 0 then ⟨#[45]⟩ else ⟨#[]⟩
def ptSec (x : Int) : Int := if tmUnix x < 0 then -(tmUnix x + 1) else tmUnix x
def ptNs (n : Nat) (x : Int) : Int := if tmUnix x < 0 then 1000000000 - n else n
/-- A time of a record. -/
def ptime (n : Nat) (x : Int) : ByteArray := if n = 0 then dec (tmUnix x) else trimR (((sgnB x ++ dec (ptSec x)) ++ ⟨#[46]⟩) ++ pad9 (dec (ptNs n x))) 48
theorem tmUnix_rng (x : Int) : -9223372036854775808 ≤ tmUnix x ∧ tmUnix x ≤ 9223372036854775807 := by unfold tmUnix wrap64; omega
theorem ptSec_rng (x : Int) : -9223372036854775808 ≤ ptSec x ∧ ptSec x ≤ 9223372036854775807 := by
  have : -9223372036854775808 ≤ tmUnix x ∧ tmUnix x ≤ 9223372036854775807 := by unfold tmUnix wrap64; omega
  unfold ptSec
  split <;> omega
theorem trimR_le (s : ByteArray) (c : UInt8) : (trimR s c).size ≤ s.size := by
  have := trimN_le s c s.size
  unfold trimR
  rw [ba_size, List.length_take]
  omega
theorem sgnB_size (x : Int) : (sgnB x).size ≤ 1 := by unfold sgnB; split <;> decide
theorem ptNs_rng (n : Nat) (x : Int) (hn : n < 1000000000) : 0 ≤ ptNs n x ∧ ptNs n x ≤ 1000000000 := by unfold ptNs; split <;> omega
theorem ptime_size (n : Nat) (x : Int) (hn : n < 1000000000) : (ptime n x).size ≤ 64 := by
  have h1 := tmUnix_rng x
  have h2 := ptSec_rng x
  have h3 := ptNs_rng n x hn
  have h4 := dec_size _ h1.1 h1.2
  have h5 := dec_size _ h2.1 h2.2
  have h6 := pad9_size (dec (ptNs n x)) (dec_size _ (by omega) (by omega))
  have h7 := sgnB_size x
  unfold ptime
  split
  · omega
  · refine Nat.le_trans (trimR_le _ _) ?_
    rw [ByteArray.size_append, ByteArray.size_append, ByteArray.size_append]
    have : (⟨#[46]⟩ : ByteArray).size = 1 := rfl
    omega
set_option maxRecDepth 100000 in
set_option maxHeartbeats 1000000 in
theorem paxTime_any {G : GlP} {B : Nat} {w : World} (hg : Gl G B w) (n : Nat) (x : Int) (hn : n < 1000000000) :
    Calls Tryz.prog 72 #[tmV n x] w fun e w' => e = .returned (.string (ptime n x)) ∧ Below w.heap.size w w' := by
  have hu := tmUnix_rng x
  have hs2 := ptSec_rng x
  have hn3 := ptNs_rng n x hn
  have hB := hg.size
  have b1 : Below w.heap.size w (w.alloc (.cells #[.int .u64 n, .int .i64 x] 96 (0, 0))).drew := ((Below.refl w.heap.size w).alloc (Nat.le_refl _) _).trans ⟨rfl, rfl, rfl, Nat.le_refl _, fun _ _ => rfl⟩
  have q1 : (w.alloc (.cells #[.int .u64 n, .int .i64 x] 96 (0, 0))).drew.heap[w.heap.size]? = some (.cells #[.int .u64 n, .int .i64 x] 96 (0, 0)) := by show (w.heap.push _)[w.heap.size]? = _; exact Array.getElem?_push_size
  have hT := fun W => tUnix_any n x W (by omega)
  have hN := fun W => nano_any n x W (by omega)
  unfold tmV at hT hN
  replace hT := Asd.mk hT
  replace hN := Asd.mk hN
  unfold tmV
  go_enter Tryz.func72, Tryz.ntmps72
  go_upto_region 1 with fail
  go_cut [3, 4] (fun s3 s4 wx => s3 = .int .i64 (tmUnix x) ∧ s4 = .int .i64 n ∧ Below w.heap.size w wx)
  case first =>
    go_region_with (first
      | (go_at_call 70
         (with_reducible refine (hT.out _).mono ?_)
         rintro e w2 ⟨rfl, f2⟩
         have q2 : w2.heap[w.heap.size]? = some (.cells #[.int .u64 n, .int .i64 x] 96 (0, 0)) := (by first | exact blk_below q1 f2 | exact blk_below q3 f2)
         have c2 := cell_blk (C := [.int .u64 n, .int .i64 x]) (j := 0) q2 rfl
         have d2 := cell_blk (C := [.int .u64 n, .int .i64 x]) (j := 1) q2 rfl
         have b2 : Below w.heap.size w w2 := (by first | exact b1.trans (f2.mono b1.size) | exact b3.trans (f2.mono b3.size)))
      | (go_at_call 71
         (with_reducible refine (hN.out _).mono ?_)
         rintro e w3 ⟨rfl, f3⟩
         have q3 : w3.heap[w.heap.size]? = some (.cells #[.int .u64 n, .int .i64 x] 96 (0, 0)) := (by first | exact blk_below q1 f3 | exact blk_below q2 f3)
         have c3 := cell_blk (C := [.int .u64 n, .int .i64 x]) (j := 0) q3 rfl
         have d3 := cell_blk (C := [.int .u64 n, .int .i64 x]) (j := 1) q3 rfl
         have b3 : Below w.heap.size w w3 := (by first | exact b1.trans (f3.mono b1.size) | exact b2.trans (f3.mono b2.size))))
    all_goals (go_wp2_with fail; go_meet)
    all_goals (refine ⟨rfl, rfl, ?_⟩; first | exact b3 | exact b2)
  case rest =>
  obtain ⟨rfl, rfl, hb⟩ := hcut
  have hgc := hg.below (hb.mono hB)
  clear b1 q1
  by_cases h0 : n = 0
  · subst h0
    have hp : Asd (ptime 0 x = dec (tmUnix x)) := ⟨by unfold ptime; rw [if_pos rfl]⟩
    go_wp2_with (go_at_call 67; refine (fmtInt_any hgc (tmUnix x) hu.1 hu.2).mono ?_; rintro e w4 ⟨rfl, f4⟩)
    go_ret
    exact ⟨ret_str hp.out.symm, hb.trans (f4.mono hb.size)⟩
  · have hn1 : 0 < n := by omega
    have hp0 : ptime n x = trimR (((sgnB x ++ dec (ptSec x)) ++ ⟨#[46]⟩) ++ pad9 (dec (ptNs n x))) 48 := by unfold ptime; rw [if_neg h0]
    have hsz : (((sgnB x ++ dec (ptSec x)) ++ ⟨#[46]⟩) ++ pad9 (dec (ptNs n x))).size ≤ 140737488351232 := by
      have h5 := dec_size _ hs2.1 hs2.2
      have h6 := pad9_size (dec (ptNs n x)) (dec_size _ (by omega) (by omega))
      have h7 := sgnB_size x
      rw [ByteArray.size_append, ByteArray.size_append, ByteArray.size_append]
      have : (⟨#[46]⟩ : ByteArray).size = 1 := rfl
      omega
    clear h0
    obtain ⟨hu1, hu2⟩ := hu
    by_cases hneg : tmUnix x < 0
    · have hp : sgnB x = ⟨#[45]⟩ ∧ ptSec x = -(tmUnix x + 1) ∧ ptNs n x = -((n : Int) - 1000000000) := by
        unfold sgnB ptSec ptNs
        rw [if_pos hneg, if_pos hneg, if_pos hneg]
        exact ⟨rfl, rfl, by omega⟩
      have hd1 := dec_size _ hs2.1 hs2.2
      have hd2 := pad9_size (dec (ptNs n x)) (dec_size _ (by omega) (by omega))
      rw [hp.1, hp.2.1, hp.2.2] at hp0 hsz
      rw [hp.2.1] at hd1
      rw [hp.2.2] at hd2
      clear hp
      replace hp0 := Asd.mk hp0
      replace hsz := Asd.mk hsz
      go_wp2_with (first
        | (go_at_call 67; (with_reducible refine (fmtInt_any hgc _ (by omega) (by omega)).mono ?_); rintro e w4 ⟨rfl, f4⟩; have g4 := hgc.below (f4.mono hgc.size))
        | (go_at_call 128; (with_reducible refine (nine_any g4 _ (by omega) (by omega)).mono ?_); rintro e w5 ⟨rfl, f5⟩)
        | (go_at_call 127; (with_reducible refine (zzTrimRight_any _ 48 _ hsz.out).mono ?_); rintro e w6 ⟨rfl, k6, rfl⟩))
      go_ret
      exact ⟨ret_str hp0.out.symm, (hb.trans (f4.mono hb.size)).trans ((f5.mono (hb.trans (f4.mono hb.size)).size).trans ⟨rfl, rfl, rfl, Nat.le_refl _, fun _ _ => rfl⟩)⟩
    · have hp : sgnB x = ⟨#[]⟩ ∧ ptSec x = tmUnix x ∧ ptNs n x = (n : Int) := by
        unfold sgnB ptSec ptNs
        rw [if_neg hneg, if_neg hneg, if_neg hneg]
        exact ⟨rfl, rfl, rfl⟩
      have hd1 := dec_size _ hs2.1 hs2.2
      have hd2 := pad9_size (dec (ptNs n x)) (dec_size _ (by omega) (by omega))
      rw [hp.1, hp.2.1, hp.2.2] at hp0 hsz
      rw [hp.2.1] at hd1
      rw [hp.2.2] at hd2
      clear hp
      replace hp0 := Asd.mk hp0
      replace hsz := Asd.mk hsz
      go_wp2_with (first
        | (go_at_call 67; (with_reducible refine (fmtInt_any hgc _ (by omega) (by omega)).mono ?_); rintro e w4 ⟨rfl, f4⟩; have g4 := hgc.below (f4.mono hgc.size))
        | (go_at_call 128; (with_reducible refine (nine_any g4 _ (by omega) (by omega)).mono ?_); rintro e w5 ⟨rfl, f5⟩)
        | (go_at_call 127; (with_reducible refine (zzTrimRight_any _ 48 _ hsz.out).mono ?_); rintro e w6 ⟨rfl, k6, rfl⟩))
      go_ret
      exact ⟨ret_str hp0.out.symm, (hb.trans (f4.mono hb.size)).trans ((f5.mono (hb.trans (f4.mono hb.size)).size).trans ⟨rfl, rfl, rfl, Nat.le_refl _, fun _ _ => rfl⟩)⟩
/-- The number that goes into a field: nought if it doesn't fit. -/
def octN (n : Nat) (x : Int) : Nat := if fitO n x then x.toNat else 0
/-- Its digits, with noughts ahead. -/
def octS (n : Nat) (x : Int) : List UInt8 := List.replicate (n - 1 - (od (octN n x)).length) 48 ++ od (octN n x)
theorem octN_lt (n : Nat) (x : Int) : octN n x < 8 ^ (n - 1) := by
  unfold octN
  split
  · rename_i h
    unfold fitO at h
    simp at h
    have h2 : ((x.toNat : Nat) : Int) < ((8 ^ (n - 1) : Nat) : Int) := by rw [Int.toNat_of_nonneg h.1]; simpa using h.2
    exact_mod_cast h2
  · exact Nat.pow_pos (by omega)
theorem octS_len (n : Nat) (x : Int) (hn : 2 ≤ n) : (octS n x).length = n - 1 := by
  have := (od_len (octN n x) (n - 1) (by omega) (octN_lt n x)).1
  unfold octS
  simp
  omega
set_option maxRecDepth 100000 in
set_option maxHeartbeats 2000000 in
/-- Behind the test: the digits are made and put into the field. -/
theorem fo_pos (n : Nat) (hfit : ∀ (x : Int) (w : World), Calls Tryz.prog 66 #[.int .i64 n, .int .i64 x] w fun e w' => e = .returned (.bool (fitO n x)) ∧ w = w')
    (hn2 : 2 ≤ n) (hn : n ≤ 12)
    (b off c bf : Nat) (P : List Value) (xs : List UInt8) (Q : List Value) (T : TypeId) (u m : Nat) (ds : List UInt8) (e0 : Value) (G : GlP) (B : Nat) (w : World) (hgl : Gl G B w) (hbB : B ≤ b) (hfB : B ≤ bf)
    (hb : w.heap[b]? = some (.cells (P ++ cells xs ++ Q).toArray T (0, 0))) (hP : P.length = off) (hx : xs.length = n) (hc : n ≤ c) (ho : off ≤ 1024)
    (hf : w.heap[bf]? = some (.cells #[e0] 155 (0, 0))) (hfb : bf ≠ b)
    (hF : fitO n u = true) (hlt : u < 9223372036854775808) (HD : Asd (od u = ds)) (hm : m + ds.length + 1 = n) :
    Calls Tryz.prog 97 #[.pointer (some ⟨bf, 0, none⟩), .slice (some ⟨b, off, none⟩) n c, .int .i64 u] w fun e w' => e = .returned (.tuple #[]) ∧
      w'.heap[b]? = some (.cells (P ++ cells (fmtS xs (List.replicate m 48 ++ ds)) ++ Q).toArray T (0, 0)) ∧ w'.heap[bf]? = some (.cells #[e0] 155 (0, 0)) ∧ Kp (fun k => k = b ∨ k = bf) w w' := by
  have hsz : (⟨ds.toArray⟩ : ByteArray).size = ds.length := by simp [ByteArray.size]
  have h11 : 11 < w.heap.size := by have := hgl.hB; have := hgl.size; omega
  have hmi : (n : Int) - (ds.length : Int) - 1 = (m : Int) := by omega
  by_cases hm0 : m = 0
  · subst hm0
    have d1 : decide ((0 : Int) < ((0 : Nat) : Int)) = false := rfl
    go_enter Tryz.func97, Tryz.ntmps97
    go_wp2_with (first
      | (go_at_call 66; refine (hfit _ _).mono ?_; rintro e w1 ⟨rfl, rfl⟩)
      | (go_at_call 67; refine (FormatInt8 u _ hlt hgl.t11 h11).mono ?_; rintro e w1 ⟨rfl, hb1⟩; rw [HD.out])
      | (go_at_call 96; refine (formatString_any b off n c bf P xs Q T _ e0 G.p4 w1 (blk_below hb hb1) hP hx (by omega) (by omega) hc ho (hgl.below (hb1.mono hgl.size)).c4 (blk_below hf hb1) hfb (by rw [hsz]; omega)).mono ?_; rintro e w2 ⟨rfl, h1, h2, h3⟩))
    go_end0
    refine ⟨rfl, ?_, ?_, ?_⟩
    · simpa using h1
    · rw [if_neg (by rw [hsz]; omega)] at h2; exact h2
    · exact (Kp.of_below hb1).trans h3
  · have hm1 : (0 : Int) < (m : Int) := by omega
    have hm2 : 0 < m := by omega
    have hrep : Lib.repeatL [48] m = List.replicate m 48 := by
      clear hmi hm1 hm2 hm0 hm
      induction m with
      | zero => rfl
      | succ k ih => rw [Lib.repeatL, ih]; rfl
    have HR := Asd.mk hrep
    have HS := Asd.mk (show ((⟨Array.replicate m 48⟩ : ByteArray) ++ ⟨ds.toArray⟩) = ⟨(List.replicate m 48 ++ ds).toArray⟩ by apply ba_ext; simp)
    have hsz2 : (⟨(List.replicate m 48 ++ ds).toArray⟩ : ByteArray).size = m + ds.length := by simp [ByteArray.size]
    clear hrep hm0
    go_enter Tryz.func97, Tryz.ntmps97
    go_wp2_with (first
      | (go_at_call 66; refine (hfit _ _).mono ?_; rintro e w1 ⟨rfl, rfl⟩)
      | (go_at_call 67; refine (FormatInt8 u _ hlt hgl.t11 h11).mono ?_; rintro e w1 ⟨rfl, hb1⟩; rw [HD.out])
      | (go_at_call 132; refine (Tryz.strings_Repeat ⟨#[48]⟩ m _ (by omega) (by show 1 * m ≤ _; omega)).mono ?_; rintro e w2 ⟨rfl, hb2⟩; rw [HR.out])
      | (go_at_call 96; rw [HS.out]; refine (formatString_any b off n c bf P xs Q T _ e0 G.p4 w2 (blk_below (blk_below hb hb1) hb2) hP hx (by omega) (by omega) hc ho ((hgl.below (hb1.mono hgl.size)).below (hb2.mono (Nat.le_trans hgl.size hb1.size))).c4 (blk_below (blk_below hf hb1) hb2) hfb (by rw [hsz2]; omega)).mono ?_; rintro e w3 ⟨rfl, h1, h2, h3⟩))
    go_end0
    refine ⟨rfl, ?_, ?_, ?_⟩
    · simpa using h1
    · rw [if_neg (by rw [hsz2]; omega)] at h2; exact h2
    · exact ((Kp.of_below hb1).trans (Kp.of_below hb2)).trans h3
set_option maxRecDepth 100000 in
set_option maxHeartbeats 2000000 in
theorem formatOctal_of (n : Nat) (hfit : ∀ (x : Int) (w : World), Calls Tryz.prog 66 #[.int .i64 n, .int .i64 x] w fun e w' => e = .returned (.bool (fitO n x)) ∧ w = w')
    (hn2 : 3 ≤ n) (hn : n ≤ 12)
    (b off c bf : Nat) (P : List Value) (xs : List UInt8) (Q : List Value) (T : TypeId) (x : Int) (e0 : Value) (G : GlP) (B : Nat) (w : World) (hgl : Gl G B w) (hbB : B ≤ b) (hfB : B ≤ bf)
    (hb : w.heap[b]? = some (.cells (P ++ cells xs ++ Q).toArray T (0, 0))) (hP : P.length = off) (hx : xs.length = n) (hc : n ≤ c) (ho : off ≤ 1024)
    (hf : w.heap[bf]? = some (.cells #[e0] 155 (0, 0))) (hfb : bf ≠ b) :
    Calls Tryz.prog 97 #[.pointer (some ⟨bf, 0, none⟩), .slice (some ⟨b, off, none⟩) n c, .int .i64 x] w fun e w' => e = .returned (.tuple #[]) ∧
      w'.heap[b]? = some (.cells (P ++ cells (fmtS xs (octS n x)) ++ Q).toArray T (0, 0)) ∧ w'.heap[bf]? = some (.cells #[if fitO n x then e0 else errV G.p4] 155 (0, 0)) ∧ Kp (fun k => k = b ∨ k = bf) w w' := by
  have hlt := octN_lt n x
  have hod := od_len (octN n x) (n - 1) (by omega) hlt
  have hlt2 : octN n x < 9223372036854775808 := by
    have : 8 ^ (n - 1) ≤ 8 ^ 11 := Nat.pow_le_pow_right (by omega) (by omega)
    have h2 : (8 : Nat) ^ 11 = 8589934592 := by decide
    omega
  by_cases hF : fitO n x = true
  · have hx0 : x = ((octN n x : Nat) : Int) := by
      unfold octN; rw [if_pos hF]
      unfold fitO at hF; simp at hF
      omega
    have hF2 : fitO n ((octN n x : Nat) : Int) = true := by rw [← hx0]; exact hF
    have h := fo_pos n hfit (by omega) hn b off c bf P xs Q T (octN n x) (n - 1 - (od (octN n x)).length) (od (octN n x)) e0 G B w hgl hbB hfB hb hP hx hc ho hf hfb hF2 hlt2 ⟨rfl⟩ (by omega)
    rw [← hx0] at h
    refine h.mono ?_
    rintro e w' ⟨rfl, h1, h2, h3⟩
    exact ⟨rfl, h1, by rw [if_pos hF]; exact h2, h3⟩
  · have hF' : fitO n x = false := by simpa using hF
    have h0 : octN n x = 0 := by unfold octN; rw [if_neg hF]
    rw [h0] at hlt hod hlt2
    obtain ⟨m, hm⟩ : ∃ m, m + 1 + 1 = n := ⟨n - 2, by omega⟩
    have hod0 : od 0 = [48] := by rw [od_lt (by omega)]; rfl
    have HO : Asd (octS n x = List.replicate m (48 : UInt8) ++ [48]) := ⟨by unfold octS; rw [h0, hod0]; congr 2; simp; omega⟩
    have HD := Asd.mk hod0
    have hf' : w.heap[bf]? = some (.cells [e0].toArray 155 (0, 0)) := hf
    have cf : w.cell? ⟨bf, 0, none⟩ = some e0 := cell_blk hf' rfl
    have ff : w.frozen? ⟨bf, 0, none⟩ = false := frozen_blk hf'
    have hg4 := hgl.c4
    obtain ⟨W1, hW1⟩ : ∃ W1, W1 = w.setCell ⟨bf, 0, none⟩ (.iface 182 (.pointer (some G.p4))) := ⟨_, rfl⟩
    have hf1 : W1.heap[bf]? = some (.cells #[errV G.p4] 155 (0, 0)) := by rw [hW1]; exact set_blk hf'
    have hk1 : Kp (fun k => k = b ∨ k = bf) w W1 := by rw [hW1]; exact (Kp.refl _ _).setCell (.inl (.inr rfl)) _
    have hb1 : W1.heap[b]? = some (.cells (P ++ cells xs ++ Q).toArray T (0, 0)) := by rw [hW1, Below.heap_setCell _ _ _ _ (fun e => hfb e.symm)]; exact hb
    have hgl1 : Gl G B W1 := hgl.kp hk1 (fun k hk => by rcases hk with rfl | rfl <;> assumption)
    have HW := Asd.mk hW1
    have h11 : 11 < W1.heap.size := by have := hgl1.hB; have := hgl1.size; omega
    have hmi : (n : Int) - 1 - 1 = (m : Int) := by omega
    have hm2 : 0 < m := by omega
    have hm1 : (0 : Int) < (m : Int) := by omega
    have hrep : Lib.repeatL [48] m = List.replicate m 48 := by
      clear hmi hm1 hm2 hm HO
      induction m with
      | zero => rfl
      | succ k ih => rw [Lib.repeatL, ih]; rfl
    have HR := Asd.mk hrep
    have HS := Asd.mk (show ((⟨Array.replicate m 48⟩ : ByteArray) ++ ⟨#[48]⟩) = ⟨(List.replicate m (48 : UInt8) ++ [48]).toArray⟩ by apply ba_ext; simp)
    have hsz2 : (⟨(List.replicate m (48 : UInt8) ++ [48]).toArray⟩ : ByteArray).size = m + 1 := by simp [ByteArray.size]
    have HM := Asd.mk hm
    have hn10 : m ≤ 10 := by omega
    clear hW1 hrep hod hod0 h0 hF hlt hlt2 hf' hf hm
    go_enter Tryz.func97, Tryz.ntmps97
    go_wp2_with (first
      | (go_at_call 66; refine (hfit _ _).mono ?_; rintro e w1 ⟨rfl, rfl⟩)
      | (go_at_call 67; rw [← HW.out]; refine (FormatInt8 0 _ (by omega) hgl1.t11 h11).mono ?_; rintro e w1 ⟨rfl, hb1'⟩; rw [HD.out])
      | (go_at_call 132; refine (Tryz.strings_Repeat ⟨#[48]⟩ m _ (by omega) (by show 1 * m ≤ _; omega)).mono ?_; rintro e w2 ⟨rfl, hb2⟩; rw [HR.out])
      | (go_at_call 96; rw [HS.out]; refine (formatString_any b off n c bf P xs Q T _ _ G.p4 w2 (blk_below (blk_below hb1 hb1') hb2) hP hx (by omega) (by omega) hc ho ((hgl1.below (hb1'.mono hgl1.size)).below (hb2.mono (Nat.le_trans hgl1.size hb1'.size))).c4 (blk_below (blk_below hf1 hb1') hb2) hfb (by rw [hsz2]; omega)).mono ?_; rintro e w3 ⟨rfl, h1, h2, h3⟩))
    all_goals (
      go_end0
      refine ⟨rfl, ?_, ?_, ?_⟩
      · rw [HO.out]; simpa using h1
      · simpa [hF', errV] using h2
      · exact ((hk1.trans (Kp.of_below hb1')).trans (Kp.of_below hb2)).trans h3)
/-- The lowest j bytes of a number, the highest first. -/
def lowB (x : Int) : Nat → List UInt8
  | 0 => []
  | j + 1 => UInt8.ofNat ((x / 256 ^ j) % 256).toNat :: lowB x j
theorem ofNat8 (k : Nat) (h : k < 256) : (UInt8.ofNat k).toNat = k := by simp; omega
theorem lowB_len (x : Int) : ∀ j, (lowB x j).length = j
  | 0 => rfl
  | j + 1 => by simp [lowB, lowB_len x j]
def orTop (c : UInt8) : UInt8 := UInt8.ofNat (c.toNat ||| 128)
def b256 (n : Nat) (x : Int) : List UInt8 := match lowB x n with | [] => [] | c :: r => orTop c :: r
theorem b256_len (n : Nat) (x : Int) : (b256 n x).length = n := by
  have := lowB_len x n
  unfold b256
  split <;> simp_all
/-- What formatNumeric leaves in a field of n bytes. -/
def numS (n : Nat) (xs : List UInt8) (x : Int) : List UInt8 := if fitO n x then fmtS xs (octS n x) else if fitB n x then b256 n x else fmtS xs (octS n 0)
def numOk (n : Nat) (x : Int) : Bool := fitO n x || fitB n x
theorem numS_len (n : Nat) (xs : List UInt8) (x : Int) (h : xs.length = n) : (numS n xs x).length = n := by
  unfold numS
  split
  · rw [fmtS_len, h]
  · split
    · exact b256_len n x
    · rw [fmtS_len, h]
section
variable (n : Nat) (hfit : ∀ (x : Int) (w : World), Calls Tryz.prog 66 #[.int .i64 n, .int .i64 x] w fun e w' => e = .returned (.bool (fitO n x)) ∧ w = w')
  (hfit2 : ∀ (x : Int) (w : World), Calls Tryz.prog 65 #[.int .i64 n, .int .i64 x] w fun e w' => e = .returned (.bool (fitB n x)) ∧ w = w')
  (hn2 : 3 ≤ n) (hn : n ≤ 12)
  (b off c bf : Nat) (P : List Value) (xs : List UInt8) (Q : List Value) (T : TypeId) (x : Int) (e0 : Value) (G : GlP) (B : Nat) (w : World) (hgl : Gl G B w) (hbB : B ≤ b) (hfB : B ≤ bf)
  (hb : w.heap[b]? = some (.cells (P ++ cells xs ++ Q).toArray T (0, 0))) (hP : P.length = off) (hx : xs.length = n) (hc : n ≤ c) (ho : off ≤ 1024)
  (hf : w.heap[bf]? = some (.cells #[e0] 155 (0, 0))) (hfb : bf ≠ b)
include hfit hfit2 hn2 hn hgl hbB hfB hb hP hx hc ho hf hfb
set_option maxRecDepth 100000 in
set_option maxHeartbeats 2000000 in
theorem fn_oct (h1 : fitO n x = true) :
    Calls Tryz.prog 111 #[.pointer (some ⟨bf, 0, none⟩), .slice (some ⟨b, off, none⟩) n c, .int .i64 x] w fun e w' => e = .returned (.tuple #[]) ∧
      w'.heap[b]? = some (.cells (P ++ cells (numS n xs x) ++ Q).toArray T (0, 0)) ∧ w'.heap[bf]? = some (.cells #[if numOk n x then e0 else errV G.p4] 155 (0, 0)) ∧ Kp (fun k => k = b ∨ k = bf) w w' := by
  have h := formatOctal_of n hfit hn2 hn b off c bf P xs Q T x e0 G B w hgl hbB hfB hb hP hx hc ho hf hfb
  have e1 : numS n xs x = fmtS xs (octS n x) := by unfold numS; rw [if_pos h1]
  have e2 : numOk n x = true := by unfold numOk; rw [h1]; rfl
  rw [h1] at h
  rw [e1, e2]
  clear e1 e2 hb hf
  go_enter Tryz.func111, Tryz.ntmps111
  go_wp2_with (first
    | (go_at_call 66; refine (hfit _ _).mono ?_; rintro e w1 ⟨rfl, rfl⟩)
    | (go_at_call 97; refine h.mono ?_; rintro e w1 ⟨rfl, g1, g2, g3⟩))
  refine bodyPost_ret (results_none rfl _ _ _) rfl ?_
  exact ⟨rfl, by simpa using g1, by simpa using g2, g3⟩
set_option maxRecDepth 100000 in
set_option maxHeartbeats 2000000 in
theorem fn_zero (h1 : fitO n x = false) (h2 : fitB n x = false) :
    Calls Tryz.prog 111 #[.pointer (some ⟨bf, 0, none⟩), .slice (some ⟨b, off, none⟩) n c, .int .i64 x] w fun e w' => e = .returned (.tuple #[]) ∧
      w'.heap[b]? = some (.cells (P ++ cells (numS n xs x) ++ Q).toArray T (0, 0)) ∧ w'.heap[bf]? = some (.cells #[if numOk n x then e0 else errV G.p4] 155 (0, 0)) ∧ Kp (fun k => k = b ∨ k = bf) w w' := by
  have h := formatOctal_of n hfit hn2 hn b off c bf P xs Q T 0 e0 G B w hgl hbB hfB hb hP hx hc ho hf hfb
  have e1 : numS n xs x = fmtS xs (octS n 0) := by unfold numS; rw [if_neg (by rw [h1]; simp), if_neg (by rw [h2]; simp)]
  have e2 : numOk n x = false := by unfold numOk; rw [h1, h2]; rfl
  rw [e1, e2]
  clear e1 e2 hb hf
  go_enter Tryz.func111, Tryz.ntmps111
  go_wp2_with (first
    | (go_at_call 66; refine (hfit _ _).mono ?_; rintro e w1 ⟨rfl, rfl⟩)
    | (go_at_call 65; refine (hfit2 _ _).mono ?_; rintro e w1 ⟨rfl, rfl⟩)
    | (go_at_call 97; refine h.mono ?_; rintro e w1 ⟨rfl, g1, g2, g3⟩; have cg := (hgl.kp g3 (fun k hk => by rcases hk with rfl | rfl <;> assumption)).c4; have cf := cell_blk (C := [_]) (j := 0) g2 rfl; have ff := frozen_blk (C := [_]) (j := 0) g2; have X := Asd.mk (And.intro g1 (And.intro g2 g3)); clear g1 g2 g3))
  go_end0
  obtain ⟨g1, g2, g3⟩ := X.out
  refine ⟨rfl, ?_, ?_, g3.setCell (.inl (.inr rfl)) _⟩
  · rw [Below.heap_setCell _ _ _ _ (fun e => hfb e.symm)]; simpa using g1
  · exact set_blk (C := [_]) g2
set_option maxRecDepth 100000 in
set_option maxHeartbeats 2000000 in
theorem fn_bytes (hxr : -9223372036854775808 ≤ x ∧ x ≤ 9223372036854775807) (h1 : fitO n x = false) (h2 : fitB n x = true) :
    Calls Tryz.prog 111 #[.pointer (some ⟨bf, 0, none⟩), .slice (some ⟨b, off, none⟩) n c, .int .i64 x] w fun e w' => e = .returned (.tuple #[]) ∧
      w'.heap[b]? = some (.cells (P ++ cells (numS n xs x) ++ Q).toArray T (0, 0)) ∧ w'.heap[bf]? = some (.cells #[if numOk n x then e0 else errV G.p4] 155 (0, 0)) ∧ Kp (fun k => k = b ∨ k = bf) w w' := by
  have e1 : numS n xs x = b256 n x := by unfold numS; rw [if_neg (by rw [h1]; simp), if_pos h2]
  have e2 : numOk n x = true := by unfold numOk; rw [h2]; simp
  rw [e1, e2]
  have HB := Asd.mk hb
  have HF := Asd.mk hf
  have HX := Asd.mk hx
  clear e1 e2 hb hf hx
  go_enter Tryz.func111, Tryz.ntmps111
  go_wp2_with (first
    | (go_at_call 66; refine (hfit _ _).mono ?_; rintro e w1 ⟨rfl, rfl⟩)
    | (go_at_call 65; refine (hfit2 _ _).mono ?_; rintro e w1 ⟨rfl, rfl⟩))
  go_loopw [2, 6] (fun xv iv wr => ∃ (j : Nat) (y : Int), j ≤ n ∧ iv = .int .i64 ((n : Int) - 1 - j) ∧ xv = .int .i64 y ∧ Asd (y = x / 256 ^ j) ∧ (-9223372036854775808 ≤ y ∧ y ≤ 9223372036854775807) ∧ Asd (wr.heap[b]? = some (.cells (P ++ cells (xs.take (n - j) ++ lowB x j) ++ Q).toArray T (0, 0))) ∧ Kp (fun k => k = b) w wr) (fun _ iv _ => (intOf iv + 1).toNat)
  case atStart => exact ⟨0, x, by omega, by congr 1; omega, rfl, ⟨by simp⟩, hxr, ⟨by rw [List.take_of_length_le (by rw [HX.out]; omega)]; simpa [lowB] using HB.out⟩, Kp.refl _ _⟩
  case round =>
    obtain ⟨j, y, hj, rfl, rfl, HY, hyr, HC, hk⟩ := hrel
    by_cases hlt : j < n
    · obtain ⟨k, hnk⟩ : ∃ k : Nat, (n : Int) - 1 - (j : Int) = (k : Int) := ⟨n - 1 - j, by omega⟩
      have HN := Asd.mk (show n - j = k + 1 by omega)
      have hkn : (k : Int) < (n : Int) := by omega
      have hkn2 : k < n := by omega
      have hXl : (xs.take (n - j) ++ lowB x j).length = n := by rw [List.length_append, lowB_len, List.length_take, HX.out]; omega
      have hcl := cell_blk HC.out (get3 P _ Q k (by rw [hXl]; omega))
      rw [hP] at hcl
      generalize u8 ((xs.take (n - j) ++ lowB x j)[k]'(by rw [hXl]; omega)) = ov at hcl
      have hfr := frozen_blk HC.out (j := off + k)
      have HH := Asd.mk hXl
      have HK := Asd.mk hk
      clear hXl hk
      go_wp2
      go_roundw
      case rel =>
        refine ⟨j + 1, y / 256, by omega, by congr 1; omega, rfl, ⟨?_⟩, by omega, ⟨?_⟩, HK.out.setCell (.inl rfl) _⟩
        · rw [HY.out, Int.ediv_ediv_of_nonneg (Int.pow_nonneg (by omega)), Int.pow_succ]
        · have hv : Value.int .u8 (y % 256) = .int .u8 ((UInt8.ofNat (y % 256).toNat).toNat : Int) := by
            congr 1
            rw [ofNat8 _ (by omega)]
            omega
          have h1 := set_blk (j := off + k) (v := .int .u8 (y % 256)) HC.out
          rw [hv, ← hP, set3 P _ Q _ k (by rw [HH.out]; omega), ← hv, HN.out] at h1
          have hX : ((xs.take (k + 1) ++ lowB x j).set k (UInt8.ofNat (y % 256).toNat)) = xs.take (n - (j + 1)) ++ lowB x (j + 1) := by
            have hk1 : (xs.take (k + 1)).length = k + 1 := by rw [List.length_take, HX.out]; omega
            rw [show n - (j + 1) = k by have := HN.out; omega, List.set_append_left _ _ (by omega)]
            have ht : xs.take (k + 1) = xs.take k ++ [xs[k]'(by rw [HX.out]; omega)] := by
              rw [List.take_succ_eq_append_getElem]
            rw [ht, List.set_append_right _ _ (by rw [List.length_take]; omega), show k - (xs.take k).length = 0 by rw [List.length_take, HX.out]; omega, lowB, ← HY.out]
            simp
          rw [hX] at h1
          rw [← hP]
          exact h1
      case measure => simp [intOf]; omega
    · have ej : j = n := by omega
      subst ej
      have hl := lowB_len x j
      obtain ⟨c0, r, hcr⟩ : ∃ c0 r, lowB x j = c0 :: r := by
        cases h : lowB x j with
        | nil => rw [h] at hl; simp at hl; omega
        | cons c0 r => exact ⟨c0, r, rfl⟩
      have hC := HC.out
      rw [Nat.sub_self, List.take_zero, List.nil_append, hcr] at hC
      have hcl := cell_blk hC (get3 P _ Q 0 (by simp))
      rw [hP, Nat.add_zero] at hcl
      have hcl2 : wr.cell? ⟨b, off, none⟩ = some (.int .u8 (c0.toNat : Int)) := hcl
      have hfr := frozen_blk hC (j := off)
      have hor : bits .or .u8 (c0.toNat : Int) 128 = ((c0.toNat ||| 128 : Nat) : Int) := u8_or_nat c0.toNat 128 c0.toNat_lt (by omega)
      have HOR := Asd.mk hor
      clear hor
      have hjj : ((j : Int) - 1 - (j : Int)) = -1 := by omega
      have h3 : (0 : Int) < (j : Int) := by omega
      have HC2 := Asd.mk hC
      have HK := Asd.mk hk
      have HR := Asd.mk hcr
      clear hcl hC hk hl hcr
      go_wp2
      refine bodyPost_ret (results_none rfl _ _ _) rfl ?_
      have hv : Value.int .u8 ((c0.toNat ||| 128 : Nat) : Int) = .int .u8 ((orTop c0).toNat : Int) := by
        unfold orTop
        rw [ofNat8 _ (Nat.or_lt_two_pow (n := 8) c0.toNat_lt (by omega))]
      have g1 := set_blk (j := off) (v := .int .u8 ((c0.toNat ||| 128 : Nat) : Int)) HC2.out
      have g2 := set3 P (c0 :: r) Q (orTop c0) 0 (by simp)
      rw [Nat.add_zero] at g2
      rw [hv, ← hP, g2] at g1
      have hb6 : b256 j x = orTop c0 :: r := by unfold b256; rw [HR.out]
      refine ⟨rfl, ?_, ?_, (HK.out.mono (fun k hk => .inl hk)).setCell (.inl (.inl rfl)) _⟩
      · rw [hb6, ← hP, HOR.out, hv]; simpa using g1
      · rw [Below.heap_setCell _ _ _ _ hfb]; exact HK.out.get HF.out hfb
end
theorem formatNumeric_of (n : Nat) (hfit : ∀ (x : Int) (w : World), Calls Tryz.prog 66 #[.int .i64 n, .int .i64 x] w fun e w' => e = .returned (.bool (fitO n x)) ∧ w = w')
    (hfit2 : ∀ (x : Int) (w : World), Calls Tryz.prog 65 #[.int .i64 n, .int .i64 x] w fun e w' => e = .returned (.bool (fitB n x)) ∧ w = w')
    (hn2 : 3 ≤ n) (hn : n ≤ 12)
    (b off c bf : Nat) (P : List Value) (xs : List UInt8) (Q : List Value) (T : TypeId) (x : Int) (e0 : Value) (G : GlP) (B : Nat) (w : World) (hgl : Gl G B w) (hbB : B ≤ b) (hfB : B ≤ bf)
    (hb : w.heap[b]? = some (.cells (P ++ cells xs ++ Q).toArray T (0, 0))) (hP : P.length = off) (hx : xs.length = n) (hc : n ≤ c) (ho : off ≤ 1024)
    (hf : w.heap[bf]? = some (.cells #[e0] 155 (0, 0))) (hfb : bf ≠ b) (hxr : -9223372036854775808 ≤ x ∧ x ≤ 9223372036854775807) :
    Calls Tryz.prog 111 #[.pointer (some ⟨bf, 0, none⟩), .slice (some ⟨b, off, none⟩) n c, .int .i64 x] w fun e w' => e = .returned (.tuple #[]) ∧
      w'.heap[b]? = some (.cells (P ++ cells (numS n xs x) ++ Q).toArray T (0, 0)) ∧ w'.heap[bf]? = some (.cells #[if numOk n x then e0 else errV G.p4] 155 (0, 0)) ∧ Kp (fun k => k = b ∨ k = bf) w w' := by
  cases h1 : fitO n x
  · cases h2 : fitB n x
    · exact fn_zero n hfit hfit2 hn2 hn b off c bf P xs Q T x e0 G B w hgl hbB hfB hb hP hx hc ho hf hfb h1 h2
    · exact fn_bytes n hfit hfit2 hn2 hn b off c bf P xs Q T x e0 G B w hgl hbB hfB hb hP hx hc ho hf hfb hxr h1 h2
  · exact fn_oct n hfit hfit2 hn2 hn b off c bf P xs Q T x e0 G B w hgl hbB hfB hb hP hx hc ho hf hfb h1
end Go.Proofs.YtpkilegnokajmaaGreatDoor
namespace Go.Proofs.YtpkilegnokajmaaGreatDoor
open Go.RowKit Go.Sort
def recTxt (n : Int) (k v : ByteArray) : ByteArray := ((((dec n ++ ⟨#[32]⟩) ++ k) ++ ⟨#[61]⟩) ++ v) ++ ⟨#[10]⟩
def recN0 (k v : ByteArray) : Int := k.size + v.size + 3
def recN1 (k v : ByteArray) : Int := recN0 k v + (dec (recN0 k v)).size
/-- A record as it is written. -/
def recB (k v : ByteArray) : ByteArray := if ((recTxt (recN1 k v) k v).size : Int) = recN1 k v then recTxt (recN1 k v) k v else recTxt (recTxt (recN1 k v) k v).size k v
theorem recTxt_size (n : Int) (k v : ByteArray) : (recTxt n k v).size = (dec n).size + k.size + v.size + 3 := by
  unfold recTxt
  simp only [ByteArray.size_append]
  have h1 : (⟨#[32]⟩ : ByteArray).size = 1 := rfl
  have h2 : (⟨#[61]⟩ : ByteArray).size = 1 := rfl
  have h3 : (⟨#[10]⟩ : ByteArray).size = 1 := rfl
  omega
theorem recB_size (k v : ByteArray) (hk : k.size ≤ 1073741824) (hv : v.size ≤ 1073741824) : (recB k v).size ≤ k.size + v.size + 24 := by
  have d0 := dec_size (recN0 k v) (by unfold recN0; omega) (by unfold recN0; omega)
  have d1 := dec_size (recN1 k v) (by unfold recN1 recN0; omega) (by unfold recN1 recN0 at *; omega)
  unfold recB
  split
  · rw [recTxt_size]; omega
  · have h1 := recTxt_size (recN1 k v) k v
    have d2 := dec_size ((recTxt (recN1 k v) k v).size : Int) (by omega) (by omega)
    rw [recTxt_size]; omega
set_option maxRecDepth 100000 in
set_option maxHeartbeats 1000000 in
theorem fmtRec_any {G : GlP} {B : Nat} {w : World} (hg : Gl G B w) (k v : ByteArray) (hk : k.size ≤ 1073741824) (hv : v.size ≤ 1073741824) (hr : vRec k v = true) :
    Calls Tryz.prog 103 #[.string k, .string v] w fun e w' => e = .returned (.tuple #[.string (recB k v), .nilIface]) ∧ Below w.heap.size w w' := by
  have d0 := dec_size (recN0 k v) (by unfold recN0; omega) (by unfold recN0; omega)
  have d1 := dec_size (recN1 k v) (by unfold recN1 recN0; omega) (by unfold recN1 recN0 at *; omega)
  have h1 := recTxt_size (recN1 k v) k v
  have hr2 := Asd.mk hr
  clear hr
  have hB : recB k v = if ((recTxt (recN1 k v) k v).size : Int) = recN1 k v then recTxt (recN1 k v) k v else recTxt (recTxt (recN1 k v) k v).size k v := rfl
  rw [h1] at hB
  have hN1 : recN1 k v = k.size + v.size + 3 + (dec (k.size + v.size + 3)).size := rfl
  rw [hN1] at hB d1
  have hN0 : recN0 k v = k.size + v.size + 3 := rfl
  rw [hN0] at d0
  clear hN1 hN0 h1
  obtain ⟨L0, hL0⟩ : ∃ L0, (dec (k.size + v.size + 3)).size = L0 := ⟨_, rfl⟩
  rw [hL0] at hB d0 d1
  obtain ⟨L1, hL1⟩ : ∃ L1, (dec (k.size + v.size + 3 + L0)).size = L1 := ⟨_, rfl⟩
  rw [hL1] at hB d1
  by_cases hc : L1 = L0
  · subst hc
    rw [if_pos (by omega)] at hB
    unfold recTxt at hB
    replace hB := Asd.mk hB
    go_enter Tryz.func103, Tryz.ntmps103
    go_wp2_with (first
      | (go_at_call 93; refine (validPAXRecord_any k v _ (by omega) (by omega)).mono ?_; rw [hr2.out]; rintro e w1 ⟨rfl, rfl⟩)
      | (go_at_call 147; (with_reducible refine (itoa_any hg ((k.size : Int) + v.size + 3) (by omega) (by omega)).mono ?_); rintro e w2 ⟨rfl, f2⟩; have g2 := hg.below (f2.mono hg.size))
      | (go_at_call 147; (with_reducible refine (itoa_any g2 _ (by omega) (by omega)).mono ?_); rintro e w3 ⟨rfl, f3⟩))
    go_ret2
    have b3 := f2.trans (f3.mono f2.size)
    exact ⟨by rw [hB.out]; rfl, b3⟩
  · rw [if_neg (by omega)] at hB
    unfold recTxt at hB
    have eN : ((L1 + k.size + v.size + 3 : Nat) : Int) = ↑L1 + 1 + ↑k.size + 1 + ↑v.size + 1 := by omega
    rw [eN] at hB
    replace hB := Asd.mk hB
    have d2 := dec_size ((L1 : Int) + 1 + k.size + 1 + v.size + 1) (by omega) (by omega)
    clear eN
    go_enter Tryz.func103, Tryz.ntmps103
    go_wp2_with (first
      | (go_at_call 93; refine (validPAXRecord_any k v _ (by omega) (by omega)).mono ?_; rw [hr2.out]; rintro e w1 ⟨rfl, rfl⟩)
      | (go_at_call 147; (with_reducible refine (itoa_any hg ((k.size : Int) + v.size + 3) (by omega) (by omega)).mono ?_); rintro e w2 ⟨rfl, f2⟩; have g2 := hg.below (f2.mono hg.size))
      | (go_at_call 147; (with_reducible refine (itoa_any g2 ((k.size : Int) + v.size + 3 + L0) (by omega) (by omega)).mono ?_); rintro e w3 ⟨rfl, f3⟩; have g3 := g2.below (f3.mono g2.size))
      | (go_at_call 147; (with_reducible refine (itoa_any g3 _ (by omega) (by omega)).mono ?_); rintro e w4 ⟨rfl, f4⟩))
    go_ret2
    have b3 := f2.trans (f3.mono f2.size)
    exact ⟨by rw [hB.out]; rfl, b3.trans (f4.mono b3.size)⟩
end Go.Proofs.YtpkilegnokajmaaGreatDoor
namespace Go.Proofs.YtpkilegnokajmaaGreatDoor
open Go.RowKit
theorem bld_size : (Tryz.prog.info? 162).map (fun j => j.size) = some 2 := by kernel_rfl
theorem bld_lies : liesAt Tryz.prog Tryz.prog.depth 162 (2 / Tryz.prog.cellsOf 162) 0 162 1 = true := by kernel_rfl
set_option maxRecDepth 100000 in
set_option maxHeartbeats 1000000 in
theorem cc_used (b : Nat) (w : World) (h0 : w.cell? ⟨b, 0, none⟩ = some (.pointer (some ⟨b, 0, none⟩))) :
    Calls Tryz.prog 148 #[.pointer (some ⟨b, 0, none⟩)] w fun e w' => e = .returned (.tuple #[]) ∧ w' = w := by
  obtain ⟨j, hj, _⟩ := Option.map_eq_some_iff.1 bld_size
  go_enter Tryz.func148, Tryz.ntmps148
  go_wp2
  rw [Lib.run_neq_ptr_same w _ Tryz.underlying160 hj]
  go_wp2
  go_end0
  exact ⟨rfl, rfl⟩
set_option maxRecDepth 100000 in
set_option maxHeartbeats 1000000 in
theorem cc_fresh (b : Nat) (w : World) (h0 : w.cell? ⟨b, 0, none⟩ = some (.pointer none)) (hsh : w.shape? b = some (162, 2)) (hfz : w.frozen? ⟨b, 0, none⟩ = false) :
    Calls Tryz.prog 148 #[.pointer (some ⟨b, 0, none⟩)] w fun e w' => e = .returned (.tuple #[]) ∧ w' = w.setCell ⟨b, 0, none⟩ (.pointer (some ⟨b, 0, none⟩)) := by
  obtain ⟨j, hj, hjs⟩ := Option.map_eq_some_iff.1 bld_size
  go_enter Tryz.func148, Tryz.ntmps148
  go_wp2
  rw [Lib.run_to_unsafe w ⟨b, 0, none⟩ Tryz.underlying160 Tryz.underlying221 hj (by rw [hjs]; decide) hsh (Nat.zero_lt_succ 1)]
  simp only [Result.andThen]
  rw [Oper.upon_value]
  go_wp2
  rw [run_callFunc_extern Tryz.func166 (by kernel_rfl) (by kernel_rfl) (by kernel_rfl) (e := Extern.AbiNoEscape.same) (by kernel_rfl)]
  rw [Lib.run_noEscape]
  simp only [Result.andThen]
  rw [Oper.upon_value]
  go_wp2
  rw [Lib.run_from_unsafe w ⟨b, 0, none⟩ Tryz.underlying221 Tryz.underlying160 hj hsh bld_lies]
  simp only [Result.andThen]
  rw [Oper.upon_value]
  go_wp2
  go_end0
  exact ⟨rfl, rfl⟩
theorem cc_any (B b : Nat) (bs : List Value) (w : World) (h : Lib.IsBuilderF 162 5 B b bs w) :
    Calls Tryz.prog 148 #[.pointer (some ⟨b, 0, none⟩)] w fun e w' => e = .returned (.tuple #[]) ∧ (Lib.BuilderAtF 162 5 B b (.pointer (some ⟨b, 0, none⟩)) bs w' ∧ Below B w w' ∧ Lib.OthersKept 5 (some b) w w') := by
  rcases h with h | h
  · refine (cc_fresh b w h.cell0 h.shape h.frozen0).mono ?_
    rintro e w' ⟨rfl, rfl⟩
    exact ⟨rfl, h.used _, (Below.refl B w).setCell (p := ⟨b, 0, none⟩) h.1 _, (Lib.OthersKept.refl _ _ w).setCell ⟨b, 0, none⟩ rfl _⟩
  · refine (cc_used b w h.cell0).mono ?_
    rintro e w' ⟨rfl, rfl⟩
    exact ⟨rfl, h, Below.refl B _, Lib.OthersKept.refl _ _ _⟩
set_option maxRecDepth 100000 in
set_option maxHeartbeats 2000000 in
theorem ws_any (B b : Nat) (bs : List Value) (s : ByteArray) (w : World) (h : Lib.IsBuilderF 162 5 B b bs w) (hlen : bs.length + s.size ≤ 140737488355328) (hBw : B ≤ w.heap.size) :
    Calls Tryz.prog 104 #[.pointer (some ⟨b, 0, none⟩), .string s] w fun e w' => e = .returned (.tuple #[.int .i64 s.size, .nilIface]) ∧ (Lib.BuilderAtF 162 5 B b (.pointer (some ⟨b, 0, none⟩)) (bs ++ Lib.strCells s) w' ∧ Below B w w' ∧ Lib.OthersKept 5 (some b) w w') := by
  obtain ⟨i0, hi, hz0, hz1, hz2⟩ := info_parts Tryz.Builder_Extra_169.infoByte
  go_enter Tryz.func104, Tryz.ntmps104
  go_wp2_with (go_at_call 148; refine (cc_any B b bs _ h).mono ?_)
  rintro e w1 ⟨rfl, h1, hb1, hk1⟩
  obtain ⟨hB, v, hbk, hown, hne⟩ := h1
  have c0 : w1.cell? ⟨b, 0, none⟩ = some (.pointer (some ⟨b, 0, none⟩)) := by rw [Lib.cell_of_heap hbk]; rfl
  have c1 : w1.cell? ⟨b, 1, none⟩ = some v := by rw [Lib.cell_of_heap hbk]; rfl
  go_wp2_with (at_builtin; refine Lib.wpList_append_own_stringF _ rfl _ _ 25 9 rfl B 5 i0 Tryz.underlying25 Tryz.underlying9 hi hz0 hz1 hz2 _ _ _ rfl hown s rfl ?c3 ?c4 ?c5 ?_)
  case c3 => unfold maxLen; omega
  case c4 => omega
  case c5 => have := hb1.size; omega
  intro v' w2 hown' hgrow _
  have hlt : b < w1.heap.size := by
    rcases Nat.lt_or_ge b w1.heap.size with h' | h'
    · exact h'
    · simp [Array.getElem?_eq_none h'] at hbk
  have hb2 : w2.heap[b]? = some (.cells #[.pointer (some ⟨b, 0, none⟩), v] 162 (0, 0)) := by
    rw [hgrow.block b hlt (fun e => hne e.symm)]
    exact hbk
  have d0 : w2.cell? ⟨b, 0, none⟩ = some (.pointer (some ⟨b, 0, none⟩)) := by rw [Lib.cell_of_heap hb2]; rfl
  have d1 : w2.cell? ⟨b, 1, none⟩ = some v := by rw [Lib.cell_of_heap hb2]; rfl
  have f1 : w2.frozen? ⟨b, 1, none⟩ = false := Lib.frozen_of_heap hb2 1
  obtain ⟨ao, n', cap, rfl⟩ : ∃ ao n' cap, v' = .slice ao n' cap := by
    rcases hown'.2 with ⟨hv, _⟩ | ⟨g, cap, cur, fz, hv, _⟩
    · exact ⟨_, _, _, hv⟩
    · exact ⟨_, _, _, hv⟩
  go_wp2
  go_ret2
  refine ⟨rfl, ?_, ?_, (hk1.grown hgrow (Lib.ownsRowF_kind hown)).setCell ⟨b, 1, none⟩ rfl _⟩
  · exact Lib.BuilderAtF.put (T := 162) (e := 5) hB hb2 (bs' := bs ++ Lib.strCells s) (by simpa [Lib.strCells_length] using hown') (by decide)
  · exact (hb1.grown hgrow (by have := hb1.size; omega) (fun k hk => (hown.lt k hk).1)).setCell (p := ⟨b, 1, none⟩) hB _
end Go.Proofs.YtpkilegnokajmaaGreatDoor
