/- The statements' own small functions: sizes that fit; records as the specification has them. The statements' plain: a header as the specification has it. impl.header, with records. A Writer's calls as they come in; their sizes fit. The statements' zzFits7: all calls fit. The Writer's calls in plain data: what is out, its padding, what is left, its error. How long a header's records are. What one call of a Writer asks and leaves: its header, its data, how much it writes. impl.Script: the calls of one Writer. The law's plain part: which formats a header may have. The law's plain part: a header as the code has it and as the specification has it. The law's plain part: what the specification calls right is allowed, what it calls wrong is not. The law's plain part: what a call of the Writer returns. The law's plain part: each call of a Writer, and all. -/
import Derived.Test.YtpkilegnokajmaaGreatDoorE22
import Derived.Test.YtpkilegnokajmaaGreatDoorA26
import Derived.Test.YtpkilegnokajmaaGreatDoorE21
import Derived.Deep.AppendLies
set_option linter.unusedVariables false
set_option linter.unusedSimpArgs false
set_option linter.unnecessarySimpa false
set_option linter.unusedSectionVars false
namespace Go.Proofs.YtpkilegnokajmaaGreatDoor
open Go.RowKit
/-- Records that came in: their cells lie below B. -/
def RecI (B : Nat) (w : World) (a : Option Addr) (n : Nat) (rs : List (ByteArray × ByteArray)) : Prop :=
  rs.length = n ∧ (n = 0 ∨ ∃ b o, a = some ⟨b, o, none⟩ ∧ b < B ∧ ∀ (j : Nat) kv, rs[j]? = some kv → w.cell? ⟨b, o + j * 2, none⟩ = some (.string kv.1) ∧ w.cell? ⟨b, o + j * 2 + 1, none⟩ = some (.string kv.2))
theorem RecI.below {B : Nat} {w w' : World} {a : Option Addr} {n : Nat} {rs : List (ByteArray × ByteArray)} (h : RecI B w a n rs) (hb : Below B w w') : RecI B w' a n rs := by
  obtain ⟨h1, h2 | ⟨b, o, h2, h3, h4⟩⟩ := h
  · exact ⟨h1, .inl h2⟩
  · exact ⟨h1, .inr ⟨b, o, h2, h3, fun j kv hj => by rw [hb.cell (p := ⟨b, _, none⟩) h3, hb.cell (p := ⟨b, _, none⟩) h3]; exact h4 j kv hj⟩⟩
theorem RecI.get {B : Nat} {w : World} {a : Option Addr} {n : Nat} {rs : List (ByteArray × ByteArray)} (h : RecI B w a n rs) (k : Nat) (hk : k < n) :
    ∃ b o kv, a = some ⟨b, o, none⟩ ∧ b < B ∧ rs[k]? = some kv ∧ w.cell? ⟨b, o + k * 2, none⟩ = some (.string kv.1) ∧ w.cell? ⟨b, o + k * 2 + 1, none⟩ = some (.string kv.2) := by
  obtain ⟨h1, h2 | ⟨b, o, h2, h3, h4⟩⟩ := h
  · omega
  · have hk2 : k < rs.length := by omega
    obtain ⟨h5, h6⟩ := h4 k _ (List.getElem?_eq_getElem hk2)
    exact ⟨b, o, _, h2, h3, List.getElem?_eq_getElem hk2, h5, h6⟩
theorem totR_get {rs : List (ByteArray × ByteArray)} {k : Nat} {kv : ByteArray × ByteArray} (h : rs[k]? = some kv) : kv.1.size + kv.2.size + 24 ≤ totR rs := by
  obtain ⟨hk, rfl⟩ := List.getElem?_eq_some_iff.1 h
  exact totR_mem rs k hk
set_option maxRecDepth 100000 in
theorem fits5_any (k v : ByteArray) (w : World) (hk : k.size ≤ 1048576) (hv : v.size ≤ 1048576) : Calls Tryz.prog 119 #[.agg #[.string k, .string v]] w fun e w' => e = .returned (.bool true) ∧ Below w.heap.size w w' := by
  have hb := Asd.mk ((Below.refl w.heap.size w).alloc (Nat.le_refl _) (.cells #[.string k, .string v] 115 (0, 0)))
  go_enter Tryz.func119, Tryz.ntmps119
  go_wp2
  go_ret
  exact ⟨rfl, hb.out⟩
set_option maxRecDepth 100000 in
theorem fits4_any (B : Nat) (a : Option Addr) (n c : Nat) (rs : List (ByteArray × ByteArray)) (w : World) (hr : RecI B w a n rs) (hB : B ≤ w.heap.size) (hT : totR rs ≤ 1048576 * 24) (hs : ∀ kv ∈ rs, kv.1.size ≤ 1048576 ∧ kv.2.size ≤ 1048576) :
    Calls Tryz.prog 53 #[.slice a n c] w fun e w' => e = .returned (.bool true) ∧ Below w.heap.size w w' := by
  have hn : n ≤ 1048576 := by have := totR_len rs; have := hr.1; omega
  replace hr := Asd.mk hr
  replace hs := Asd.mk hs
  go_enter Tryz.func53, Tryz.ntmps53
  go_wp2
  go_loopw [10] (fun i wr => ∃ k : Nat, k ≤ n ∧ i = .int .i64 k ∧ Below w.heap.size w wr) (fun i _ => n - (intOf i).toNat)
  case atStart => exact ⟨0, by omega, rfl, Below.refl _ _⟩
  case round =>
    obtain ⟨k, hk, rfl, hb⟩ := hrel
    by_cases hlt : k < n
    · obtain ⟨b, o, kv, ha, hbB, hkv, d1, d2⟩ := (hr.out.below (hb.mono hB)).get k hlt
      have h1 := (hs.out kv (List.mem_of_getElem? hkv))
      have hf := Asd.mk (fun W => fits5_any kv.1 kv.2 W h1.1 h1.2)
      have hl := Asd.mk hb
      clear hkv h1 hb
      rw [ha]
      go_wp2_with (go_at_call 119; refine (hf.out _).mono ?_; rintro e w3 ⟨rfl, k3⟩; have l3 := Asd.mk ((hl.out.alloc hl.out.size (.cells #[.string kv.1, .string kv.2] 115 (0, 0))).trans (k3.mono (hl.out.alloc hl.out.size (.cells #[.string kv.1, .string kv.2] 115 (0, 0))).size)); clear k3)
      go_roundw
      case rel => exact ⟨k + 1, by omega, by go_num, l3.out⟩
      case measure => simp [intOf]; omega
    · have hl := Asd.mk hb
      clear hb
      go_wp2
      go_ret
      exact ⟨rfl, hl.out⟩
/-- What is known of a header that came in. -/
structure HdI (B : Nat) (w : World) (h : InH) (a : Option Addr) (n c : Nat) (rs : List (ByteArray × ByteArray)) : Prop where
  rv : h.rv = .slice a n c
  rc : RecI B w a n rs
  cap : n ≤ c ∧ c ≤ maxLen
  name : h.name.size ≤ 1048576
  link : h.link.size ≤ 1048576
  uname : h.uname.size ≤ 1048576
  gname : h.gname.size ≤ 1048576
  tot : totR rs ≤ 1048576 * 24
  rs : ∀ kv ∈ rs, kv.1.size ≤ 1048576 ∧ kv.2.size ≤ 1048576
  num : i64R h.size ∧ i64R h.mode ∧ i64R h.uid ∧ i64R h.gid ∧ i64R h.maj ∧ i64R h.min ∧ i64R h.fmt
  ok : h.Ok
theorem HdI.below {B : Nat} {w w' : World} {h : InH} {a : Option Addr} {n c : Nat} {rs : List (ByteArray × ByteArray)} (x : HdI B w h a n c rs) (hb : Below B w w') : HdI B w' h a n c rs :=
  { x with rc := x.rc.below hb }
set_option maxRecDepth 100000 in
theorem fits3_any (B : Nat) (h : InH) (a : Option Addr) (n c : Nat) (rs : List (ByteArray × ByteArray)) (w : World) (x : HdI B w h a n c rs) (hB : B ≤ w.heap.size) :
    Calls Tryz.prog 32 #[.agg h.cells.toArray] w fun e w' => e = .returned (.bool true) ∧ Below w.heap.size w w' := by
  obtain ⟨C, hC⟩ : ∃ C, Asd (C = h.cells) := ⟨_, ⟨rfl⟩⟩
  obtain ⟨N, hN⟩ : ∃ N, Asd (w.heap.size = N) := ⟨_, ⟨rfl⟩⟩
  have s1 := x.name
  have s2 := x.link
  have s3 := x.uname
  have s4 := x.gname
  replace x := Asd.mk x
  rw [← hC.out]
  go_enter Tryz.func32, Tryz.ntmps32
  go_upto_region 1 with fail
  obtain ⟨W, hW⟩ : ∃ W, Asd (W = w.alloc (.cells C.toArray 32 (0, 0))) := ⟨_, ⟨rfl⟩⟩
  have b0 := heap_alloc_new w (.cells C.toArray 32 (0, 0))
  have hb : Below w.heap.size w (w.alloc (.cells C.toArray 32 (0, 0))) := (Below.refl _ _).alloc (Nat.le_refl _) _
  rw [← hW.out] at b0 hb
  rw [hN.out] at b0
  rw [← hW.out, hN.out]
  clear hW
  have c1 : W.cell? ⟨N, 1, none⟩ = some (.string h.name) := cell_blk b0 (by rw [hC.out]; rfl)
  have c2 : W.cell? ⟨N, 2, none⟩ = some (.string h.link) := cell_blk b0 (by rw [hC.out]; rfl)
  have c7 : W.cell? ⟨N, 7, none⟩ = some (.string h.uname) := cell_blk b0 (by rw [hC.out]; rfl)
  have c8 : W.cell? ⟨N, 8, none⟩ = some (.string h.gname) := cell_blk b0 (by rw [hC.out]; rfl)
  have c19 : W.cell? ⟨N, 19, none⟩ = some (.slice a n c) := cell_blk b0 (by rw [hC.out, ← x.out.rv]; rfl)
  have hf := Asd.mk (fits4_any B a n c rs W (x.out.rc.below (hb.mono hB)) (Nat.le_trans hB hb.size) x.out.tot x.out.rs)
  have hn : (n : Int) ≤ c := by have := x.out.cap; omega
  replace b0 := Asd.mk b0
  replace hb := Asd.mk hb
  go_wp2_with (go_at_call 53; refine hf.out.mono ?_; rintro e w3 ⟨rfl, k3⟩; have l3 := Asd.mk (hb.out.trans (k3.mono hb.out.size)); clear k3)
  go_ret
  exact ⟨rfl, l3.out⟩
/-- Records as cells. -/
def recCs (rs : List (ByteArray × ByteArray)) : List Value := rs.flatMap fun kv => [.string kv.1, .string kv.2]
theorem recCs_snoc (rs : List (ByteArray × ByteArray)) (kv : ByteArray × ByteArray) : recCs (rs ++ [kv]) = recCs rs ++ [.string kv.1, .string kv.2] := by simp [recCs]
theorem recCs_len (rs : List (ByteArray × ByteArray)) : (recCs rs).length = rs.length * 2 := by
  induction rs with
  | nil => rfl
  | cons a t ih => simp only [recCs, List.flatMap_cons, List.length_append, List.length_cons, List.length_nil] at ih ⊢; omega
theorem recCs_get (rs : List (ByteArray × ByteArray)) : ∀ (j : Nat) kv, rs[j]? = some kv → (recCs rs)[2 * j]? = some (.string kv.1) ∧ (recCs rs)[2 * j + 1]? = some (.string kv.2) := by
  induction rs with
  | nil => intro j kv h; cases h
  | cons a t ih =>
    intro j kv h
    have e : recCs (a :: t) = .string a.1 :: .string a.2 :: recCs t := rfl
    rw [e]
    cases j with
    | zero => cases h; exact ⟨rfl, rfl⟩
    | succ j => exact ih j kv h
theorem recS_of {w : World} {base n : Nat} {v : Value} {rs : List (ByteArray × ByteArray)} (h : w.ownsRow base 119 2 v n (recCs rs)) (hn : rs.length = n) : ∃ ra rc, v = .slice ra n rc ∧ RecS w ra n rs := by
  obtain ⟨h1, ⟨rfl, rfl⟩ | ⟨g, cap, cur, rfl, hg, hh, hc, hm, hsz, ht⟩⟩ := h
  · exact ⟨none, 0, rfl, hn, .inl (List.eq_nil_of_length_eq_zero hn)⟩
  · refine ⟨_, cap, rfl, hn, .inr ⟨g, cur, 119, (0, 0), rfl, hh, fun j kv hj => ?_⟩⟩
    obtain ⟨e1, e2⟩ := recCs_get rs j kv hj
    have hjl : j < rs.length := (List.getElem?_eq_some_iff.1 hj).1
    rw [← ht, List.getElem?_take_of_lt (by omega)] at e1
    rw [← ht, List.getElem?_take_of_lt (by omega)] at e2
    exact ⟨by simpa using e1, by simpa using e2⟩
theorem info119 : (Tryz.prog.info? 119).map (fun i => (i.zero, i.size, i.bytes)) = some (some (.agg #[.string ⟨#[]⟩, .string ⟨#[]⟩]), 2, 32) := by kernel_rfl
theorem two_new (w : World) (a b : Value) (T : TypeId) : ∀ (j : Nat) u, [a, b][j]? = some u → (w.alloc (.cells #[a, b] T (0, 0))).cell? ((⟨w.heap.size, 0, none⟩ : Addr).add j) = some u := by
  intro j u hj
  have e : (⟨w.heap.size, 0, none⟩ : Addr).add j = ⟨w.heap.size, j, none⟩ := by unfold Addr.add; split <;> simp_all
  rw [e]
  exact cell_blk (C := [a, b]) (heap_alloc_new w _) hj
set_option maxRecDepth 100000 in
theorem records_any (B : Nat) (a : Option Addr) (n c : Nat) (rs : List (ByteArray × ByteArray)) (w : World) (hr : RecI B w a n rs) (hB : B ≤ w.heap.size) (hT : totR rs ≤ 1048576 * 24) :
    Calls Tryz.prog 29 #[.slice a n c] w fun e w' => ∃ ra rc, e = .returned (.slice ra n rc) ∧ RecS w' ra n rs ∧ Below w.heap.size w w' := by
  have hn : n ≤ 1048576 := by have := totR_len rs; have := hr.1; omega
  have hlen := Asd.mk hr.1
  obtain ⟨i0, hi, hz0, hz1, hz2⟩ := info_parts info119
  replace hr := Asd.mk hr
  replace hT := Asd.mk hT
  go_enter Tryz.func29, Tryz.ntmps29
  go_wp2
  go_loopw [3, 8] (fun v i wr => ∃ k : Nat, k ≤ n ∧ i = .int .i64 k ∧ wr.ownsRow w.heap.size 119 2 v k (recCs (rs.take k)) ∧ Below w.heap.size w wr) (fun _ i _ => n - (intOf i).toNat)
  case atStart => exact ⟨0, by omega, rfl, World.ownsRow_nil _ _ _ _, Below.refl _ _⟩
  case round =>
    obtain ⟨k, hk, rfl, hown, hb⟩ := hrel
    by_cases hlt : k < n
    · obtain ⟨b, o, kv, ha, hbB, hkv, d1, d2⟩ := (hr.out.below (hb.mono hB)).get k hlt
      have hst : Asd (recCs (rs.take (k + 1)) = recCs (rs.take k) ++ [.string kv.1, .string kv.2]) := ⟨by rw [List.take_add_one, hkv]; exact recCs_snoc _ _⟩
      clear hkv
      replace hb := Asd.mk hb
      replace hown := Asd.mk hown
      rw [ha]
      go_wp2_with (at_builtin; refine wpList_append_own _ rfl _ _ 38 rfl w.heap.size 119 i0 (.agg #[.string ⟨#[]⟩, .string ⟨#[]⟩]) 2 32 Tryz.underlying38 hi hz0 hz1 hz2 rfl (by decide) _ _ _ rfl ((hown.out.alloc _).alloc _) ⟨wr.heap.size + 1, 0, none⟩ 1 1 [.string kv.1, .string kv.2] rfl rfl (by have := two_new (wr.alloc (.cells #[.string kv.1, .string kv.2] 115 (0, 0))) (.string kv.1) (.string kv.2) 119; simpa using this) ?_ ?_ ?_ ?_ ?_; rotate_right; intro v' w3 hown' hgrow3 hnil3)
      case roundEnd =>
        have hg2 : wr.grownBy w3 u3.ownBlock := ((World.grownBy_alloc wr _ _).trans (World.grownBy_alloc _ _ _)).trans hgrow3
        refine ⟨⟨k + 1, by omega, by go_num, ?_, ?_⟩, by simp [intOf]; omega⟩
        · rw [hst.out]; exact hown'
        · exact hb.out.grown hg2 hb.out.size (fun j hj => (hown.out.lt j hj).1)
      · intro u hu; simp at hu; rcases hu with rfl | rfl <;> rfl
      · unfold maxLen; omega
      · omega
      · have := hb.out.size; simp; omega
    · have htk : Asd (rs.take k = rs) := ⟨List.take_of_length_le (by rw [hlen.out]; omega)⟩
      have hkn : k = n := by omega
      subst hkn
      replace hown := Asd.mk hown
      replace hb := Asd.mk hb
      go_wp2
      go_ret
      obtain ⟨ra, rc, hv, hs⟩ := recS_of (by have := hown.out; rw [htk.out] at this; exact this) hlen.out
      exact ⟨ra, rc, by rw [hv]; rfl, hs, hb.out⟩
/-- A header that came in, as the specification has it, its records in another place. -/
def InH.sp (h : InH) (ra : Option Addr) (rn rc : Nat) : SpH := ⟨h.tf, h.name, h.link, h.size, h.mode, h.uid, h.gid, h.uname, h.gname, h.ms, h.mn, h.ha, h.hc, h.acs, h.acn, h.cs, h.cn, h.maj, h.min, ra, rn, rc, h.fmt⟩
theorem RecS.setRow {w : World} {ra : Option Addr} {rn g0 : Nat} {rs : List (ByteArray × ByteArray)} {cs : Array Value} (h : RecS w ra rn rs) (hz : w.heap[g0]? = some (.cells z40 40 (0, 0))) : RecS (w.setRow g0 cs) ra rn rs := by
  obtain ⟨h1, h2 | ⟨g, C, T, fr, h2, h3, h4⟩⟩ := h
  · exact ⟨h1, .inl h2⟩
  · cases rs with
    | nil => exact ⟨h1, .inl rfl⟩
    | cons kv t =>
      refine ⟨h1, .inr ⟨g, C, T, fr, h2, ?_, h4⟩⟩
      have hne : g ≠ g0 := by
        rintro rfl
        rw [h3] at hz
        have e : C = z40 := by simpa using (Obj.cells.inj (Option.some.inj hz)).1
        have := (h4 0 kv rfl).1
        rw [e] at this
        cases this
      rw [setRow_other _ _ _ _ hne]
      exact h3
set_option maxRecDepth 100000 in
set_option maxHeartbeats 4000000 in
theorem plain_any (B : Nat) (h : InH) (a : Option Addr) (n c : Nat) (rs : List (ByteArray × ByteArray)) (w : World) (x : HdI B w h a n c rs) (hB : B ≤ w.heap.size) :
    Calls Tryz.prog 8 #[.agg h.cells.toArray] w fun e w' => ∃ ra rc, e = .returned (.agg (h.sp ra n rc).cells.toArray) ∧ RecS w' ra n rs ∧ Below w.heap.size w w' := by
  obtain ⟨C, hC⟩ : ∃ C, Asd (C = h.cells) := ⟨_, ⟨rfl⟩⟩
  obtain ⟨N, hN⟩ : ∃ N, Asd (w.heap.size = N) := ⟨_, ⟨rfl⟩⟩
  have hrv := Asd.mk x.rv
  have hrc : Asd (∀ W, Below w.heap.size w W → Calls Tryz.prog 29 #[.slice a n c] W fun e w' => ∃ ra rc, e = .returned (.slice ra n rc) ∧ RecS w' ra n rs ∧ Below W.heap.size W w') :=
    ⟨fun W hb => records_any B a n c rs W (x.rc.below (hb.mono hB)) (Nat.le_trans hB hb.size) x.tot⟩
  replace x := Asd.mk x
  rw [← hC.out]
  go_enter Tryz.func8, Tryz.ntmps8
  go_upto_region 1 with fail
  obtain ⟨W, hW⟩ : ∃ W, Asd (W = (w.alloc (.cells C.toArray 32 (0, 0))).alloc (.cells #[.int .u8 0, .string ⟨#[]⟩, .string ⟨#[]⟩, .int .i64 0, .int .i64 0, .int .i64 0, .int .i64 0, .string ⟨#[]⟩, .string ⟨#[]⟩, .int .i64 0, .int .i64 0, .bool false, .bool false, .int .i64 0, .int .i64 0, .int .i64 0, .int .i64 0, .int .i64 0, .int .i64 0, .slice none 0 0, .int .i64 0] 40 (0, 0))) := ⟨_, ⟨rfl⟩⟩
  obtain ⟨b0, b1, hb⟩ := alloc2 w (.cells C.toArray 32 (0, 0)) (.cells z40 40 (0, 0)) N hN.out
  have hW' : W = (w.alloc (.cells C.toArray 32 (0, 0))).alloc (.cells z40 40 (0, 0)) := hW.out
  rw [← hW'] at b0 b1 hb
  rw [← hW.out, hN.out]
  clear hW hW'
  have c0 : W.cell? ⟨N, 0, none⟩ = some (.int .u8 h.tf.toNat) := cell_blk b0 (by rw [hC.out]; first | rfl | (rw [← hrv.out]; rfl))
  have c1 : W.cell? ⟨N, 1, none⟩ = some (.string h.name) := cell_blk b0 (by rw [hC.out]; first | rfl | (rw [← hrv.out]; rfl))
  have c2 : W.cell? ⟨N, 2, none⟩ = some (.string h.link) := cell_blk b0 (by rw [hC.out]; first | rfl | (rw [← hrv.out]; rfl))
  have c3 : W.cell? ⟨N, 3, none⟩ = some (.int .i64 h.size) := cell_blk b0 (by rw [hC.out]; first | rfl | (rw [← hrv.out]; rfl))
  have c4 : W.cell? ⟨N, 4, none⟩ = some (.int .i64 h.mode) := cell_blk b0 (by rw [hC.out]; first | rfl | (rw [← hrv.out]; rfl))
  have c5 : W.cell? ⟨N, 5, none⟩ = some (.int .i64 h.uid) := cell_blk b0 (by rw [hC.out]; first | rfl | (rw [← hrv.out]; rfl))
  have c6 : W.cell? ⟨N, 6, none⟩ = some (.int .i64 h.gid) := cell_blk b0 (by rw [hC.out]; first | rfl | (rw [← hrv.out]; rfl))
  have c7 : W.cell? ⟨N, 7, none⟩ = some (.string h.uname) := cell_blk b0 (by rw [hC.out]; first | rfl | (rw [← hrv.out]; rfl))
  have c8 : W.cell? ⟨N, 8, none⟩ = some (.string h.gname) := cell_blk b0 (by rw [hC.out]; first | rfl | (rw [← hrv.out]; rfl))
  have c9 : W.cell? ⟨N, 9, none⟩ = some (.int .i64 h.ms) := cell_blk b0 (by rw [hC.out]; first | rfl | (rw [← hrv.out]; rfl))
  have c10 : W.cell? ⟨N, 10, none⟩ = some (.int .i64 h.mn) := cell_blk b0 (by rw [hC.out]; first | rfl | (rw [← hrv.out]; rfl))
  have c11 : W.cell? ⟨N, 11, none⟩ = some (.bool h.ha) := cell_blk b0 (by rw [hC.out]; first | rfl | (rw [← hrv.out]; rfl))
  have c12 : W.cell? ⟨N, 12, none⟩ = some (.int .i64 h.acs) := cell_blk b0 (by rw [hC.out]; first | rfl | (rw [← hrv.out]; rfl))
  have c13 : W.cell? ⟨N, 13, none⟩ = some (.int .i64 h.acn) := cell_blk b0 (by rw [hC.out]; first | rfl | (rw [← hrv.out]; rfl))
  have c14 : W.cell? ⟨N, 14, none⟩ = some (.bool h.hc) := cell_blk b0 (by rw [hC.out]; first | rfl | (rw [← hrv.out]; rfl))
  have c15 : W.cell? ⟨N, 15, none⟩ = some (.int .i64 h.cs) := cell_blk b0 (by rw [hC.out]; first | rfl | (rw [← hrv.out]; rfl))
  have c16 : W.cell? ⟨N, 16, none⟩ = some (.int .i64 h.cn) := cell_blk b0 (by rw [hC.out]; first | rfl | (rw [← hrv.out]; rfl))
  have c17 : W.cell? ⟨N, 17, none⟩ = some (.int .i64 h.maj) := cell_blk b0 (by rw [hC.out]; first | rfl | (rw [← hrv.out]; rfl))
  have c18 : W.cell? ⟨N, 18, none⟩ = some (.int .i64 h.min) := cell_blk b0 (by rw [hC.out]; first | rfl | (rw [← hrv.out]; rfl))
  have c19 : W.cell? ⟨N, 19, none⟩ = some (.slice a n c) := cell_blk b0 (by rw [hC.out]; first | rfl | (rw [← hrv.out]; rfl))
  have c20 : W.cell? ⟨N, 20, none⟩ = some (.int .i64 h.fmt) := cell_blk b0 (by rw [hC.out]; first | rfl | (rw [← hrv.out]; rfl))
  replace b0 := Asd.mk b0
  replace b1 := Asd.mk b1
  replace hb := Asd.mk hb
  go_wp2_with fail
  refine wp_region_held_drew (S := (fun w' => w'.cell? ⟨N, 0, none⟩ = some (.int .u8 h.tf.toNat) ∧ w'.cell? ⟨N, 1, none⟩ = some (.string h.name) ∧ w'.cell? ⟨N, 2, none⟩ = some (.string h.link) ∧ w'.cell? ⟨N, 3, none⟩ = some (.int .i64 h.size) ∧ w'.cell? ⟨N, 4, none⟩ = some (.int .i64 h.mode) ∧ w'.cell? ⟨N, 5, none⟩ = some (.int .i64 h.uid) ∧ w'.cell? ⟨N, 6, none⟩ = some (.int .i64 h.gid) ∧ w'.cell? ⟨N, 7, none⟩ = some (.string h.uname) ∧ w'.cell? ⟨N, 8, none⟩ = some (.string h.gname) ∧ w'.cell? ⟨N, 9, none⟩ = some (.int .i64 h.ms) ∧ w'.cell? ⟨N, 10, none⟩ = some (.int .i64 h.mn) ∧ w'.cell? ⟨N, 11, none⟩ = some (.bool h.ha) ∧ w'.cell? ⟨N, 12, none⟩ = some (.int .i64 h.acs) ∧ w'.cell? ⟨N, 13, none⟩ = some (.int .i64 h.acn) ∧ w'.cell? ⟨N, 14, none⟩ = some (.bool h.hc) ∧ w'.cell? ⟨N, 15, none⟩ = some (.int .i64 h.cs) ∧ w'.cell? ⟨N, 16, none⟩ = some (.int .i64 h.cn) ∧ w'.cell? ⟨N, 17, none⟩ = some (.int .i64 h.maj) ∧ w'.cell? ⟨N, 18, none⟩ = some (.int .i64 h.min) ∧ w'.cell? ⟨N, 19, none⟩ = some (.slice a n c) ∧ w'.cell? ⟨N, 20, none⟩ = some (.int .i64 h.fmt))) (by kernel_rfl) ?_ (fun hHeld => ?_)
  · exact ⟨c0, c1, c2, c3, c4, c5, c6, c7, c8, c9, c10, c11, c12, c13, c14, c15, c16, c17, c18, c19, c20⟩
  refine takeV (i := 0) (v := ?_) rfl (by kernel_rfl) (fun _ _ _ h => h) (by rfl) ?_ (by assumption) ?_
  rotate_left
  · (intro w hSw; (try dsimp only at hSw); go_simp); all_goals (with_reducible rfl)
  try simp only [Act.put, List.setIfInBounds_toArray, List.set_cons_zero, List.set_cons_succ]
  refine takeV (i := 1) (v := ?_) rfl (by kernel_rfl) (fun _ _ _ h => h) (by rfl) ?_ (by assumption) ?_
  rotate_left
  · (intro w hSw; (try dsimp only at hSw); go_simp); all_goals (with_reducible rfl)
  try simp only [Act.put, List.setIfInBounds_toArray, List.set_cons_zero, List.set_cons_succ]
  refine takeV (i := 2) (v := ?_) rfl (by kernel_rfl) (fun _ _ _ h => h) (by rfl) ?_ (by assumption) ?_
  rotate_left
  · (intro w hSw; (try dsimp only at hSw); go_simp); all_goals (with_reducible rfl)
  try simp only [Act.put, List.setIfInBounds_toArray, List.set_cons_zero, List.set_cons_succ]
  refine takeV (i := 3) (v := ?_) rfl (by kernel_rfl) (fun _ _ _ h => h) (by rfl) ?_ (by assumption) ?_
  rotate_left
  · (intro w hSw; (try dsimp only at hSw); go_simp); all_goals (with_reducible rfl)
  try simp only [Act.put, List.setIfInBounds_toArray, List.set_cons_zero, List.set_cons_succ]
  refine takeV (i := 4) (v := ?_) rfl (by kernel_rfl) (fun _ _ _ h => h) (by rfl) ?_ (by assumption) ?_
  rotate_left
  · (intro w hSw; (try dsimp only at hSw); go_simp); all_goals (with_reducible rfl)
  try simp only [Act.put, List.setIfInBounds_toArray, List.set_cons_zero, List.set_cons_succ]
  refine takeV (i := 5) (v := ?_) rfl (by kernel_rfl) (fun _ _ _ h => h) (by rfl) ?_ (by assumption) ?_
  rotate_left
  · (intro w hSw; (try dsimp only at hSw); go_simp); all_goals (with_reducible rfl)
  try simp only [Act.put, List.setIfInBounds_toArray, List.set_cons_zero, List.set_cons_succ]
  refine takeV (i := 6) (v := ?_) rfl (by kernel_rfl) (fun _ _ _ h => h) (by rfl) ?_ (by assumption) ?_
  rotate_left
  · (intro w hSw; (try dsimp only at hSw); go_simp); all_goals (with_reducible rfl)
  try simp only [Act.put, List.setIfInBounds_toArray, List.set_cons_zero, List.set_cons_succ]
  refine takeV (i := 7) (v := ?_) rfl (by kernel_rfl) (fun _ _ _ h => h) (by rfl) ?_ (by assumption) ?_
  rotate_left
  · (intro w hSw; (try dsimp only at hSw); go_simp); all_goals (with_reducible rfl)
  try simp only [Act.put, List.setIfInBounds_toArray, List.set_cons_zero, List.set_cons_succ]
  refine takeV (i := 8) (v := ?_) rfl (by kernel_rfl) (fun _ _ _ h => h) (by rfl) ?_ (by assumption) ?_
  rotate_left
  · (intro w hSw; (try dsimp only at hSw); go_simp); all_goals (with_reducible rfl)
  try simp only [Act.put, List.setIfInBounds_toArray, List.set_cons_zero, List.set_cons_succ]
  refine takeV (i := 9) (v := ?_) rfl (by kernel_rfl) (fun _ _ _ h => h) (by rfl) ?_ (by assumption) ?_
  rotate_left
  · (intro w hSw; (try dsimp only at hSw); go_simp); all_goals (with_reducible rfl)
  try simp only [Act.put, List.setIfInBounds_toArray, List.set_cons_zero, List.set_cons_succ]
  refine takeV (i := 10) (v := ?_) rfl (by kernel_rfl) (fun _ _ _ h => h) (by rfl) ?_ (by assumption) ?_
  rotate_left
  · (intro w hSw; (try dsimp only at hSw); go_simp); all_goals (with_reducible rfl)
  try simp only [Act.put, List.setIfInBounds_toArray, List.set_cons_zero, List.set_cons_succ]
  refine takeV (i := 11) (v := ?_) rfl (by kernel_rfl) (fun _ _ _ h => h) (by rfl) ?_ (by assumption) ?_
  rotate_left
  · (intro w hSw; (try dsimp only at hSw); go_simp); all_goals (with_reducible rfl)
  try simp only [Act.put, List.setIfInBounds_toArray, List.set_cons_zero, List.set_cons_succ]
  refine takeV (i := 12) (v := ?_) rfl (by kernel_rfl) (fun _ _ _ h => h) (by rfl) ?_ (by assumption) ?_
  rotate_left
  · (intro w hSw; (try dsimp only at hSw); go_simp); all_goals (with_reducible rfl)
  try simp only [Act.put, List.setIfInBounds_toArray, List.set_cons_zero, List.set_cons_succ]
  refine takeV (i := 13) (v := ?_) rfl (by kernel_rfl) (fun _ _ _ h => h) (by rfl) ?_ (by assumption) ?_
  rotate_left
  · (intro w hSw; (try dsimp only at hSw); go_simp); all_goals (with_reducible rfl)
  try simp only [Act.put, List.setIfInBounds_toArray, List.set_cons_zero, List.set_cons_succ]
  refine takeV (i := 14) (v := ?_) rfl (by kernel_rfl) (fun _ _ _ h => h) (by rfl) ?_ (by assumption) ?_
  rotate_left
  · (intro w hSw; (try dsimp only at hSw); go_simp); all_goals (with_reducible rfl)
  try simp only [Act.put, List.setIfInBounds_toArray, List.set_cons_zero, List.set_cons_succ]
  refine takeV (i := 15) (v := ?_) rfl (by kernel_rfl) (fun _ _ _ h => h) (by rfl) ?_ (by assumption) ?_
  rotate_left
  · (intro w hSw; (try dsimp only at hSw); go_simp); all_goals (with_reducible rfl)
  try simp only [Act.put, List.setIfInBounds_toArray, List.set_cons_zero, List.set_cons_succ]
  refine takeV (i := 16) (v := ?_) rfl (by kernel_rfl) (fun _ _ _ h => h) (by rfl) ?_ (by assumption) ?_
  rotate_left
  · (intro w hSw; (try dsimp only at hSw); go_simp); all_goals (with_reducible rfl)
  try simp only [Act.put, List.setIfInBounds_toArray, List.set_cons_zero, List.set_cons_succ]
  refine takeV (i := 17) (v := ?_) rfl (by kernel_rfl) (fun _ _ _ h => h) (by rfl) ?_ (by assumption) ?_
  rotate_left
  · (intro w hSw; (try dsimp only at hSw); go_simp); all_goals (with_reducible rfl)
  try simp only [Act.put, List.setIfInBounds_toArray, List.set_cons_zero, List.set_cons_succ]
  refine takeV (i := 18) (v := ?_) rfl (by kernel_rfl) (fun _ _ _ h => h) (by rfl) ?_ (by assumption) ?_
  rotate_left
  · (intro w hSw; (try dsimp only at hSw); go_simp); all_goals (with_reducible rfl)
  try simp only [Act.put, List.setIfInBounds_toArray, List.set_cons_zero, List.set_cons_succ]
  refine takeV (i := 19) (v := ?_) rfl (by kernel_rfl) (fun _ _ _ h => h) (by rfl) ?_ (by assumption) ?_
  rotate_left
  · (intro w hSw; (try dsimp only at hSw); go_simp); all_goals (with_reducible rfl)
  try simp only [Act.put, List.setIfInBounds_toArray, List.set_cons_zero, List.set_cons_succ]
  refine takeV (i := 20) (v := ?_) rfl (by kernel_rfl) (fun _ _ _ h => h) (by rfl) ?_ (by assumption) ?_
  rotate_left
  · (intro w hSw; (try dsimp only at hSw); go_simp); all_goals (with_reducible rfl)
  try simp only [Act.put, List.setIfInBounds_toArray, List.set_cons_zero, List.set_cons_succ]
  refine takeV (i := 21) (v := ?_) rfl (by kernel_rfl) (fun _ _ _ h => h) (by rfl) ?_ (by assumption) ?_
  rotate_left
  · (intro w hSw; (try dsimp only at hSw); go_simp); all_goals (with_reducible rfl)
  try simp only [Act.put, List.setIfInBounds_toArray, List.set_cons_zero, List.set_cons_succ]
  refine takeV (i := 22) (v := ?_) rfl (by kernel_rfl) (fun _ _ _ h => h) (by rfl) ?_ (by assumption) ?_
  rotate_left
  · (intro w hSw; (try dsimp only at hSw); go_simp); all_goals (with_reducible rfl)
  try simp only [Act.put, List.setIfInBounds_toArray, List.set_cons_zero, List.set_cons_succ]
  refine takeV (i := 23) (v := ?_) rfl (by kernel_rfl) (fun _ _ _ h => h) (by rfl) ?_ (by assumption) ?_
  rotate_left
  · (intro w hSw; (try dsimp only at hSw); go_simp); all_goals (with_reducible rfl)
  try simp only [Act.put, List.setIfInBounds_toArray, List.set_cons_zero, List.set_cons_succ]
  refine takeV (i := 24) (v := ?_) rfl (by kernel_rfl) (fun _ _ _ h => h) (by rfl) ?_ (by assumption) ?_
  rotate_left
  · (intro w hSw; (try dsimp only at hSw); go_simp); all_goals (with_reducible rfl)
  try simp only [Act.put, List.setIfInBounds_toArray, List.set_cons_zero, List.set_cons_succ]
  refine takeV (i := 25) (v := ?_) rfl (by kernel_rfl) (fun _ _ _ h => h) (by rfl) ?_ (by assumption) ?_
  rotate_left
  · (intro w hSw; (try dsimp only at hSw); go_simp); all_goals (with_reducible rfl)
  try simp only [Act.put, List.setIfInBounds_toArray, List.set_cons_zero, List.set_cons_succ]
  refine takeV (i := 26) (v := ?_) rfl (by kernel_rfl) (fun _ _ _ h => h) (by rfl) ?_ (by assumption) ?_
  rotate_left
  · (intro w hSw; (try dsimp only at hSw); go_simp); all_goals (with_reducible rfl)
  try simp only [Act.put, List.setIfInBounds_toArray, List.set_cons_zero, List.set_cons_succ]
  refine takeV (i := 27) (v := ?_) rfl (by kernel_rfl) (fun _ _ _ h => h) (by rfl) ?_ (by assumption) ?_
  rotate_left
  · (intro w hSw; (try dsimp only at hSw); go_simp); all_goals (with_reducible rfl)
  try simp only [Act.put, List.setIfInBounds_toArray, List.set_cons_zero, List.set_cons_succ]
  refine takeV (i := 28) (v := ?_) rfl (by kernel_rfl) (fun _ _ _ h => h) (by rfl) ?_ (by assumption) ?_
  rotate_left
  · (intro w hSw; (try dsimp only at hSw); go_simp); all_goals (with_reducible rfl)
  try simp only [Act.put, List.setIfInBounds_toArray, List.set_cons_zero, List.set_cons_succ]
  refine takeV (i := 29) (v := ?_) rfl (by kernel_rfl) (fun _ _ _ h => h) (by rfl) ?_ (by assumption) ?_
  rotate_left
  · (intro w hSw; (try dsimp only at hSw); go_simp); all_goals (with_reducible rfl)
  try simp only [Act.put, List.setIfInBounds_toArray, List.set_cons_zero, List.set_cons_succ]
  refine takeV (i := 30) (v := ?_) rfl (by kernel_rfl) (fun _ _ _ h => h) (by rfl) ?_ (by assumption) ?_
  rotate_left
  · (intro w hSw; (try dsimp only at hSw); go_simp); all_goals (with_reducible rfl)
  try simp only [Act.put, List.setIfInBounds_toArray, List.set_cons_zero, List.set_cons_succ]
  refine takeV (i := 31) (v := ?_) rfl (by kernel_rfl) (fun _ _ _ h => h) (by rfl) ?_ (by assumption) ?_
  rotate_left
  · (intro w hSw; (try dsimp only at hSw); go_simp); all_goals (with_reducible rfl)
  try simp only [Act.put, List.setIfInBounds_toArray, List.set_cons_zero, List.set_cons_succ]
  refine takeV (i := 32) (v := ?_) rfl (by kernel_rfl) (fun _ _ _ h => h) (by rfl) ?_ (by assumption) ?_
  rotate_left
  · (intro w hSw; (try dsimp only at hSw); go_simp); all_goals (with_reducible rfl)
  try simp only [Act.put, List.setIfInBounds_toArray, List.set_cons_zero, List.set_cons_succ]
  refine takeV (i := 33) (v := ?_) rfl (by kernel_rfl) (fun _ _ _ h => h) (by rfl) ?_ (by assumption) ?_
  rotate_left
  · (intro w hSw; (try dsimp only at hSw); go_simp); all_goals (with_reducible rfl)
  try simp only [Act.put, List.setIfInBounds_toArray, List.set_cons_zero, List.set_cons_succ]
  refine takeV (i := 35) (v := ?_) rfl (by kernel_rfl) (fun _ _ _ h => h) (by rfl) ?_ (by assumption) ?_
  rotate_left
  · (intro w hSw; (try dsimp only at hSw); go_simp); all_goals (with_reducible rfl)
  try simp only [Act.put, List.setIfInBounds_toArray, List.set_cons_zero, List.set_cons_succ]
  refine takeV (i := 36) (v := ?_) rfl (by kernel_rfl) (fun _ _ _ h => h) (by rfl) ?_ (by assumption) ?_
  rotate_left
  · (intro w hSw; (try dsimp only at hSw); go_simp); all_goals (with_reducible rfl)
  try simp only [Act.put, List.setIfInBounds_toArray, List.set_cons_zero, List.set_cons_succ]
  refine wpAnyH_ready (rs := [34]) (by kernel_rfl) (by simp) ?_
  refine AllReadyH.cons (o := { dst := some 37, op := Op.call { callee := Callee.value (Operand.func 29), args := #[Operand.tmp 36], argTypes := #[30] }, type := 38, pos := "laws.go:26", after := #[{ on := 33, ground := Ground.data }], guard := none }) rfl (fun K hK => ?_) AllReadyH.nil
  go_simp
  refine (hrc.out _ (Below.drew hb.out)).mono ?_
  rintro e w5 ⟨ra, rc, rfl, hrs, k5⟩
  have q5 := blk_below (w := W.drew) b0.out k5
  have r5 := blk_below (w := W.drew) b1.out k5
  have l5 := (Below.drew hb.out).trans (k5.mono hb.out.size)
  have z0 : w5.cell? ⟨N, 0, none⟩ = some (.int .u8 h.tf.toNat) := cell_blk q5 (by rw [hC.out]; first | rfl | (rw [← hrv.out]; rfl))
  have z1 : w5.cell? ⟨N, 1, none⟩ = some (.string h.name) := cell_blk q5 (by rw [hC.out]; first | rfl | (rw [← hrv.out]; rfl))
  have z2 : w5.cell? ⟨N, 2, none⟩ = some (.string h.link) := cell_blk q5 (by rw [hC.out]; first | rfl | (rw [← hrv.out]; rfl))
  have z3 : w5.cell? ⟨N, 3, none⟩ = some (.int .i64 h.size) := cell_blk q5 (by rw [hC.out]; first | rfl | (rw [← hrv.out]; rfl))
  have z4 : w5.cell? ⟨N, 4, none⟩ = some (.int .i64 h.mode) := cell_blk q5 (by rw [hC.out]; first | rfl | (rw [← hrv.out]; rfl))
  have z5 : w5.cell? ⟨N, 5, none⟩ = some (.int .i64 h.uid) := cell_blk q5 (by rw [hC.out]; first | rfl | (rw [← hrv.out]; rfl))
  have z6 : w5.cell? ⟨N, 6, none⟩ = some (.int .i64 h.gid) := cell_blk q5 (by rw [hC.out]; first | rfl | (rw [← hrv.out]; rfl))
  have z7 : w5.cell? ⟨N, 7, none⟩ = some (.string h.uname) := cell_blk q5 (by rw [hC.out]; first | rfl | (rw [← hrv.out]; rfl))
  have z8 : w5.cell? ⟨N, 8, none⟩ = some (.string h.gname) := cell_blk q5 (by rw [hC.out]; first | rfl | (rw [← hrv.out]; rfl))
  have z9 : w5.cell? ⟨N, 9, none⟩ = some (.int .i64 h.ms) := cell_blk q5 (by rw [hC.out]; first | rfl | (rw [← hrv.out]; rfl))
  have z10 : w5.cell? ⟨N, 10, none⟩ = some (.int .i64 h.mn) := cell_blk q5 (by rw [hC.out]; first | rfl | (rw [← hrv.out]; rfl))
  have z11 : w5.cell? ⟨N, 11, none⟩ = some (.bool h.ha) := cell_blk q5 (by rw [hC.out]; first | rfl | (rw [← hrv.out]; rfl))
  have z12 : w5.cell? ⟨N, 12, none⟩ = some (.int .i64 h.acs) := cell_blk q5 (by rw [hC.out]; first | rfl | (rw [← hrv.out]; rfl))
  have z13 : w5.cell? ⟨N, 13, none⟩ = some (.int .i64 h.acn) := cell_blk q5 (by rw [hC.out]; first | rfl | (rw [← hrv.out]; rfl))
  have z14 : w5.cell? ⟨N, 14, none⟩ = some (.bool h.hc) := cell_blk q5 (by rw [hC.out]; first | rfl | (rw [← hrv.out]; rfl))
  have z15 : w5.cell? ⟨N, 15, none⟩ = some (.int .i64 h.cs) := cell_blk q5 (by rw [hC.out]; first | rfl | (rw [← hrv.out]; rfl))
  have z16 : w5.cell? ⟨N, 16, none⟩ = some (.int .i64 h.cn) := cell_blk q5 (by rw [hC.out]; first | rfl | (rw [← hrv.out]; rfl))
  have z17 : w5.cell? ⟨N, 17, none⟩ = some (.int .i64 h.maj) := cell_blk q5 (by rw [hC.out]; first | rfl | (rw [← hrv.out]; rfl))
  have z18 : w5.cell? ⟨N, 18, none⟩ = some (.int .i64 h.min) := cell_blk q5 (by rw [hC.out]; first | rfl | (rw [← hrv.out]; rfl))
  have z19 : w5.cell? ⟨N, 19, none⟩ = some (.slice a n c) := cell_blk q5 (by rw [hC.out]; first | rfl | (rw [← hrv.out]; rfl))
  have z20 : w5.cell? ⟨N, 20, none⟩ = some (.int .i64 h.fmt) := cell_blk q5 (by rw [hC.out]; first | rfl | (rw [← hrv.out]; rfl))
  refine hK.out _ _ ?_ (fun hHeld => ?_)
  · exact ⟨z0, z1, z2, z3, z4, z5, z6, z7, z8, z9, z10, z11, z12, z13, z14, z15, z16, z17, z18, z19, z20⟩
  clear hK K
  try simp only [Act.put, List.setIfInBounds_toArray, List.set_cons_zero, List.set_cons_succ]
  refine takeV (i := 37) (v := ?_) rfl (by kernel_rfl) (fun _ _ _ h => h) (by rfl) ?_ (by assumption) ?_
  rotate_left
  · (intro w hSw; (try dsimp only at hSw); go_simp); all_goals (with_reducible rfl)
  try simp only [Act.put, List.setIfInBounds_toArray, List.set_cons_zero, List.set_cons_succ]
  refine wpAnyH_ready (rs := [38]) (by kernel_rfl) (by simp) ?_
  refine AllReadyH.cons (o := { dst := none, op := Op.store 40 (Operand.tmp 2) (Operand.tmp 40), type := 0, pos := "laws.go:23", after := #[{ on := 37, ground := Ground.data }, { on := 34, ground := Ground.chain }, { on := 0, ground := Ground.phase }, { on := 1, ground := Ground.phase }, { on := 2, ground := Ground.phase }, { on := 3, ground := Ground.phase }, { on := 4, ground := Ground.phase }, { on := 5, ground := Ground.phase }, { on := 6, ground := Ground.phase }, { on := 7, ground := Ground.phase }, { on := 8, ground := Ground.phase }, { on := 9, ground := Ground.phase }, { on := 10, ground := Ground.phase }, { on := 11, ground := Ground.phase }, { on := 12, ground := Ground.phase }, { on := 13, ground := Ground.phase }, { on := 14, ground := Ground.phase }, { on := 15, ground := Ground.phase }, { on := 16, ground := Ground.phase }, { on := 17, ground := Ground.phase }, { on := 18, ground := Ground.phase }, { on := 19, ground := Ground.phase }, { on := 20, ground := Ground.phase }, { on := 21, ground := Ground.phase }, { on := 22, ground := Ground.phase }, { on := 23, ground := Ground.phase }, { on := 24, ground := Ground.phase }, { on := 25, ground := Ground.phase }, { on := 26, ground := Ground.phase }, { on := 27, ground := Ground.phase }, { on := 28, ground := Ground.phase }, { on := 29, ground := Ground.phase }, { on := 30, ground := Ground.phase }, { on := 31, ground := Ground.phase }, { on := 32, ground := Ground.phase }, { on := 33, ground := Ground.phase }, { on := 34, ground := Ground.phase }, { on := 35, ground := Ground.phase }, { on := 36, ground := Ground.phase }, { on := 37, ground := Ground.phase }], guard := none }) rfl (fun K hK => ?_) AllReadyH.nil
  rw [if_pos (by rfl)]
  refine wp_store_row 40 (.tmp 2) (.tmp 40) rfl (N + 1) (h.sp ra n rc).cells.toArray rfl rfl 40 _ r5 (by rw [info40]; rfl) (by rw [zero40]; rfl) (h.sp ra n rc).oneA ?_
  refine hK.out _ _ ?_ (fun hHeld => ?_)
  · exact ⟨(by rw [cell_setRow_other _ _ _ _ (by show N ≠ N + 1; omega)]; exact z0), (by rw [cell_setRow_other _ _ _ _ (by show N ≠ N + 1; omega)]; exact z1), (by rw [cell_setRow_other _ _ _ _ (by show N ≠ N + 1; omega)]; exact z2), (by rw [cell_setRow_other _ _ _ _ (by show N ≠ N + 1; omega)]; exact z3), (by rw [cell_setRow_other _ _ _ _ (by show N ≠ N + 1; omega)]; exact z4), (by rw [cell_setRow_other _ _ _ _ (by show N ≠ N + 1; omega)]; exact z5), (by rw [cell_setRow_other _ _ _ _ (by show N ≠ N + 1; omega)]; exact z6), (by rw [cell_setRow_other _ _ _ _ (by show N ≠ N + 1; omega)]; exact z7), (by rw [cell_setRow_other _ _ _ _ (by show N ≠ N + 1; omega)]; exact z8), (by rw [cell_setRow_other _ _ _ _ (by show N ≠ N + 1; omega)]; exact z9), (by rw [cell_setRow_other _ _ _ _ (by show N ≠ N + 1; omega)]; exact z10), (by rw [cell_setRow_other _ _ _ _ (by show N ≠ N + 1; omega)]; exact z11), (by rw [cell_setRow_other _ _ _ _ (by show N ≠ N + 1; omega)]; exact z12), (by rw [cell_setRow_other _ _ _ _ (by show N ≠ N + 1; omega)]; exact z13), (by rw [cell_setRow_other _ _ _ _ (by show N ≠ N + 1; omega)]; exact z14), (by rw [cell_setRow_other _ _ _ _ (by show N ≠ N + 1; omega)]; exact z15), (by rw [cell_setRow_other _ _ _ _ (by show N ≠ N + 1; omega)]; exact z16), (by rw [cell_setRow_other _ _ _ _ (by show N ≠ N + 1; omega)]; exact z17), (by rw [cell_setRow_other _ _ _ _ (by show N ≠ N + 1; omega)]; exact z18), (by rw [cell_setRow_other _ _ _ _ (by show N ≠ N + 1; omega)]; exact z19), (by rw [cell_setRow_other _ _ _ _ (by show N ≠ N + 1; omega)]; exact z20)⟩
  clear hK K
  try simp only [Act.put, List.setIfInBounds_toArray, List.set_cons_zero, List.set_cons_succ]
  refine wpAnyH_done (by kernel_rfl) ?_ _
  go_wp2
  refine bodyPost_ret (results_cell_row rfl _ _ (N + 1) 40 (h.sp ra n rc).cells.toArray (0, 0) _ rfl (setRow_heap _ _ _ _ _ _ r5) Tryz.underlying40 rfl (by rw [info40]; rfl)) rfl ?_
  exact ⟨ra, rc, rfl, hrs.setRow r5, below_setRow l5 (by rw [hN.out]; omega) _⟩
end Go.Proofs.YtpkilegnokajmaaGreatDoor
namespace Go.Proofs.YtpkilegnokajmaaGreatDoor
open Go.RowKit Go.Maps
/-- The map that the records make: of two with one key the later stands. -/
def recD (rs : List (ByteArray × ByteArray)) : DataW Unit := rs.foldl (fun D kv => D.put (sK kv.1) (sV kv.2.data.toList)) (.map [])
theorem recD_step (rs : List (ByteArray × ByteArray)) (i : Nat) (kv : ByteArray × ByteArray) (h : rs[i]? = some kv) : recD (rs.take (i + 1)) = (recD (rs.take i)).put (sK kv.1) (sV kv.2.data.toList) := by
  unfold recD
  rw [List.take_add_one, h]
  simp
theorem plain9s (s : ByteArray) (h : s.size ≤ maxLen) : plainElem (H := Unit) Tryz.prog 9 (.string s) = some (sV s.data.toList, []) := plainElem_string Tryz.underlying9 h
theorem SM.made (w : World) : SM (w.alloc (.map #[] 0)) w.heap.size 0 (.map []) := World.ownsMap_made (H := Unit) w Tryz.prog 9 (plainElem Tryz.prog 9)
set_option maxRecDepth 100000 in
set_option maxHeartbeats 8000000 in
theorem header_recs (B : Nat) (h : InH) (a : Option Addr) (n c : Nat) (rs : List (ByteArray × ByteArray)) (w : World) (x : HdI B w h a n c rs) (hB : B ≤ w.heap.size) (hn0 : 0 < n) :
    Calls Tryz.prog 18 #[.agg h.cells.toArray] w fun e w' => ∃ hb m, w.heap.size ≤ hb ∧ e = .returned (.pointer (some ⟨hb, 0, none⟩)) ∧ w'.heap[hb]? = some (.cells (h.hd (.map (some m))).cells.toArray 100 (0, 0)) ∧ SM w' m n (recD rs) ∧ Below w.heap.size w w' := by
  have ok := x.ok
  have hrv := x.rv
  have hrI := Asd.mk x.rc
  have hlen := Asd.mk x.rc.1
  have hnn : n ≤ 1048576 := by have := totR_len rs; have := x.rc.1; have := x.tot; omega
  have hkv := Asd.mk x.rs
  have hcap : (n : Int) ≤ c := by have := x.cap; omega
  clear x
  have hu := fun W => unix_any h.ms h.mn W ok.ms ok.mn
  have hf := fun W => format_any h.fmt W
  unfold tmV at hu
  replace hu := Asd.mk hu
  replace hf := Asd.mk hf
  unfold InH.cells
  rw [hrv]
  obtain ⟨N, hN⟩ : ∃ N, Asd (w.heap.size = N) := ⟨_, ⟨rfl⟩⟩
  go_enter Tryz.func18, Tryz.ntmps18
  go_upto_region 1 with fail
  obtain ⟨W1, hW1⟩ : ∃ W1, Asd (W1 = w.alloc (.cells #[.int .u8 h.tf.toNat, .string h.name, .string h.link, .int .i64 h.size, .int .i64 h.mode, .int .i64 h.uid, .int .i64 h.gid, .string h.uname, .string h.gname, .int .i64 h.ms, .int .i64 h.mn, .bool h.ha, .int .i64 h.acs, .int .i64 h.acn, .bool h.hc, .int .i64 h.cs, .int .i64 h.cn, .int .i64 h.maj, .int .i64 h.min, .slice a n c, .int .i64 h.fmt] 32 (0, 0))) := ⟨_, ⟨rfl⟩⟩
  rw [← hW1.out]
  have hb1 : W1.heap[N]? = some (.cells #[.int .u8 h.tf.toNat, .string h.name, .string h.link, .int .i64 h.size, .int .i64 h.mode, .int .i64 h.uid, .int .i64 h.gid, .string h.uname, .string h.gname, .int .i64 h.ms, .int .i64 h.mn, .bool h.ha, .int .i64 h.acs, .int .i64 h.acn, .bool h.hc, .int .i64 h.cs, .int .i64 h.cn, .int .i64 h.maj, .int .i64 h.min, .slice a n c, .int .i64 h.fmt] 32 (0, 0)) := by rw [hW1.out, ← hN.out]; exact heap_alloc_new _ _
  have l1 : Below w.heap.size w W1 := by rw [hW1.out]; exact (Below.refl _ _).alloc (Nat.le_refl _) _
  rw [hN.out]
  have a0 : W1.cell? ⟨N, 0, none⟩ = some (.int .u8 h.tf.toNat) := (by rw [Lib.cell_of_heap hb1]; rfl)
  have a1 : W1.cell? ⟨N, 1, none⟩ = some (.string h.name) := (by rw [Lib.cell_of_heap hb1]; rfl)
  have a2 : W1.cell? ⟨N, 2, none⟩ = some (.string h.link) := (by rw [Lib.cell_of_heap hb1]; rfl)
  have a3 : W1.cell? ⟨N, 3, none⟩ = some (.int .i64 h.size) := (by rw [Lib.cell_of_heap hb1]; rfl)
  have a4 : W1.cell? ⟨N, 4, none⟩ = some (.int .i64 h.mode) := (by rw [Lib.cell_of_heap hb1]; rfl)
  have a5 : W1.cell? ⟨N, 5, none⟩ = some (.int .i64 h.uid) := (by rw [Lib.cell_of_heap hb1]; rfl)
  have a6 : W1.cell? ⟨N, 6, none⟩ = some (.int .i64 h.gid) := (by rw [Lib.cell_of_heap hb1]; rfl)
  have a7 : W1.cell? ⟨N, 7, none⟩ = some (.string h.uname) := (by rw [Lib.cell_of_heap hb1]; rfl)
  have a8 : W1.cell? ⟨N, 8, none⟩ = some (.string h.gname) := (by rw [Lib.cell_of_heap hb1]; rfl)
  have a9 : W1.cell? ⟨N, 9, none⟩ = some (.int .i64 h.ms) := (by rw [Lib.cell_of_heap hb1]; rfl)
  have a10 : W1.cell? ⟨N, 10, none⟩ = some (.int .i64 h.mn) := (by rw [Lib.cell_of_heap hb1]; rfl)
  have a17 : W1.cell? ⟨N, 17, none⟩ = some (.int .i64 h.maj) := (by rw [Lib.cell_of_heap hb1]; rfl)
  have a18 : W1.cell? ⟨N, 18, none⟩ = some (.int .i64 h.min) := (by rw [Lib.cell_of_heap hb1]; rfl)
  have a20 : W1.cell? ⟨N, 20, none⟩ = some (.int .i64 h.fmt) := (by rw [Lib.cell_of_heap hb1]; rfl)
  replace hb1 := Asd.mk hb1
  go_region_held (fun w' => w'.cell? ⟨N, 0, none⟩ = some (.int .u8 h.tf.toNat) ∧ w'.cell? ⟨N, 1, none⟩ = some (.string h.name) ∧ w'.cell? ⟨N, 2, none⟩ = some (.string h.link) ∧ w'.cell? ⟨N, 3, none⟩ = some (.int .i64 h.size) ∧ w'.cell? ⟨N, 4, none⟩ = some (.int .i64 h.mode) ∧ w'.cell? ⟨N, 5, none⟩ = some (.int .i64 h.uid) ∧ w'.cell? ⟨N, 6, none⟩ = some (.int .i64 h.gid) ∧ w'.cell? ⟨N, 7, none⟩ = some (.string h.uname) ∧ w'.cell? ⟨N, 8, none⟩ = some (.string h.gname) ∧ w'.cell? ⟨N, 9, none⟩ = some (.int .i64 h.ms) ∧ w'.cell? ⟨N, 10, none⟩ = some (.int .i64 h.mn) ∧ w'.cell? ⟨N, 17, none⟩ = some (.int .i64 h.maj) ∧ w'.cell? ⟨N, 18, none⟩ = some (.int .i64 h.min) ∧ w'.cell? ⟨N, 20, none⟩ = some (.int .i64 h.fmt)) (go_keep)
    (first
    | (go_at_call 40; (with_reducible refine (hu.out _).mono ?_); rintro e w2 ⟨rfl, f2⟩; have hb2 := blk_below (w := W1.drew) hb1.out f2; have b0 : w2.cell? ⟨N, 0, none⟩ = some (.int .u8 h.tf.toNat) := (by rw [Lib.cell_of_heap hb2]; rfl); have b1 : w2.cell? ⟨N, 1, none⟩ = some (.string h.name) := (by rw [Lib.cell_of_heap hb2]; rfl); have b2 : w2.cell? ⟨N, 2, none⟩ = some (.string h.link) := (by rw [Lib.cell_of_heap hb2]; rfl); have b3 : w2.cell? ⟨N, 3, none⟩ = some (.int .i64 h.size) := (by rw [Lib.cell_of_heap hb2]; rfl); have b4 : w2.cell? ⟨N, 4, none⟩ = some (.int .i64 h.mode) := (by rw [Lib.cell_of_heap hb2]; rfl); have b5 : w2.cell? ⟨N, 5, none⟩ = some (.int .i64 h.uid) := (by rw [Lib.cell_of_heap hb2]; rfl); have b6 : w2.cell? ⟨N, 6, none⟩ = some (.int .i64 h.gid) := (by rw [Lib.cell_of_heap hb2]; rfl); have b7 : w2.cell? ⟨N, 7, none⟩ = some (.string h.uname) := (by rw [Lib.cell_of_heap hb2]; rfl); have b8 : w2.cell? ⟨N, 8, none⟩ = some (.string h.gname) := (by rw [Lib.cell_of_heap hb2]; rfl); have b9 : w2.cell? ⟨N, 9, none⟩ = some (.int .i64 h.ms) := (by rw [Lib.cell_of_heap hb2]; rfl); have b10 : w2.cell? ⟨N, 10, none⟩ = some (.int .i64 h.mn) := (by rw [Lib.cell_of_heap hb2]; rfl); have b17 : w2.cell? ⟨N, 17, none⟩ = some (.int .i64 h.maj) := (by rw [Lib.cell_of_heap hb2]; rfl); have b18 : w2.cell? ⟨N, 18, none⟩ = some (.int .i64 h.min) := (by rw [Lib.cell_of_heap hb2]; rfl); have b20 : w2.cell? ⟨N, 20, none⟩ = some (.int .i64 h.fmt) := (by rw [Lib.cell_of_heap hb2]; rfl); replace hb2 := Asd.mk hb2)
    | (go_at_call 41; (with_reducible refine (hf.out _).mono ?_); rintro e w3 ⟨rfl, rfl⟩))
  have l3 : Below w.heap.size w w3 := l1.trans ((Below.drew (Below.refl _ W1)).trans f2 |>.mono l1.size)
  have hi3 : w3.heap[N]? = some (.cells #[.int .u8 h.tf.toNat, .string h.name, .string h.link, .int .i64 h.size, .int .i64 h.mode, .int .i64 h.uid, .int .i64 h.gid, .string h.uname, .string h.gname, .int .i64 h.ms, .int .i64 h.mn, .bool h.ha, .int .i64 h.acs, .int .i64 h.acn, .bool h.hc, .int .i64 h.cs, .int .i64 h.cn, .int .i64 h.maj, .int .i64 h.min, .slice a n c, .int .i64 h.fmt] 32 (0, 0)) := blk_below (w := W1.drew) hb1.out f2
  obtain ⟨K, hK⟩ : ∃ K, Asd (w3.heap.size = K) := ⟨_, ⟨rfl⟩⟩
  obtain ⟨W4, hW4⟩ : ∃ W4, Asd (W4 = w3.alloc (.cells #[.int .u8 h.tf.toNat, .string h.name, .string h.link, .int .i64 h.size, .int .i64 h.mode, .int .i64 h.uid, .int .i64 h.gid, .string h.uname, .string h.gname, .int .u64 (unixN h.mn : Nat), .int .i64 (unixX h.ms h.mn), .int .u64 0, .int .i64 0, .int .u64 0, .int .i64 0, .int .i64 h.maj, .int .i64 h.min, .map none, .map none, .int .i64 (fm (fmtU h.fmt) (fmtP h.fmt) (fmtG h.fmt))] 100 (0, 0))) := ⟨_, ⟨rfl⟩⟩
  have i4 : W4.heap[N]? = some (.cells #[.int .u8 h.tf.toNat, .string h.name, .string h.link, .int .i64 h.size, .int .i64 h.mode, .int .i64 h.uid, .int .i64 h.gid, .string h.uname, .string h.gname, .int .i64 h.ms, .int .i64 h.mn, .bool h.ha, .int .i64 h.acs, .int .i64 h.acn, .bool h.hc, .int .i64 h.cs, .int .i64 h.cn, .int .i64 h.maj, .int .i64 h.min, .slice a n c, .int .i64 h.fmt] 32 (0, 0)) := by rw [hW4.out]; exact blk_below hi3 ((Below.refl _ _).alloc (Nat.le_refl _) _)
  have k4 : W4.heap[K]? = some (.cells h.hd0.cells.toArray 100 (0, 0)) := by rw [hW4.out, ← hK.out]; exact heap_alloc_new _ _
  have l4 : Below w.heap.size w W4 := by rw [hW4.out]; exact l3.alloc l3.size _
  have kN : w.heap.size ≤ K := by rw [← hK.out]; exact l3.size
  rw [← hW4.out, hK.out]
  have a11 : W4.cell? ⟨N, 11, none⟩ = some (.bool h.ha) := by rw [Lib.cell_of_heap i4]; rfl
  obtain ⟨ha, hha⟩ : ∃ b, Asd (h.ha = b) := ⟨_, ⟨rfl⟩⟩
  rw [hha.out] at a11
  have hua := Asd.mk (fun W => unix_any h.acs h.acn W ok.acs ok.acn)
  unfold tmV at hua
  go_upto_if 41 with fail
  go_cut [] from 42 to 51 (fun wx => Below w.heap.size w wx ∧ wx.heap[N]? = some (.cells #[.int .u8 h.tf.toNat, .string h.name, .string h.link, .int .i64 h.size, .int .i64 h.mode, .int .i64 h.uid, .int .i64 h.gid, .string h.uname, .string h.gname, .int .i64 h.ms, .int .i64 h.mn, .bool h.ha, .int .i64 h.acs, .int .i64 h.acn, .bool h.hc, .int .i64 h.cs, .int .i64 h.cn, .int .i64 h.maj, .int .i64 h.min, .slice a n c, .int .i64 h.fmt] 32 (0, 0)) ∧ wx.heap[K]? = some (.cells (hdA h h.hd0).cells.toArray 100 (0, 0)))
  case first =>
    cases ha
    · go_wp2_with fail
      go_meet
      case rel => exact ⟨l4, i4, by unfold hdA; rw [hha.out]; exact k4⟩
    · have a12 : W4.cell? ⟨N, 12, none⟩ = some (.int .i64 h.acs) := by rw [Lib.cell_of_heap i4]; rfl
      have a13 : W4.cell? ⟨N, 13, none⟩ = some (.int .i64 h.acn) := by rw [Lib.cell_of_heap i4]; rfl
      have kne : N ≠ K := by rw [← hK.out]; have := blk_lt hi3; omega
      go_wp2_with (go_at_call 40; (with_reducible refine (hua.out _).mono ?_); rintro e w5 ⟨rfl, f5⟩; have k5 := blk_below k4 f5; have i5 := blk_below i4 f5; have m11 : w5.cell? ⟨K, 11, none⟩ = some (.int .u64 0) := cell_blk k5 rfl; have m12 : w5.cell? ⟨K, 12, none⟩ = some (.int .i64 0) := cell_blk k5 rfl; have mz : ∀ j, w5.frozen? ⟨K, j, none⟩ = false := fun j => frozen_blk k5)
      go_meet
      case rel =>
        have s1 := set_blk (j := 11) (v := .int .u64 (unixN h.acn)) k5
        have s2 := set_blk (j := 12) (v := .int .i64 (unixX h.acs h.acn)) s1
        have l5 := ((l4.trans (f5.mono l4.size)).setCell (p := ⟨K, 11, none⟩) kN (.int .u64 (unixN h.acn))).setCell (p := ⟨K, 12, none⟩) kN (.int .i64 (unixX h.acs h.acn))
        refine ⟨l5, ?_, ?_⟩
        · rw [Below.heap_setCell _ _ _ _ kne, Below.heap_setCell _ _ _ _ kne]; exact i5
        · unfold hdA; rw [hha.out]; exact s2
  case rest =>
  have kne : N ≠ K := by rw [← hK.out]; have := blk_lt hi3; omega
  clear i4 k4 l4 a11
  obtain ⟨l4, i4, k4⟩ := hcut
  obtain ⟨HA, hHA⟩ : ∃ HA, Asd (HA = hdA h h.hd0) := ⟨_, ⟨rfl⟩⟩
  rw [← hHA.out] at k4
  obtain ⟨hcb, hhc⟩ : ∃ b, Asd (h.hc = b) := ⟨_, ⟨rfl⟩⟩
  have a14 : wc.cell? ⟨N, 14, none⟩ = some (.bool hcb) := by rw [← hhc.out, Lib.cell_of_heap i4]; rfl
  have huc := Asd.mk (fun W => unix_any h.cs h.cn W ok.cs ok.cn)
  unfold tmV at huc
  go_upto_if 53 with fail
  go_cut [] from 54 to 63 (fun wx => Below w.heap.size w wx ∧ wx.heap[N]? = some (.cells #[.int .u8 h.tf.toNat, .string h.name, .string h.link, .int .i64 h.size, .int .i64 h.mode, .int .i64 h.uid, .int .i64 h.gid, .string h.uname, .string h.gname, .int .i64 h.ms, .int .i64 h.mn, .bool h.ha, .int .i64 h.acs, .int .i64 h.acn, .bool h.hc, .int .i64 h.cs, .int .i64 h.cn, .int .i64 h.maj, .int .i64 h.min, .slice a n c, .int .i64 h.fmt] 32 (0, 0)) ∧ wx.heap[K]? = some (.cells (hdC h HA).cells.toArray 100 (0, 0)))
  case first =>
    cases hcb
    · go_wp2_with fail
      go_meet
      case rel => exact ⟨l4, i4, by unfold hdC; rw [hhc.out]; exact k4⟩
    · have a15 : wc.cell? ⟨N, 15, none⟩ = some (.int .i64 h.cs) := by rw [Lib.cell_of_heap i4]; rfl
      have a16 : wc.cell? ⟨N, 16, none⟩ = some (.int .i64 h.cn) := by rw [Lib.cell_of_heap i4]; rfl
      go_wp2_with (go_at_call 40; (with_reducible refine (huc.out _).mono ?_); rintro e w5 ⟨rfl, f5⟩; have k5 := blk_below k4 f5; have i5 := blk_below i4 f5; have m13 : w5.cell? ⟨K, 13, none⟩ = some (.int .u64 HA.cn) := cell_blk k5 rfl; have m14 : w5.cell? ⟨K, 14, none⟩ = some (.int .i64 HA.cx) := cell_blk k5 rfl; have mz : ∀ j, w5.frozen? ⟨K, j, none⟩ = false := fun j => frozen_blk k5)
      go_meet
      case rel =>
        have s1 := set_blk (j := 13) (v := .int .u64 (unixN h.cn)) k5
        have s2 := set_blk (j := 14) (v := .int .i64 (unixX h.cs h.cn)) s1
        have l5 := ((l4.trans (f5.mono l4.size)).setCell (p := ⟨K, 13, none⟩) kN (.int .u64 (unixN h.cn))).setCell (p := ⟨K, 14, none⟩) kN (.int .i64 (unixX h.cs h.cn))
        refine ⟨l5, ?_, ?_⟩
        · rw [Below.heap_setCell _ _ _ _ kne, Below.heap_setCell _ _ _ _ kne]; exact i5
        · unfold hdC; rw [hhc.out]; exact s2
  case rest =>
  clear i4 k4 l4 a14
  obtain ⟨l4, i4, k4⟩ := hcut
  obtain ⟨HC, hHC⟩ : ∃ HC, Asd (HC = hdC h HA) := ⟨_, ⟨rfl⟩⟩
  rw [← hHC.out] at k4
  have a19 : wc.cell? ⟨N, 19, none⟩ = some (.slice a n c) := by rw [Lib.cell_of_heap i4]; rfl
  have hgt : decide ((0 : Int) < (n : Int)) = true := decide_eq_true (by omega)
  have hgi : (0 : Int) < (n : Int) := by omega
  have m18 : wc.cell? ⟨K, 18, none⟩ = some HC.recs := cell_blk k4 rfl
  have mz : ∀ j, wc.frozen? ⟨K, j, none⟩ = false := fun j => frozen_blk k4
  have hmm := @run_makeMap Tryz.prog
  have hKlt := blk_lt k4
  have hNlt := blk_lt i4
  obtain ⟨M, hM⟩ : ∃ M, Asd (wc.heap.size = M) := ⟨_, ⟨rfl⟩⟩
  replace i4 := Asd.mk i4
  replace k4 := Asd.mk k4
  replace l4 := Asd.mk l4
  go_wp2_with fail
  obtain ⟨W5, hW5⟩ : ∃ W5, Asd (W5 = (wc.setCell ⟨K, 18, none⟩ (.map (some wc.heap.size))).alloc (.map #[] 0)) := ⟨_, ⟨rfl⟩⟩
  obtain ⟨CK, hCK⟩ : ∃ C, Asd (C = (h.hd (.map (some M))).cells) := ⟨_, ⟨rfl⟩⟩
  have hMs : (wc.setCell ⟨K, 18, none⟩ (.map (some wc.heap.size))).heap.size = M := by rw [← hM.out]; simp [World.setCell]
  have s5 : SM W5 M 0 (.map []) := by
    have := SM.made (wc.setCell ⟨K, 18, none⟩ (.map (some wc.heap.size)))
    rw [hMs, ← hW5.out] at this
    exact this
  have k5 : W5.heap[K]? = some (.cells CK.toArray 100 (0, 0)) := by
    have h1 := set_blk (j := 18) (v := .map (some wc.heap.size)) k4.out
    have h2 := blk_below h1 ((Below.refl _ _).alloc (Nat.le_refl _) (.map #[] 0))
    rw [← hW5.out] at h2
    rw [h2, hCK.out, ← hM.out, hHC.out, hHA.out]
    rfl
  have l5 : Below w.heap.size w W5 := by
    rw [hW5.out]
    exact (l4.out.setCell (p := ⟨K, 18, none⟩) kN _).alloc (by rw [hMs, ← hM.out]; exact l4.out.size) _
  have hMw : w.heap.size ≤ M := by rw [← hM.out]; exact l4.out.size
  have hKM : K < M := by rw [← hM.out]; exact hKlt
  rw [← hW5.out]
  clear m18 mz a19 hmm hKlt hNlt hMs i4 k4 l4 hW5 hHC hHA
  replace hKM := Asd.mk hKM
  replace hMw := Asd.mk hMw
  replace kN := Asd.mk kN
  replace s5 := Asd.mk s5
  replace k5 := Asd.mk k5
  replace l5 := Asd.mk l5
  go_loopw [75] (fun i wr => ∃ k : Nat, k ≤ n ∧ i = .int .i64 k ∧ SM wr M k (recD (rs.take k)) ∧ wr.heap[K]? = some (.cells CK.toArray 100 (0, 0)) ∧ Below w.heap.size w wr) (fun i _ => n - (intOf i).toNat)
  case atStart => exact ⟨0, by omega, rfl, s5.out, k5.out, l5.out⟩
  case round =>
    clear s5 k5 l5
    obtain ⟨k, hk, rfl, hs, hkk, hl⟩ := hrel
    replace hs := Asd.mk hs
    replace hkk := Asd.mk hkk
    replace hl := Asd.mk hl
    by_cases hlt : k < n
    · obtain ⟨b, o, kv, haa, hbB, hget, d1, d2⟩ := (hrI.out.below (hl.out.mono hB)).get k hlt
      have hsz := hkv.out kv (List.mem_of_getElem? hget)
      have hst : Asd (recD (rs.take (k + 1)) = (recD (rs.take k)).put (sK kv.1) (sV kv.2.data.toList)) := ⟨recD_step rs k kv hget⟩
      clear hget hbB
      obtain ⟨X, hX⟩ : ∃ X, Asd (wr.heap.size = X) := ⟨_, ⟨rfl⟩⟩
      rw [haa]
      go_wp2_with fail
      obtain ⟨W7, hW7⟩ : ∃ W7, Asd (W7 = wr.alloc (.cells #[.string kv.1, .string kv.2] 115 (0, 0))) := ⟨_, ⟨rfl⟩⟩
      have z7 : W7.heap[X]? = some (.cells #[.string kv.1, .string kv.2] 115 (0, 0)) := by rw [hW7.out, ← hX.out]; exact heap_alloc_new _ _
      have bl7 : Below wr.heap.size wr W7 := by rw [hW7.out]; exact (Below.refl _ _).alloc (Nat.le_refl _) _
      have y7 : W7.heap[K]? = some (.cells CK.toArray 100 (0, 0)) := blk_below hkk.out bl7
      have s7 := hs.out.below bl7
      have l7 := hl.out.trans (bl7.mono hl.out.size)
      have hMX : M ≠ X := by rw [← hX.out]; exact Nat.ne_of_lt hs.out.lt
      rw [← hW7.out, hX.out]
      clear hW7 d1 d2
      obtain ⟨w8, hrun8, hm8, hg8⟩ := World.ownsMap.update (s7.below (w' := W7.drew) ⟨rfl, rfl, rfl, Nat.le_refl _, fun _ _ => rfl⟩) law9 Tryz.underlying97 (by unfold maxLen; omega) (key9 kv.1 (by unfold maxLen; omega)) (plain9s kv.2 (by unfold maxLen; omega))
      have y8 : w8.heap[K]? = some (.cells CK.toArray 100 (0, 0)) := (Kp.of_grown hg8).get (w := W7.drew) y7 (by intro e; have := hKM.out; omega)
      have z8 : w8.heap[X]? = some (.cells #[.string kv.1, .string kv.2] 115 (0, 0)) := (Kp.of_grown hg8).get (w := W7.drew) z7 (by intro e; exact hMX e.symm)
      have l8 : Below w.heap.size w w8 := (Below.drew l7).trans ((Kp.of_grown hg8).to_below (w := W7.drew) l7.size (fun j e => by rw [e]; exact hMw.out))
      have hm8' : Asd (SM w8 M (k + 1) (recD (rs.take (k + 1)))) := ⟨by rw [hst.out]; exact hm8⟩
      clear hm8 hg8 s7 bl7
      have hCK18 : Asd (CK[18]? = some (.map (some M))) := ⟨by rw [hCK.out]; rfl⟩
      refine wp_region_held_drew (S := (fun w' => w'.cell? ⟨K, 18, none⟩ = some (.map (some M)) ∧ w'.cell? ⟨X, 0, none⟩ = some (.string kv.1) ∧ w'.cell? ⟨X, 1, none⟩ = some (.string kv.2))) (by kernel_rfl) ?_ (fun hHeld => ?_)
      · exact ⟨cell_blk (w := W7.drew) y7 hCK18.out, cell_blk (w := W7.drew) (C := [_, _]) z7 rfl, cell_blk (w := W7.drew) (C := [_, _]) z7 rfl⟩
      refine takeV (i := 0) (v := ?_) rfl (by kernel_rfl) (fun _ _ _ h => h) (by rfl) ?_ (by assumption) ?_
      rotate_left
      · (intro w hSw; (try dsimp only at hSw); go_simp); all_goals (with_reducible rfl)
      try simp only [Act.put, List.setIfInBounds_toArray, List.set_cons_zero, List.set_cons_succ]
      refine takeV (i := 1) (v := ?_) rfl (by kernel_rfl) (fun _ _ _ h => h) (by rfl) ?_ (by assumption) ?_
      rotate_left
      · (intro w hSw; (try dsimp only at hSw); go_simp); all_goals (with_reducible rfl)
      try simp only [Act.put, List.setIfInBounds_toArray, List.set_cons_zero, List.set_cons_succ]
      refine takeV (i := 2) (v := ?_) rfl (by kernel_rfl) (fun _ _ _ h => h) (by rfl) ?_ (by assumption) ?_
      rotate_left
      · (intro w hSw; (try dsimp only at hSw); go_simp); all_goals (with_reducible rfl)
      try simp only [Act.put, List.setIfInBounds_toArray, List.set_cons_zero, List.set_cons_succ]
      refine takeV (i := 3) (v := ?_) rfl (by kernel_rfl) (fun _ _ _ h => h) (by rfl) ?_ (by assumption) ?_
      rotate_left
      · (intro w hSw; (try dsimp only at hSw); go_simp); all_goals (with_reducible rfl)
      try simp only [Act.put, List.setIfInBounds_toArray, List.set_cons_zero, List.set_cons_succ]
      refine takeV (i := 4) (v := ?_) rfl (by kernel_rfl) (fun _ _ _ h => h) (by rfl) ?_ (by assumption) ?_
      rotate_left
      · (intro w hSw; (try dsimp only at hSw); go_simp); all_goals (with_reducible rfl)
      try simp only [Act.put, List.setIfInBounds_toArray, List.set_cons_zero, List.set_cons_succ]
      refine takeV (i := 5) (v := ?_) rfl (by kernel_rfl) (fun _ _ _ h => h) (by rfl) ?_ (by assumption) ?_
      rotate_left
      · (intro w hSw; (try dsimp only at hSw); go_simp); all_goals (with_reducible rfl)
      try simp only [Act.put, List.setIfInBounds_toArray, List.set_cons_zero, List.set_cons_succ]
      refine takeV (i := 6) (v := ?_) rfl (by kernel_rfl) (fun _ _ _ h => h) (by rfl) ?_ (by assumption) ?_
      rotate_left
      · (intro w hSw; (try dsimp only at hSw); go_simp); all_goals (with_reducible rfl)
      try simp only [Act.put, List.setIfInBounds_toArray, List.set_cons_zero, List.set_cons_succ]
      refine takeV (i := 7) (v := ?_) rfl (by kernel_rfl) (fun _ _ _ h => h) (by rfl) ?_ (by assumption) ?_
      rotate_left
      · (intro w hSw; (try dsimp only at hSw); go_simp); all_goals (with_reducible rfl)
      try simp only [Act.put, List.setIfInBounds_toArray, List.set_cons_zero, List.set_cons_succ]
      refine wpAnyH_ready (rs := [8]) (by kernel_rfl) (by simp) ?_
      refine AllReadyH.cons (o := { dst := none, op := Op.mapUpdate 97 (Operand.tmp 82) (Operand.tmp 84) (Operand.tmp 86), type := 0, pos := "impl.go:146", after := #[{ on := 3, ground := Ground.data }, { on := 5, ground := Ground.data }, { on := 7, ground := Ground.data }, { on := 0, ground := Ground.phase }, { on := 1, ground := Ground.phase }, { on := 2, ground := Ground.phase }, { on := 3, ground := Ground.phase }, { on := 4, ground := Ground.phase }, { on := 5, ground := Ground.phase }, { on := 6, ground := Ground.phase }, { on := 7, ground := Ground.phase }], guard := none }) rfl (fun K hK => ?_) AllReadyH.nil
      go_simp
      refine hK.out _ _ ?_ (fun hHeld => ?_)
      · exact ⟨cell_blk y8 hCK18.out, cell_blk (C := [_, _]) z8 rfl, cell_blk (C := [_, _]) z8 rfl⟩
      clear hK K
      try simp only [Act.put, List.setIfInBounds_toArray, List.set_cons_zero, List.set_cons_succ]
      refine wpAnyH_done (by kernel_rfl) ?_ _
      go_wp2
      go_roundw
      case rel => exact ⟨k + 1, by omega, by go_num, hm8'.out, y8, l8⟩
      case measure => simp [intOf]; omega
    · have htk : Asd (rs.take k = rs) := ⟨List.take_of_length_le (by rw [hlen.out]; omega)⟩
      have hkn : k = n := by omega
      subst hkn
      go_wp2
      go_ret
      exact ⟨K, M, kN.out, rfl, by rw [hkk.out, hCK.out], by have := hs.out; rw [htk.out] at this; exact this, hl.out⟩
end Go.Proofs.YtpkilegnokajmaaGreatDoor
namespace Go.Proofs.YtpkilegnokajmaaGreatDoor
open Go.RowKit
/-- Bytes that came in. -/
structure DatI (B : Nat) (w : World) (da : Option Addr) (dn dc : Nat) (data : List UInt8) : Prop where
  len : data.length = dn
  cap : dn ≤ dc
  max : dc ≤ maxLen
  big : dn ≤ 1048576
  nil : da = none → dn = 0 ∧ dc = 0
  src : ∀ a, da = some a → (dn = 0 ∨ a.block < B) ∧ ∀ (j : Nat) u, (cells data)[j]? = some u → w.cell? (a.add j) = some u
theorem DatI.below {B : Nat} {w w' : World} {da : Option Addr} {dn dc : Nat} {data : List UInt8} (h : DatI B w da dn dc data) (hb : Below B w w') : DatI B w' da dn dc data :=
  { h with src := fun a ha => ⟨(h.src a ha).1, fun j u hj => by
      have h2 := (h.src a ha).2 j u hj
      have h1 : a.block < B := by
        rcases (h.src a ha).1 with h0 | h1
        · have hd : data = [] := List.eq_nil_of_length_eq_zero (h.len.trans h0)
          rw [hd] at hj
          cases hj
        · exact h1
      rw [hb.cell (by show (a.add j).block < B; unfold Addr.add; split <;> exact h1)]
      exact h2⟩ }
/-- One call of a Writer. -/
structure OpI where
  kind : Int
  h : InH
  a : Option Addr
  n : Nat
  c : Nat
  rs : List (ByteArray × ByteArray)
  da : Option Addr
  dn : Nat
  dc : Nat
  data : List UInt8
def OpI.cells (x : OpI) : List Value := [.int .i64 x.kind] ++ x.h.cells ++ [.slice x.da x.dn x.dc]
theorem OpI.len (x : OpI) : x.cells.length = 23 := rfl
structure OpOk (B : Nat) (w : World) (x : OpI) : Prop where
  hd : HdI B w x.h x.a x.n x.c x.rs
  dt : DatI B w x.da x.dn x.dc x.data
theorem OpOk.below {B : Nat} {w w' : World} {x : OpI} (h : OpOk B w x) (hb : Below B w w') : OpOk B w' x := ⟨h.hd.below hb, h.dt.below hb⟩
theorem InH.one (h : InH) (hr : h.rv.oneCell' = true) : ∀ v ∈ h.cells, v.oneCell' = true := by
  intro v hv
  unfold InH.cells at hv
  simp only [List.mem_cons, List.not_mem_nil, or_false] at hv
  rcases hv with rfl | rfl | rfl | rfl | rfl | rfl | rfl | rfl | rfl | rfl | rfl | rfl | rfl | rfl | rfl | rfl | rfl | rfl | rfl | rfl | rfl <;> first | rfl | exact hr
theorem OpI.oneA (x : OpI) (hr : x.h.rv.oneCell' = true) : x.cells.toArray.all (·.oneCell') = true := by
  refine all_oneCell_toArray ?_
  intro v hv
  unfold OpI.cells at hv
  simp only [List.mem_append, List.mem_singleton] at hv
  rcases hv with (rfl | hv) | rfl
  · rfl
  · exact x.h.one hr v hv
  · rfl
theorem OpI.mid (x : OpI) {w : World} {b o : Nat} (h : w.rangeAt b o x.cells) : w.rangeAt b (o + 1) x.h.cells := by
  intro j v hv
  have h1 := h (1 + j) v (by
    unfold OpI.cells
    rw [List.append_assoc, List.getElem?_append_right (by simp), show 1 + j - [Value.int IntKind.i64 x.kind].length = j by simp, List.getElem?_append_left (List.getElem?_eq_some_iff.1 hv).1]
    exact hv)
  rw [show o + (1 + j) = o + 1 + j by omega] at h1
  exact h1
theorem OpI.last (x : OpI) {w : World} {b o : Nat} (h : w.rangeAt b o x.cells) : w.cell? ⟨b, o + 22, none⟩ = some (.slice x.da x.dn x.dc) := h 22 _ rfl
theorem OpI.first (x : OpI) {w : World} {b o : Nat} (h : w.rangeAt b o x.cells) : w.cell? ⟨b, o, none⟩ = some (.int .i64 x.kind) := h 0 _ rfl
/-- The calls, as they came in. -/
structure OpsI (B : Nat) (w : World) (oa : Option Addr) (n c : Nat) (xs : List OpI) : Prop where
  len : xs.length = n
  cap : n ≤ c ∧ c ≤ maxLen
  big : n ≤ 1048576
  src : n = 0 ∨ ∃ b o, oa = some ⟨b, o, none⟩ ∧ b < B ∧ ∀ (j : Nat) x, xs[j]? = some x → w.rangeAt b (o + j * 23) x.cells
  ok : ∀ x ∈ xs, OpOk B w x
theorem rangeAt_below {B : Nat} {w w' : World} {b o : Nat} {C : List Value} (h : w.rangeAt b o C) (hb : Below B w w') (hB : b < B) : w'.rangeAt b o C := fun j v hv => by
  rw [hb.cell (p := ⟨b, _, none⟩) hB]; exact h j v hv
theorem OpsI.below {B : Nat} {w w' : World} {oa : Option Addr} {n c : Nat} {xs : List OpI} (h : OpsI B w oa n c xs) (hb : Below B w w') : OpsI B w' oa n c xs :=
  ⟨h.len, h.cap, h.big, h.src.imp id (fun ⟨b, o, h1, h2, h3⟩ => ⟨b, o, h1, h2, fun j x hj => rangeAt_below (h3 j x hj) hb h2⟩), fun x hx => (h.ok x hx).below hb⟩
theorem OpsI.get {B : Nat} {w : World} {oa : Option Addr} {n c : Nat} {xs : List OpI} (h : OpsI B w oa n c xs) (k : Nat) (hk : k < n) :
    ∃ b o x, oa = some ⟨b, o, none⟩ ∧ b < B ∧ xs[k]? = some x ∧ w.rangeAt b (o + k * 23) x.cells ∧ OpOk B w x := by
  rcases h.src with h1 | ⟨b, o, h2, h3, h4⟩
  · omega
  · have hk2 : k < xs.length := by rw [h.len]; exact hk
    exact ⟨b, o, xs[k], h2, h3, List.getElem?_eq_getElem hk2, h4 k _ (List.getElem?_eq_getElem hk2), h.ok _ (List.getElem_mem hk2)⟩
theorem info32 : (Tryz.prog.info? 32).map (·.size) = some 21 := by kernel_rfl
theorem info34 : (Tryz.prog.info? 34).map (·.size) = some 23 := by kernel_rfl
set_option maxRecDepth 100000 in
theorem fits8_any (B : Nat) (x : OpI) (w : World) (ok : OpOk B w x) (hB : B ≤ w.heap.size) : Calls Tryz.prog 15 #[.agg x.cells.toArray] w fun e w' => e = .returned (.bool true) ∧ Below w.heap.size w w' := by
  obtain ⟨C, hC⟩ : ∃ C, Asd (C = x.cells) := ⟨_, ⟨rfl⟩⟩
  obtain ⟨N, hN⟩ : ∃ N, Asd (w.heap.size = N) := ⟨_, ⟨rfl⟩⟩
  rw [← hC.out]
  have hdn : (x.dn : Int) ≤ 1048576 := by have := ok.dt.big; omega
  have hdc : (x.dn : Int) ≤ x.dc := by have := ok.dt.cap; omega
  go_enter Tryz.func15, Tryz.ntmps15
  go_upto_region 1 with fail
  obtain ⟨W, hW⟩ : ∃ W, Asd (W = w.alloc (.cells C.toArray 34 (0, 0))) := ⟨_, ⟨rfl⟩⟩
  have b0 := heap_alloc_new w (.cells C.toArray 34 (0, 0))
  have hb : Below w.heap.size w (w.alloc (.cells C.toArray 34 (0, 0))) := (Below.refl _ _).alloc (Nat.le_refl _) _
  rw [← hW.out] at b0 hb
  rw [hN.out] at b0
  rw [← hW.out, hN.out]
  clear hW
  have r0 : W.rangeAt N 0 x.cells := by rw [← hC.out]; exact rng0 b0
  have r1 := x.mid r0
  have hf := Asd.mk (fits3_any B x.h x.a x.n x.c x.rs W (ok.hd.below (hb.mono hB)) (Nat.le_trans hB hb.size))
  obtain ⟨CH, hCH⟩ : ∃ C, Asd (C = x.h.cells) := ⟨_, ⟨rfl⟩⟩
  rw [← hCH.out] at r1 hf
  have lCH : Asd (CH.length = 21) := ⟨by rw [hCH.out]; rfl⟩
  have c22 : W.cell? ⟨N, 22, none⟩ = some (.slice x.da x.dn x.dc) := x.last r0
  replace b0 := Asd.mk b0
  replace hb := Asd.mk hb
  replace r0 := Asd.mk r0
  replace r1 := Asd.mk r1
  replace ok := Asd.mk ok
  go_upto_if 6 with (first
    | (refine wpList_load_mid rfl 32 (.tmp 3) rfl N 1 rfl CH _ r1.out Tryz.underlying32 rfl (by rw [info32, lCH.out]) ?_)
    | (go_at_call 32; refine hf.out.mono ?_; rintro e w3 ⟨rfl, k3⟩))
  have l3 := Asd.mk (hb.out.trans (k3.mono hb.out.size))
  have d22 : w3.cell? ⟨N, 22, none⟩ = some (.slice x.da x.dn x.dc) := by rw [k3.cell (p := ⟨N, 22, none⟩) (by show N < W.heap.size; exact blk_lt b0.out)]; exact c22
  clear k3 c22
  go_wp2
  go_ret
  exact ⟨rfl, l3.out⟩
set_option maxRecDepth 100000 in
set_option maxHeartbeats 2000000 in
theorem fits7_any (B : Nat) (oa : Option Addr) (n c : Nat) (xs : List OpI) (w : World) (ho : OpsI B w oa n c xs) (hB : B ≤ w.heap.size) : Calls Tryz.prog 5 #[.slice oa n c] w fun e w' => e = .returned (.bool true) ∧ Below w.heap.size w w' := by
  have hn : n ≤ 1048576 := ho.big
  have hnc : (n : Int) ≤ c := by have := ho.cap; omega
  replace ho := Asd.mk ho
  go_enter Tryz.func5, Tryz.ntmps5
  go_wp2
  go_loopw [10] (fun i wr => ∃ k : Nat, k ≤ n ∧ i = .int .i64 k ∧ Below w.heap.size w wr) (fun i _ => n - (intOf i).toNat)
  case atStart => exact ⟨0, by omega, rfl, Below.refl _ _⟩
  case round =>
    obtain ⟨k, hk, rfl, hl⟩ := hrel
    by_cases hlt : k < n
    · obtain ⟨b, o, x, haa, hbB, hget, hr, hok⟩ := (ho.out.below (hl.mono hB)).get k hlt
      obtain ⟨C, hC⟩ : ∃ C, Asd (C = x.cells) := ⟨_, ⟨rfl⟩⟩
      have lC : Asd (C.length = 23) := ⟨by rw [hC.out]; rfl⟩
      have oC : Asd (C.toArray.all (·.oneCell') = true) := ⟨by rw [hC.out]; exact x.oneA (by rw [hok.hd.rv]; rfl)⟩
      obtain ⟨X, hX⟩ : ∃ X, Asd (wr.heap.size = X) := ⟨_, ⟨rfl⟩⟩
      rw [← hC.out] at hr
      have hf := Asd.mk (fun W (h : Below wr.heap.size wr W) => fits8_any B x W (hok.below (h.mono (Nat.le_trans hB hl.size))) (Nat.le_trans (Nat.le_trans hB hl.size) h.size))
      rw [← hC.out] at hf
      replace hl := Asd.mk hl
      replace hr := Asd.mk hr
      clear hget hok hbB
      rw [haa]
      go_upto_region 6 with (first
        | (refine wpList_load_mid rfl 34 (.tmp 12) rfl b (o + k * 23) rfl C _ hr.out Tryz.underlying34 rfl (by rw [info34, lC.out]) ?_)
        | (refine wpList_store_row rfl 34 (.tmp 4) (.tmp 13) rfl wr.heap.size C.toArray rfl rfl 34 _ (heap_alloc_new _ _) (by rw [info34, List.size_toArray, lC.out]) (by show (23 : Nat) = _; rw [List.size_toArray, lC.out]) oC.out ?_; rw [World.setRow_alloc_new]))
      have ba : Below wr.heap.size wr (wr.alloc (.cells C.toArray 34)) := (Below.refl _ _).alloc (Nat.le_refl _) _
      go_wp2_with (first
        | (refine wpList_load_row rfl 34 (.tmp 4) rfl wr.heap.size rfl 34 C.toArray (0, 0) _ (heap_alloc_new _ _) Tryz.underlying34 rfl (by rw [info34, List.size_toArray, lC.out]) ?_)
        | (go_at_call 15; refine (hf.out _ ba).mono ?_; rintro e w1 ⟨rfl, h1⟩; have hl1 := Asd.mk (hl.out.trans ((ba.trans (h1.mono ba.size)).mono hl.out.size)); clear ba h1))
      go_roundw
      case rel => exact ⟨k + 1, by omega, by go_num, hl1.out⟩
      case measure => simp [intOf]; omega
    · replace hl := Asd.mk hl
      go_wp2
      go_ret
      exact ⟨rfl, hl.out⟩
/-- An error that a call of the Writer returned; its code. -/
def EndV (G : GlP) (B : Nat) (v : Value) (x : Int) (w : World) : Prop :=
  (v = .nilIface ∧ x = 0) ∨ (v = errV G.p0 ∧ x = 3) ∨ (v = errV G.p1 ∧ x = 5) ∨ (v = errV G.p4 ∧ x = 4) ∨
  (∃ n, newErr B n w ∧ v = .iface 182 (.pointer (some ⟨n, 0, none⟩)) ∧ x = 8) ∨ (∃ y, v = .iface 151 y ∧ x = 8)
theorem end_any {G : GlP} {B : Nat} {w : World} (hg : Gl G B w) (h : Es G B w) (v : Value) (x : Int) (hv : EndV G B v x w) : Calls Tryz.prog 23 #[v] w fun e w' => e = .returned (.int .i64 x) ∧ w' = w := by
  rcases hv with ⟨rfl, rfl⟩ | ⟨rfl, rfl⟩ | ⟨rfl, rfl⟩ | ⟨rfl, rfl⟩ | ⟨n, hn, rfl, rfl⟩ | ⟨y, rfl, rfl⟩
  · exact end_nil w
  · exact end_p0 hg h
  · exact end_p1 hg h
  · exact end_p4 hg h
  · exact end_new hg h n hn.1 hn.2
  · exact end_hdr hg y
structure AS where
  out : List UInt8
  pad : Int
  nb : Int
  er : Nat
def erV (G : GlP) (n : Nat) : Value := if n = 0 then .nilIface else if n = 1 then errV G.p1 else errV G.p4
structure AbS (G : GlP) (s : WSt) (a : AS) : Prop where
  out : s.out = a.out
  pad : s.pad = a.pad
  p0 : 0 ≤ a.pad
  p1 : a.pad ≤ 512
  nb : s.nb = a.nb
  n0 : 0 ≤ a.nb
  n1 : a.nb ≤ 9223372036854775807
  er : s.err = erV G a.er
  e2 : a.er ≤ 2
def AS.fl (a : AS) : AS := ⟨a.out ++ List.replicate a.pad.toNat 0, 0, a.nb, a.er⟩
def AS.st (a : AS) : WSt := ⟨a.out, a.pad, a.nb, [], [], .nilIface⟩
def WSt.as (s : WSt) (er : Nat) : AS := ⟨s.out, s.pad, s.nb, er⟩
theorem usSt_as (s t : WSt) (H : Hd) (h : s.out = t.out) : (usSt s 0 H).as 0 = (usSt t 0 H).as 0 := by
  unfold WSt.as usSt rawSt
  simp [WSt.bk, WSt.hd, h]
theorem gnL_out' (s t : WSt) (p : Nat) (x : ByteArray) (f : UInt8) (h : s.out = t.out) : (gnL s p x f).out = (gnL t p x f).out := by
  unfold gnL
  split
  · show s.out ++ _ ++ _ ++ _ = t.out ++ _ ++ _ ++ _; rw [h]
  · exact h
theorem gnSt_as (s t : WSt) (H : Hd) (h : s.out = t.out) : (gnSt s 0 H).as 0 = (gnSt t 0 H).as 0 := by
  have h1 : (gnS s 0 H).out = (gnS t 0 H).out := by unfold gnS; exact gnL_out' _ _ _ _ _ (gnL_out' _ _ _ _ _ h)
  unfold WSt.as gnSt rawSt
  simp [WSt.bk, h1]
theorem rawFileSt_as (s t : WSt) (p : Nat) (g : Bool) (n d : ByteArray) (f : UInt8) (h : s.out = t.out) : (rawFileSt s p g n d f).as 0 = (rawFileSt t p g n d f).as 0 := by
  unfold WSt.as rawFileSt
  simp [h]
theorem paxSt1_out (s t : WSt) (p : Nat) (H : Hd) (D : DataW Unit) (h : s.out = t.out) : (paxSt1 s p H D).out = (paxSt1 t p H D).out := by
  unfold paxSt1
  split
  · unfold rawFileSt; simp [h]
  · exact h
theorem paxStAll_as (s t : WSt) (H : Hd) (D : DataW Unit) (h : s.out = t.out) : (paxStAll s 0 H D).as 0 = (paxStAll t 0 H D).as 0 := by
  unfold paxStAll
  split
  · next h1 =>
    have h2 : paxNeeds H D = true := by unfold paxNeeds; simp [h1]
    unfold paxSt1
    rw [if_pos h2, if_pos h2]
    exact rawFileSt_as _ _ _ _ _ _ _ h
  · have h1 := paxSt1_out s t 0 H D h
    unfold WSt.as paxSt2 rawSt
    simp [WSt.bk, h1]
def WhA (H : Hd) (R : DataW Unit) (fu fp fg : Bool) (a a' : AS) (x : Int) : Prop :=
  (x = 8 ∧ a' = a ∧ (badH H = true ∨ (∃ D, PaxOf H R D ∧ ¬ AllRec D) ∨ (afU H R fu fp fg || afP H R fu fp fg || afG H R fu fp fg) = false)) ∨
  (badH H = false ∧ ∃ D, PaxK H R D ∧ AllRec D ∧
    ((afU H R fu fp fg = true ∧ x = 0 ∧ a' = (usSt a.st 0 H).as 0 ∧ (usBlk H).length = 512) ∨
     (afU H R fu fp fg = false ∧ afP H R fu fp fg = true ∧ (paxNeeds H D = true ∧ 1048576 < (paxData D).length) ∧ x = 4 ∧ a' = ⟨a.out, a.pad, a.nb, 2⟩) ∨
     (afU H R fu fp fg = false ∧ afP H R fu fp fg = true ∧ ¬ (paxNeeds H D = true ∧ 1048576 < (paxData D).length) ∧ x = 0 ∧ a' = (paxStAll a.st 0 H D).as 0 ∧ (H.tf ≠ 103 → (paxBlk H).length = 512)) ∨
     (afU H R fu fp fg = false ∧ afP H R fu fp fg = false ∧ afG H R fu fp fg = true ∧ x = 0 ∧ a' = (gnSt a.st 0 H).as 0 ∧ (gnBlk H).length = 512)))
/-- WriteHeader's step. -/
def HdA (H : Hd) (R : DataW Unit) (fu fp fg : Bool) (a a' : AS) (x : Int) : Prop :=
  (a.er = 1 ∧ x = 5 ∧ a' = a) ∨ (a.er = 2 ∧ x = 4 ∧ a' = a) ∨ (a.er = 0 ∧ 0 < a.nb ∧ x = 8 ∧ a' = a) ∨ (a.er = 0 ∧ a.nb ≤ 0 ∧ WhA (whH H) R fu fp fg a.fl a' x)
/-- Write's step. -/
def WrA (data : List UInt8) (a a' : AS) (n : Nat) (x : Int) : Prop :=
  (a.er = 1 ∧ n = 0 ∧ x = 5 ∧ a' = a) ∨ (a.er = 2 ∧ n = 0 ∧ x = 4 ∧ a' = a) ∨ (a.er = 0 ∧ n = wNum a.nb data.length ∧ x = (if a.nb < data.length then 3 else 0) ∧ a' = ⟨a.out ++ data.take n, a.pad, a.nb - n, 0⟩)
/-- Close's step. -/
def ClA (a a' : AS) (x : Int) : Prop :=
  (a.er = 1 ∧ x = 0 ∧ a' = a) ∨ (a.er = 2 ∧ x = 4 ∧ a' = a) ∨ (a.er = 0 ∧ 0 < a.nb ∧ x = 8 ∧ a' = ⟨a.out, a.pad, a.nb, 1⟩) ∨
  (a.er = 0 ∧ a.nb ≤ 0 ∧ x = 0 ∧ a' = ⟨a.out ++ List.replicate a.pad.toNat 0 ++ List.replicate 1024 0, 0, a.nb, 1⟩)
/-- Flush's step. -/
def FlA (a a' : AS) (x : Int) : Prop :=
  (a.er = 1 ∧ x = 5 ∧ a' = a) ∨ (a.er = 2 ∧ x = 4 ∧ a' = a) ∨ (a.er = 0 ∧ 0 < a.nb ∧ x = 8 ∧ a' = a) ∨ (a.er = 0 ∧ a.nb ≤ 0 ∧ x = 0 ∧ a' = a.fl)
theorem er_cases {n : Nat} (h : n ≤ 2) : n = 0 ∨ n = 1 ∨ n = 2 := by omega
section
variable {G : GlP} {B bw bb bc : Nat} {s : WSt} {a : AS} {w : World}
theorem AbS.e0 (h : AbS G s a) (e : a.er = 0) : s.err = .nilIface := by rw [h.er, e]; rfl
theorem AbS.e1 (h : AbS G s a) (e : a.er = 1) : s.err = errV G.p1 := by rw [h.er, e]; rfl
theorem AbS.e4 (h : AbS G s a) (e : a.er = 2) : s.err = errV G.p4 := by rw [h.er, e]; rfl
def StepPost (G : GlP) (B bw bb : Nat) (w : World) (Q : AS → Int → Prop) (e : Ending) (w' : World) : Prop :=
  ∃ v x a' s' bc', e = .returned v ∧ EndV G B v x w' ∧ Wr B bw bb bc' s' w' ∧ AbS G s' a' ∧ Fr B w w' ∧ Q a' x
theorem fl_step (hgl : Gl G B w) (h : Wr B bw bb bc s w) (hA : AbS G s a) (hlim : a.out.length ≤ 35184372088832) :
    Calls Tryz.prog 22 #[.pointer (some ⟨bw, 0, none⟩)] w (StepPost G B bw bb w (FlA a)) := by
  rcases er_cases hA.e2 with e | e | e
  · by_cases hnb : a.nb ≤ 0
    · refine (flush_ok B bw bb bc s w a.pad.toNat h hgl.size (hA.e0 e) (by rw [hA.nb]; exact hnb) (by rw [hA.pad]; have := hA.p0; omega) (by have := hA.p1; omega) (by rw [hA.out]; omega)).mono ?_
      rintro e' w' ⟨rfl, h1, f1⟩
      exact ⟨_, _, a.fl, _, _, rfl, .inl ⟨rfl, rfl⟩, h1, ⟨by show s.out ++ _ = a.out ++ _; rw [hA.out], rfl, Int.le_refl _, by show (0 : Int) ≤ 512; decide, hA.nb, hA.n0, hA.n1, hA.er, hA.e2⟩, f1, .inr (.inr (.inr ⟨e, hnb, rfl, rfl⟩))⟩
    · refine (flush_miss2 B bw bb bc s w h hgl.size (hA.e0 e) (by rw [hA.nb]; omega)).mono ?_
      rintro e' w' ⟨n, hn, rfl, h1, f1⟩
      exact ⟨_, _, _, _, _, rfl, .inr (.inr (.inr (.inr (.inl ⟨n, hn, rfl, rfl⟩)))), h1, hA, f1, .inr (.inr (.inl ⟨e, by omega, rfl, rfl⟩))⟩
  · refine (flush_err B bw bb bc s w _ _ h (hA.e1 e)).mono ?_
    rintro e' w' ⟨rfl, rfl⟩
    exact ⟨_, _, _, _, _, rfl, .inr (.inr (.inl ⟨rfl, rfl⟩)), h, hA, Fr.refl _ _, .inl ⟨e, rfl, rfl⟩⟩
  · refine (flush_err B bw bb bc s w _ _ h (hA.e4 e)).mono ?_
    rintro e' w' ⟨rfl, rfl⟩
    exact ⟨_, _, _, _, _, rfl, .inr (.inr (.inr (.inl ⟨rfl, rfl⟩))), h, hA, Fr.refl _ _, .inr (.inl ⟨e, rfl, rfl⟩)⟩
theorem cl_step (hgl : Gl G B w) (hes : Es G B w) (h : Wr B bw bb bc s w) (hA : AbS G s a) (hlim : a.out.length ≤ 35184372088832) :
    Calls Tryz.prog 21 #[.pointer (some ⟨bw, 0, none⟩)] w (StepPost G B bw bb w (ClA a)) := by
  have hB := hgl.hB
  rcases er_cases hA.e2 with e | e | e
  · by_cases hnb : a.nb ≤ 0
    · refine (close_ok B bw bb bc s w a.pad.toNat G.p1 hgl.c1 (by omega) h hgl.size (hA.e0 e) (by rw [hA.nb]; exact hnb) (by rw [hA.pad]; have := hA.p0; omega) (by have := hA.p1; omega) (by rw [hA.out]; omega)).mono ?_
      rintro e' w' ⟨rfl, h1, f1⟩
      exact ⟨_, _, ⟨a.out ++ List.replicate a.pad.toNat 0 ++ List.replicate 1024 0, 0, a.nb, 1⟩, _, _, rfl, .inl ⟨rfl, rfl⟩, h1, ⟨by show s.out ++ _ ++ _ = _; rw [hA.out], rfl, Int.le_refl _, by show (0 : Int) ≤ 512; decide, hA.nb, hA.n0, hA.n1, rfl, by show 1 ≤ 2; decide⟩, f1, .inr (.inr (.inr ⟨e, hnb, rfl, rfl⟩))⟩
    · refine (close_miss2 B bw bb bc s w G.p1 hgl.c1 (by omega) h hgl.size (hA.e0 e) (by rw [hA.nb]; omega)).mono ?_
      rintro e' w' ⟨n, hn, rfl, h1, f1⟩
      exact ⟨_, _, ⟨a.out, a.pad, a.nb, 1⟩, _, _, rfl, .inr (.inr (.inr (.inr (.inl ⟨n, hn, rfl, rfl⟩)))), h1, ⟨hA.out, hA.pad, hA.p0, hA.p1, hA.nb, hA.n0, hA.n1, rfl, by show 1 ≤ 2; decide⟩, f1, .inr (.inr (.inl ⟨e, by omega, rfl, rfl⟩))⟩
  · refine (close_closed B bw bb bc s w G.p1 hgl.c1 h (hA.e1 e)).mono ?_
    rintro e' w' ⟨rfl, k, rfl⟩
    exact ⟨_, _, _, _, _, rfl, .inl ⟨rfl, rfl⟩, h.drewN k, hA, (Fr.refl _ _).drewN k, .inl ⟨e, rfl, rfl⟩⟩
  · obtain ⟨_, c4, t4, k4⟩ := hes.a4
    obtain ⟨_, c1, t1, k1⟩ := hes.a1
    refine (close_err B bw bb bc s w G.p1 G.p4 _ _ _ _ hgl.c1 h (hA.e4 e) (fun x => hes.d14 x.symm) k4 k1).mono ?_
    rintro e' w' ⟨rfl, k, rfl⟩
    exact ⟨_, _, _, _, _, rfl, .inr (.inr (.inr (.inl ⟨rfl, rfl⟩))), h.drewN k, hA, (Fr.refl _ _).drewN k, .inr (.inl ⟨e, rfl, rfl⟩)⟩
def StepPostN (G : GlP) (B bw bb : Nat) (w : World) (Q : AS → Nat → Int → Prop) (e : Ending) (w' : World) : Prop :=
  ∃ n v x a' s' bc', e = .returned (.tuple #[.int .i64 (n : Nat), v]) ∧ EndV G B v x w' ∧ Wr B bw bb bc' s' w' ∧ AbS G s' a' ∧ Fr B w w' ∧ Q a' n x
theorem wr_step (hgl : Gl G B w) (h : Wr B bw bb bc s w) (hA : AbS G s a) (ao : Option Addr) (n c : Nat) (cs : List UInt8) (hs : Src w bb ao n c cs) (hlim : a.out.length + n ≤ 140737488355328) :
    Calls Tryz.prog 19 #[.pointer (some ⟨bw, 0, none⟩), .slice ao n c] w (StepPostN G B bw bb w (WrA cs a)) := by
  have hB := hgl.hB
  rcases er_cases hA.e2 with e | e | e
  · refine (tw_write_ok B bw bb bc s w ao n c cs G.p0 hgl.c0 (by omega) h hgl.size hs (hA.e0 e) (by rw [hA.nb]; exact hA.n0) (by rw [hA.nb]; exact hA.n1) (by rw [hA.out]; exact hlim)).mono ?_
    rintro e' w' ⟨rfl, h1, f1⟩
    rw [hA.nb] at h1 ⊢
    have hle : (wNum a.nb n : Int) ≤ a.nb := by have := hA.n0; unfold wNum; omega
    refine ⟨_, _, _, ⟨a.out ++ cs.take (wNum a.nb n), a.pad, a.nb - wNum a.nb n, 0⟩, _, _, rfl, ?_, h1, ⟨by show s.out ++ _ = _; rw [hA.out], hA.pad, hA.p0, hA.p1, rfl, by show 0 ≤ a.nb - _; omega, by have := hA.n1; show a.nb - _ ≤ _; omega, (hA.e0 e).trans rfl, Nat.zero_le _⟩, f1, .inr (.inr ⟨e, by rw [hs.hn], rfl, rfl⟩)⟩
    unfold wErr
    rw [hs.hn]
    split
    · exact .inr (.inl ⟨rfl, rfl⟩)
    · exact .inl ⟨rfl, rfl⟩
  · refine (tw_write_err B bw bb bc s w _ _ _ h (hA.e1 e)).mono ?_
    rintro e' w' ⟨rfl, k, rfl⟩
    exact ⟨0, _, _, _, _, _, rfl, .inr (.inr (.inl ⟨rfl, rfl⟩)), h.drewN k, hA, (Fr.refl _ _).drewN k, .inl ⟨e, rfl, rfl, rfl⟩⟩
  · refine (tw_write_err B bw bb bc s w _ _ _ h (hA.e4 e)).mono ?_
    rintro e' w' ⟨rfl, k, rfl⟩
    exact ⟨0, _, _, _, _, _, rfl, .inr (.inr (.inr (.inl ⟨rfl, rfl⟩))), h.drewN k, hA, (Fr.refl _ _).drewN k, .inr (.inl ⟨e, rfl, rfl, rfl⟩)⟩
theorem bpad_rng (x : Int) : 0 ≤ bpad x ∧ bpad x ≤ 512 := by unfold bpad; omega
theorem szOf_range {x : Int} {f : UInt8} (h0 : hdrOnly f = false → 0 ≤ x) (h1 : x ≤ 9223372036854775807) : 0 ≤ szOf x f ∧ szOf x f ≤ 9223372036854775807 := by
  unfold szOf
  cases hf : hdrOnly f
  · simp [h0 hf]; omega
  · simp
theorem hd_step (hgl : Gl G B w) (h : Wr B bw bb bc s w) (hA : AbS G s a) (hlim : a.out.length ≤ 8796093021696) (hb : Nat) (H : Hd) (R : DataW Unit) (rn : Nat)
    (hhb : w.heap[hb]? = some (.cells H.cells.toArray 100 (0, 0))) (ok : H.Ok) (hn1 : H.name.size ≤ 1073741823) (hl1 : H.link.size ≤ 1073741823) (hr : RecM H.recs w.heap.size rn R w) (hxa : H.xat = .map none) (hRs : Small R) (hnr : 26 + rn < 1073741824)
    (fu fp fg : Bool) (hf : H.fmt = fm fu fp fg) (hlen : ∀ D, PaxK (whH H) R D → AllRec D → (paxData D).length ≤ 1073741824) :
    Calls Tryz.prog 17 #[.pointer (some ⟨bw, 0, none⟩), .pointer (some ⟨hb, 0, none⟩)] w (StepPost G B bw bb w (HdA H R fu fp fg a)) := by
  rcases er_cases hA.e2 with e | e | e
  · by_cases hnb : a.nb ≤ 0
    · refine (wh_any G B bw bb bc hb s w a.pad.toNat H R rn hgl h (hA.e0 e) (by rw [hA.nb]; exact hnb) (by rw [hA.pad]; have := hA.p0; omega) (by have := hA.p1; omega) (by rw [hA.out]; exact hlim) hhb ok hn1 hl1 hr hxa hRs hnr fu fp fg hf hlen).mono ?_
      have o1 : (whS s a.pad.toNat H).out = a.fl.st.out := by show s.out ++ _ = a.out ++ _; rw [hA.out]
      have er1 : (whS s a.pad.toNat H).err = .nilIface := hA.e0 e
      have okw := whH_ok H ok
      have hsz : badH (whH H) = false → 0 ≤ szOf (whH H).size (whH H).tf ∧ szOf (whH H).size (whH H).tf ≤ 9223372036854775807 := by
        intro hbd
        refine szOf_range ?_ (okw.size.2)
        intro hfo
        unfold badH at hbd
        rw [hfo] at hbd
        simp at hbd
        omega
      rintro e' w' (⟨v, bc', rfl, h1, f1, hbd⟩ | ⟨hbd, D, bc', hD, hAll, f1, h2⟩)
      · exact ⟨_, _, a.fl, _, _, rfl, .inr (.inr (.inr (.inr (.inr ⟨_, rfl, rfl⟩)))), h1, ⟨o1, rfl, Int.le_refl _, by show (0 : Int) ≤ 512; decide, hA.nb, hA.n0, hA.n1, hA.er, hA.e2⟩, f1, .inr (.inr (.inr ⟨e, hnb, .inl ⟨rfl, rfl, hbd⟩⟩))⟩
      · have hz := hsz hbd
        rcases h2 with ⟨hu, rfl, h1⟩ | ⟨hu, hp, hbig, rfl, h1⟩ | ⟨hu, hp, hbig, rfl, h1⟩ | ⟨hu, hp, hg, rfl, h1⟩
        · refine ⟨_, _, _, _, _, rfl, .inl ⟨rfl, rfl⟩, h1, ?_, f1, .inr (.inr (.inr ⟨e, hnb, .inr ⟨hbd, D, hD, hAll, .inl ⟨hu, rfl, usSt_as _ _ _ o1, h1.bl⟩⟩⟩))⟩
          exact ⟨rfl, rfl, (bpad_rng _).1, (bpad_rng _).2, rfl, hz.1, hz.2, er1, Nat.zero_le _⟩
        · exact ⟨_, _, ⟨a.fl.out, a.fl.pad, a.fl.nb, 2⟩, _, _, rfl, .inr (.inr (.inr (.inl ⟨rfl, rfl⟩))), h1, ⟨o1, rfl, Int.le_refl _, by show (0 : Int) ≤ 512; decide, hA.nb, hA.n0, hA.n1, rfl, Nat.le_refl _⟩, f1, .inr (.inr (.inr ⟨e, hnb, .inr ⟨hbd, D, hD, hAll, .inr (.inl ⟨hu, hp, hbig, rfl, rfl⟩)⟩⟩))⟩
        · have hpb : (whH H).tf ≠ 103 → (paxBlk (whH H)).length = 512 := by
            intro h3
            have h4 := h1.bl
            unfold paxStAll at h4
            rw [if_neg h3] at h4
            exact h4
          refine ⟨_, _, _, _, _, rfl, .inl ⟨rfl, rfl⟩, h1, ?_, f1, .inr (.inr (.inr ⟨e, hnb, .inr ⟨hbd, D, hD, hAll, .inr (.inr (.inl ⟨hu, hp, hbig, rfl, paxStAll_as _ _ _ _ o1, hpb⟩))⟩⟩))⟩
          refine ⟨rfl, rfl, ?_, ?_, rfl, ?_, ?_, ?_, Nat.zero_le _⟩
          · show 0 ≤ (paxStAll _ 0 (whH H) D).pad; unfold paxStAll; split
            · next h3 => unfold paxSt1; rw [if_pos (by unfold paxNeeds; simp [h3])]; exact (bpad_rng _).1
            · exact (bpad_rng _).1
          · show (paxStAll _ 0 (whH H) D).pad ≤ 512; unfold paxStAll; split
            · next h3 => unfold paxSt1; rw [if_pos (by unfold paxNeeds; simp [h3])]; exact (bpad_rng _).2
            · exact (bpad_rng _).2
          · show 0 ≤ (paxStAll _ 0 (whH H) D).nb; unfold paxStAll; split
            · next h3 => unfold paxSt1; rw [if_pos (by unfold paxNeeds; simp [h3])]; exact Int.le_refl _
            · exact hz.1
          · show (paxStAll _ 0 (whH H) D).nb ≤ _; unfold paxStAll; split
            · next h3 => unfold paxSt1; rw [if_pos (by unfold paxNeeds; simp [h3])]; show (0 : Int) ≤ _; decide
            · exact hz.2
          · rw [paxSt_err, er1]; rfl
        · refine ⟨_, _, _, _, _, rfl, .inl ⟨rfl, rfl⟩, h1, ?_, f1, .inr (.inr (.inr ⟨e, hnb, .inr ⟨hbd, D, hD, hAll, .inr (.inr (.inr ⟨hu, hp, hg, rfl, gnSt_as _ _ _ o1, h1.bl⟩))⟩⟩))⟩
          exact ⟨rfl, rfl, (bpad_rng _).1, (bpad_rng _).2, rfl, hz.1, hz.2, by rw [gnSt_err, er1]; rfl, Nat.zero_le _⟩
    · refine (wh_miss2 B bw bb bc s w _ h hgl.size (hA.e0 e) (by rw [hA.nb]; omega)).mono ?_
      rintro e' w' ⟨n, hn, rfl, h1, f1⟩
      exact ⟨_, _, _, _, _, rfl, .inr (.inr (.inr (.inr (.inl ⟨n, hn, rfl, rfl⟩)))), h1, hA, f1, .inr (.inr (.inl ⟨e, by omega, rfl, rfl⟩))⟩
  · refine (wh_err B bw bb bc s w _ _ _ h (hA.e1 e)).mono ?_
    rintro e' w' ⟨rfl, rfl⟩
    exact ⟨_, _, _, _, _, rfl, .inr (.inr (.inl ⟨rfl, rfl⟩)), h, hA, Fr.refl _ _, .inl ⟨e, rfl, rfl⟩⟩
  · refine (wh_err B bw bb bc s w _ _ _ h (hA.e4 e)).mono ?_
    rintro e' w' ⟨rfl, rfl⟩
    exact ⟨_, _, _, _, _, rfl, .inr (.inr (.inr (.inl ⟨rfl, rfl⟩))), h, hA, Fr.refl _ _, .inr (.inl ⟨e, rfl, rfl⟩)⟩
end
end Go.Proofs.YtpkilegnokajmaaGreatDoor
namespace Go.Proofs.YtpkilegnokajmaaGreatDoor
open Go.RowKit Go.Maps Go.Sort
/-- All that a map holds stands in a list. -/
def Cov (D : DataW Unit) (L : List (ByteArray × ByteArray)) : Prop := ∀ k v, getS D k = some v → ∃ p ∈ L, p.1.data.toList = k ∧ p.2.data.toList = v
theorem totR_app (a b : List (ByteArray × ByteArray)) : totR (a ++ b) = totR a + totR b := by unfold totR; rw [List.map_append, List.sum_append]
theorem totR_cons (p : ByteArray × ByteArray) (b : List (ByteArray × ByteArray)) : totR (p :: b) = (p.1.size + p.2.size + 24) + totR b := by unfold totR; rw [List.map_cons, List.sum_cons]
theorem recL_cov (D : DataW Unit) : ∀ (ks : List (List UInt8)) (L : List (ByteArray × ByteArray)), ks.Nodup → (∀ k ∈ ks, ∃ p ∈ L, p.1.data.toList = k ∧ p.2.data.toList = sget D k) → (∀ p ∈ L, p.1.size ≤ 1073741824 ∧ p.2.size ≤ 1073741824) → (recL D ks).length ≤ totR L
  | [], L, _, _, _ => Nat.zero_le _
  | k :: ks, L, hn, hk, hs => by
    obtain ⟨p, hp, h1, h2⟩ := hk k (List.mem_cons_self ..)
    have hsz := hs p hp
    obtain ⟨L1, L2, rfl⟩ := List.append_of_mem hp
    have hn2 := List.nodup_cons.1 hn
    have ih := recL_cov D ks (L1 ++ L2) hn2.2 (fun k' hk' => by
      obtain ⟨q, hq, e1, e2⟩ := hk k' (List.mem_cons_of_mem _ hk')
      refine ⟨q, ?_, e1, e2⟩
      have hne : q ≠ p := by rintro rfl; exact hn2.1 (by rw [← h1, e1]; exact hk')
      simp only [List.mem_append, List.mem_cons] at hq ⊢
      rcases hq with h | h | h
      · exact .inl h
      · exact absurd h hne
      · exact .inr h) (fun q hq => hs q (by simp only [List.mem_append, List.mem_cons] at hq ⊢; rcases hq with h | h; exact .inl h; exact .inr (.inr h)))
    have e : recL D (k :: ks) = (recB ⟨k.toArray⟩ ⟨(sget D k).toArray⟩).data.toList ++ recL D ks := rfl
    have ek : (⟨k.toArray⟩ : ByteArray) = p.1 := by rw [← h1]
    have ev : (⟨(sget D k).toArray⟩ : ByteArray) = p.2 := by rw [← h2]
    have hb := recB_size p.1 p.2 hsz.1 hsz.2
    rw [e, ek, ev, List.length_append, totR_app, totR_cons]
    rw [totR_app] at ih
    have e2 : (recB p.1 p.2).data.toList.length = (recB p.1 p.2).size := by rw [Array.length_toList]; rfl
    omega
theorem paxData_cov {D : DataW Unit} {L : List (ByteArray × ByteArray)} (hk : KOk D) (hc : Cov D L) (hs : ∀ p ∈ L, p.1.size ≤ 1073741824 ∧ p.2.size ≤ 1073741824) : (paxData D).length ≤ totR L :=
  recL_cov D _ L hk.1 (fun k h => hc k _ (getS_some ((hk.2 k).1 h))) hs
def MCov (D : DataW Unit) (L : List (ByteArray × ByteArray)) : Prop := IsMap D ∧ Cov D L
theorem MCov.put {D : DataW Unit} {L : List (ByteArray × ByteArray)} (h : MCov D L) (k v : ByteArray) (hm : (k, v) ∈ L) : MCov (D.put (sK k) (sV v.data.toList)) L := by
  refine ⟨h.1.put _ _, fun k' v' hg => ?_⟩
  unfold sK at hg
  rw [getS_put h.1] at hg
  split at hg
  · next e => cases hg; exact ⟨_, hm, e.symm, rfl⟩
  · exact h.2 _ _ hg
theorem putIf_cov {L : List (ByteArray × ByteArray)} {st : AfS} (h : MCov st.D L) (b : Bool) (k v : ByteArray) (hm : (k, v) ∈ L) : MCov (st.putIf b k v).D L := by
  unfold AfS.putIf
  split
  · exact h.put k v hm
  · exact h
theorem afStr_cov {L : List (ByteArray × ByteArray)} {st : AfS} (h : MCov st.D L) (R : DataW Unit) (path lo : Bool) (s key : ByteArray) (size : Nat) (hm : (key, s) ∈ L) : MCov (afStr R path lo s key size st).D L := by
  unfold afStr
  exact putIf_cov (putIf_cov (st := (st.noG (strBadG lo s size)).noU (strBadU path s size)) h _ _ _ hm) _ _ _ hm
theorem afNum_cov {L : List (ByteArray × ByteArray)} {st : AfS} (h : MCov st.D L) (R : DataW Unit) (no : Bool) (x : Int) (key : ByteArray) (size : Nat) (hm : (key, dec x) ∈ L) : MCov (afNum R no x key size st).D L := by
  unfold afNum
  exact putIf_cov (putIf_cov (st := ((st.noG (!fitB size x)).noU (!fitO size x)).noP (!fitO size x && no)) h _ _ _ hm) _ _ _ hm
theorem afTime_cov {L : List (ByteArray × ByteArray)} {st : AfS} (h : MCov st.D L) (R : DataW Unit) (mt : Bool) (n : Nat) (x : Int) (key : ByteArray) (hm : (key, ptime n x) ∈ L) : MCov (afTime R mt n x key st).D L := by
  unfold afTime
  split
  · exact h
  · unfold afTime1
    exact putIf_cov (putIf_cov (st := ((st.noG (!fitB 12 (tmUnix x))).noU (!(mt && fitO 12 (tmUnix x)))).wish (tmNeed mt n x)) h _ _ _ hm) _ _ _ hm
def baseL (H : Hd) : List (ByteArray × ByteArray) := [(kPathB, H.name), (kLinkB, H.link), (kUnameB, H.uname), (kGnameB, H.gname), (kNoneB, dec H.mode), (kUidB, dec H.uid), (kGidB, dec H.gid), (kSizeB, dec H.size), (kNoneB, dec H.maj), (kNoneB, dec H.min), (kMtimeB, ptime H.mn H.mx), (kAtimeB, ptime H.an H.ax), (kCtimeB, ptime H.cn H.cx)]
theorem afBase_cov (H : Hd) (R : DataW Unit) : MCov (afBase H R).D (baseL H) := by
  have h0 : MCov st0.D (baseL H) := ⟨isMap_empty, fun k v h => by cases h⟩
  have h1 := afStr_cov h0 R true true H.name kPathB 100 (by simp [baseL])
  have h2 := afStr_cov h1 R false true H.link kLinkB 100 (by simp [baseL])
  have h3 := afStr_cov h2 R false false H.uname kUnameB 32 (by simp [baseL])
  have h4 := afStr_cov h3 R false false H.gname kGnameB 32 (by simp [baseL])
  have h5 := afNum_cov h4 R true H.mode kNoneB 8 (by simp [baseL])
  have h6 := afNum_cov h5 R false H.uid kUidB 8 (by simp [baseL])
  have h7 := afNum_cov h6 R false H.gid kGidB 8 (by simp [baseL])
  have h8 := afNum_cov h7 R false H.size kSizeB 12 (by simp [baseL])
  have h9 := afNum_cov h8 R true H.maj kNoneB 8 (by simp [baseL])
  have h10 := afNum_cov h9 R true H.min kNoneB 8 (by simp [baseL])
  have h11 := afTime_cov h10 R true H.mn H.mx kMtimeB (by simp [baseL])
  have h12 := afTime_cov h11 R false H.an H.ax kAtimeB (by simp [baseL])
  exact afTime_cov h12 R false H.cn H.cx kCtimeB (by simp [baseL])
theorem recD_cov (rs : List (ByteArray × ByteArray)) : MCov (recD rs) rs := by
  have h : ∀ (l : List (ByteArray × ByteArray)) (D : DataW Unit), (∀ p ∈ l, p ∈ rs) → MCov D rs → MCov (l.foldl (fun D kv => D.put (sK kv.1) (sV kv.2.data.toList)) D) rs := by
    intro l
    induction l with
    | nil => intro D _ hD; exact hD
    | cons p l ih => intro D hl hD; exact ih _ (fun q hq => hl q (List.mem_cons_of_mem _ hq)) (hD.put p.1 p.2 (hl p (List.mem_cons_self ..)))
  exact h rs _ (fun p hp => hp) ⟨isMap_empty, fun k v h => by cases h⟩
theorem pax_cov {H : Hd} {R D : DataW Unit} {rs : List (ByteArray × ByteArray)} (hR : Cov R rs) (hD : PaxOf H R D) : Cov D (baseL H ++ rs) := by
  intro k v hg
  rw [hD k] at hg
  split at hg
  · next v' e =>
    cases hg
    obtain ⟨p, hp, h1, h2⟩ := (afBase_cov H R).2 k _ e
    exact ⟨p, List.mem_append.2 (.inl hp), h1, h2⟩
  · split at hg
    · obtain ⟨p, hp, h1, h2⟩ := hR k v hg
      exact ⟨p, List.mem_append.2 (.inr hp), h1, h2⟩
    · cases hg
theorem baseL_tot (H : Hd) (ok : H.Ok) : totR (baseL H) ≤ H.name.size + H.link.size + H.uname.size + H.gname.size + 2000 := by
  have d1 := dec_size H.mode ok.mode.1 ok.mode.2
  have d2 := dec_size H.uid ok.uid.1 ok.uid.2
  have d3 := dec_size H.gid ok.gid.1 ok.gid.2
  have d4 := dec_size H.size ok.size.1 ok.size.2
  have d5 := dec_size H.maj ok.maj.1 ok.maj.2
  have d6 := dec_size H.min ok.min.1 ok.min.2
  have p1 := ptime_size H.mn H.mx ok.mn
  have p2 := ptime_size H.an H.ax ok.an
  have p3 := ptime_size H.cn H.cx ok.cn
  have k1 : kPathB.size = 4 := rfl
  have k2 : kLinkB.size = 8 := rfl
  have k3 : kUnameB.size = 5 := rfl
  have k4 : kGnameB.size = 5 := rfl
  have k5 : kNoneB.size = 0 := rfl
  have k6 : kUidB.size = 3 := rfl
  have k7 : kGidB.size = 3 := rfl
  have k8 : kSizeB.size = 4 := rfl
  have k9 : kMtimeB.size = 5 := rfl
  have k10 : kAtimeB.size = 5 := rfl
  have k11 : kCtimeB.size = 5 := rfl
  have k12 : totR [] = 0 := rfl
  unfold baseL
  simp only [totR_cons, k12]
  omega
theorem baseL_small (H : Hd) (ok : H.Ok) : ∀ p ∈ baseL H, p.1.size ≤ 1073741824 ∧ p.2.size ≤ 1073741824 := by
  have d1 := dec_size H.mode ok.mode.1 ok.mode.2
  have d2 := dec_size H.uid ok.uid.1 ok.uid.2
  have d3 := dec_size H.gid ok.gid.1 ok.gid.2
  have d4 := dec_size H.size ok.size.1 ok.size.2
  have d5 := dec_size H.maj ok.maj.1 ok.maj.2
  have d6 := dec_size H.min ok.min.1 ok.min.2
  have p1 := ptime_size H.mn H.mx ok.mn
  have p2 := ptime_size H.an H.ax ok.an
  have p3 := ptime_size H.cn H.cx ok.cn
  intro p hp
  unfold baseL at hp
  simp only [List.mem_cons, List.not_mem_nil, or_false] at hp
  rcases hp with rfl | rfl | rfl | rfl | rfl | rfl | rfl | rfl | rfl | rfl | rfl | rfl | rfl
  · exact ⟨Nat.le_of_ble_eq_true rfl, ok.name⟩
  · exact ⟨Nat.le_of_ble_eq_true rfl, ok.link⟩
  · exact ⟨Nat.le_of_ble_eq_true rfl, ok.uname⟩
  · exact ⟨Nat.le_of_ble_eq_true rfl, ok.gname⟩
  all_goals exact ⟨Nat.le_of_ble_eq_true rfl, by simp only; omega⟩
theorem pax_len {H : Hd} {D : DataW Unit} {rs : List (ByteArray × ByteArray)} (ok : H.Ok) (hs : ∀ p ∈ rs, p.1.size ≤ 1048576 ∧ p.2.size ≤ 1048576) (hD : PaxK H (recD rs) D) : (paxData D).length ≤ H.name.size + H.link.size + H.uname.size + H.gname.size + 2000 + totR rs := by
  have h1 := paxData_cov hD.2 (pax_cov (recD_cov rs).2 hD.1) (fun p hp => by
    rcases List.mem_append.1 hp with h | h
    · exact baseL_small H ok p h
    · have := hs p h; omega)
  have h2 := baseL_tot H ok
  rw [totR_app] at h1
  omega
theorem recD_small {rs : List (ByteArray × ByteArray)} (hs : ∀ p ∈ rs, p.1.size ≤ 1048576 ∧ p.2.size ≤ 1048576) : Small (recD rs) := by
  intro k v hg
  obtain ⟨p, hp, rfl, rfl⟩ := (recD_cov rs).2 k v hg
  have := hs p hp
  have e1 : p.1.data.toList.length = p.1.size := by rw [Array.length_toList]; rfl
  have e2 : p.2.data.toList.length = p.2.size := by rw [Array.length_toList]; rfl
  omega
end Go.Proofs.YtpkilegnokajmaaGreatDoor
namespace Go.Proofs.YtpkilegnokajmaaGreatDoor
open Go.RowKit Go.Maps
theorem unixN_lt (n : Int) : unixN n < 1000000000 := by unfold unixN; omega
theorem unixX_rng (s n : Int) : -9223372036854775808 ≤ unixX s n ∧ unixX s n ≤ 9223372036854775807 := by unfold unixX wrap64; omega
section
variable {B : Nat} {h : InH} {a : Option Addr} {n c : Nat} {rs : List (ByteArray × ByteArray)} {w : World}
theorem hdA_parts (h : InH) (H : Hd) : (hdA h H).name = H.name ∧ (hdA h H).link = H.link ∧ (hdA h H).uname = H.uname ∧ (hdA h H).gname = H.gname ∧ (hdA h H).size = H.size ∧ (hdA h H).mode = H.mode ∧ (hdA h H).uid = H.uid ∧ (hdA h H).gid = H.gid ∧ (hdA h H).maj = H.maj ∧ (hdA h H).min = H.min ∧ (hdA h H).fmt = H.fmt ∧ (hdA h H).tf = H.tf ∧ (hdA h H).xat = H.xat ∧ (hdA h H).mn = H.mn ∧ (hdA h H).mx = H.mx ∧ (hdA h H).cn = H.cn ∧ (hdA h H).cx = H.cx := by
  unfold hdA; split <;> simp
theorem hdC_parts (h : InH) (H : Hd) : (hdC h H).name = H.name ∧ (hdC h H).link = H.link ∧ (hdC h H).uname = H.uname ∧ (hdC h H).gname = H.gname ∧ (hdC h H).size = H.size ∧ (hdC h H).mode = H.mode ∧ (hdC h H).uid = H.uid ∧ (hdC h H).gid = H.gid ∧ (hdC h H).maj = H.maj ∧ (hdC h H).min = H.min ∧ (hdC h H).fmt = H.fmt ∧ (hdC h H).tf = H.tf ∧ (hdC h H).xat = H.xat ∧ (hdC h H).mn = H.mn ∧ (hdC h H).mx = H.mx ∧ (hdC h H).an = H.an ∧ (hdC h H).ax = H.ax := by
  unfold hdC; split <;> simp
theorem hd_parts (h : InH) (m : Value) : (h.hd m).name = h.name ∧ (h.hd m).link = h.link ∧ (h.hd m).uname = h.uname ∧ (h.hd m).gname = h.gname ∧ (h.hd m).size = h.size ∧ (h.hd m).mode = h.mode ∧ (h.hd m).uid = h.uid ∧ (h.hd m).gid = h.gid ∧ (h.hd m).maj = h.maj ∧ (h.hd m).min = h.min ∧ (h.hd m).fmt = fm (fmtU h.fmt) (fmtP h.fmt) (fmtG h.fmt) ∧ (h.hd m).tf = h.tf ∧ (h.hd m).xat = .map none ∧ (h.hd m).mn = unixN h.mn ∧ (h.hd m).mx = unixX h.ms h.mn ∧ (h.hd m).recs = m ∧
    (h.hd m).an = (if h.ha then unixN h.acn else 0) ∧ (h.hd m).ax = (if h.ha then unixX h.acs h.acn else 0) ∧ (h.hd m).cn = (if h.hc then unixN h.cn else 0) ∧ (h.hd m).cx = (if h.hc then unixX h.cs h.cn else 0) := by
  unfold InH.hd hdC hdA
  cases h.hc <;> cases h.ha <;> simp [InH.hd0]
theorem hd_ok (x : HdI B w h a n c rs) (m : Value) : (h.hd m).Ok := by
  have p := hd_parts h m
  have hn := x.num
  unfold i64R at hn
  refine ⟨?_, ?_, ?_, ?_, ?_, ?_, ?_, ?_, ?_, ?_, ?_, ?_, ?_, ?_, ?_, ?_⟩
  · rw [p.1]; have := x.name; omega
  · rw [p.2.1]; have := x.link; omega
  · rw [p.2.2.1]; have := x.uname; omega
  · rw [p.2.2.2.1]; have := x.gname; omega
  · rw [p.2.2.2.2.1]; exact hn.1
  · rw [p.2.2.2.2.2.1]; exact hn.2.1
  · rw [p.2.2.2.2.2.2.1]; exact hn.2.2.1
  · rw [p.2.2.2.2.2.2.2.1]; exact hn.2.2.2.1
  · rw [p.2.2.2.2.2.2.2.2.1]; exact hn.2.2.2.2.1
  · rw [p.2.2.2.2.2.2.2.2.2.1]; exact hn.2.2.2.2.2.1
  · rw [p.2.2.2.2.2.2.2.2.2.2.2.2.2.1]; exact unixN_lt _
  · rw [p.2.2.2.2.2.2.2.2.2.2.2.2.2.2.2.2.1]; split; exact unixN_lt _; decide
  · rw [p.2.2.2.2.2.2.2.2.2.2.2.2.2.2.2.2.2.2.1]; split; exact unixN_lt _; decide
  · rw [p.2.2.2.2.2.2.2.2.2.2.2.2.2.2.1]; exact unixX_rng _ _
  · rw [p.2.2.2.2.2.2.2.2.2.2.2.2.2.2.2.2.2.1]; split; exact unixX_rng _ _; decide
  · rw [p.2.2.2.2.2.2.2.2.2.2.2.2.2.2.2.2.2.2.2]; split; exact unixX_rng _ _; decide
/-- impl.header, with records or without. -/
theorem header_any (x : HdI B w h a n c rs) (hB : B ≤ w.heap.size) : Calls Tryz.prog 18 #[.agg h.cells.toArray] w fun e w' =>
    ∃ hb m, e = .returned (.pointer (some ⟨hb, 0, none⟩)) ∧ w'.heap[hb]? = some (.cells (h.hd m).cells.toArray 100 (0, 0)) ∧ RecM m w'.heap.size n (recD rs) w' ∧ Below w.heap.size w w' := by
  by_cases h0 : n = 0
  · subst h0
    refine (header_none h x.ok w ⟨a, c, x.rv⟩).mono ?_
    rintro e w' ⟨hb, _, rfl, h1, h2⟩
    refine ⟨hb, .map none, rfl, h1, .inl ⟨rfl, ?_⟩, h2⟩
    have : rs = [] := List.eq_nil_of_length_eq_zero x.rc.1
    rw [this]; rfl
  · refine (header_recs B h a n c rs w x hB (by omega)).mono ?_
    rintro e w' ⟨hb, m, _, rfl, h1, h2, h3⟩
    exact ⟨hb, _, rfl, h1, .inr ⟨m, rfl, h2.lt, h2⟩, h3⟩
theorem wh_size (H : Hd) : (whH H).uname = H.uname ∧ (whH H).gname = H.gname ∧ (whH H).size = H.size := by
  have h1 : ∀ K : Hd, (hdRound K).uname = K.uname ∧ (hdRound K).gname = K.gname ∧ (hdRound K).size = K.size := by intro K; unfold hdRound; split <;> simp
  have h2 : ∀ K : Hd, (hdProm K).uname = K.uname ∧ (hdProm K).gname = K.gname ∧ (hdProm K).size = K.size := by intro K; unfold hdProm; split <;> simp
  have a := h1 (hdProm H)
  have b := h2 H
  exact ⟨a.1.trans b.1, a.2.1.trans b.2.1, a.2.2.trans b.2.2⟩
theorem hd_len (x : HdI B w h a n c rs) (m : Value) {D : DataW Unit} (hD : PaxK (whH (h.hd m)) (recD rs) D) : (paxData D).length ≤ h.name.size + h.link.size + h.uname.size + h.gname.size + 2000 + totR rs := by
  have h1 := pax_len (whH_ok _ (hd_ok x m)) x.rs hD
  have p := hd_parts h m
  have k := wh_keeps (h.hd m)
  have k2 := wh_size (h.hd m)
  rw [k.2.2.2.1, k.2.2.2.2, k2.1, k2.2.1, p.1, p.2.1, p.2.2.1, p.2.2.2.1] at h1
  exact h1
/-- WriteHeader of a header that came in. -/
theorem hd_call {G : GlP} {bw bb bc : Nat} {s : WSt} {A : AS} {w0 : World} (hgl : Gl G B w) (h1 : Wr B bw bb bc s w) (hA : AbS G s A) (hlim : A.out.length ≤ 8796093021696) {Bx : Nat} (x : HdI Bx w0 h a n c rs) (hb : Nat) (m : Value)
    (hhb : w.heap[hb]? = some (.cells (h.hd m).cells.toArray 100 (0, 0))) (hr : RecM m w.heap.size n (recD rs) w) :
    Calls Tryz.prog 17 #[.pointer (some ⟨bw, 0, none⟩), .pointer (some ⟨hb, 0, none⟩)] w (StepPost G B bw bb w (HdA (h.hd m) (recD rs) (fmtU h.fmt) (fmtP h.fmt) (fmtG h.fmt) A)) := by
  have p := hd_parts h m
  have hn : n ≤ 1048576 := by have := totR_len rs; have := x.rc.1; have := x.tot; omega
  refine hd_step hgl h1 hA hlim hb (h.hd m) (recD rs) n hhb (hd_ok x m) (by rw [p.1]; have := x.name; omega) (by rw [p.2.1]; have := x.link; omega) (by rw [p.2.2.2.2.2.2.2.2.2.2.2.2.2.2.2.1]; exact hr) p.2.2.2.2.2.2.2.2.2.2.2.2.1 (recD_small x.rs) (by omega) _ _ _ p.2.2.2.2.2.2.2.2.2.2.1 ?_
  intro D hD _
  have := hd_len x m hD
  have := x.name
  have := x.link
  have := x.uname
  have := x.gname
  have := x.tot
  omega
/-- bytes.Clone of bytes that came in. -/
theorem clone_any {da : Option Addr} {dn dc : Nat} {data : List UInt8} (x : DatI B w da dn dc data) : Calls Tryz.prog 20 #[.slice da dn dc] w fun e w' =>
    ∃ ao c', e = .returned (.slice ao dn c') ∧ (∀ bb, bb < w.heap.size → Src w' bb ao dn c' data) ∧ Below w.heap.size w w' := by
  cases hda : da with
  | none =>
    obtain ⟨h0, h1⟩ := x.nil hda
    subst h0 h1
    have hd : data = [] := List.eq_nil_of_length_eq_zero x.len
    subst hd
    refine (Tryz.bytes_Clone_nil 0 0 w).mono ?_
    rintro e w' ⟨rfl, rfl⟩
    exact ⟨none, 0, rfl, fun bb _ => ⟨rfl, Nat.le_refl _, by unfold maxLen; omega, fun _ => rfl, fun a ha => by cases ha⟩, Below.refl _ _⟩
  | some a =>
    have hs := (x.src a hda).2
    have hl := x.len
    have hb := x.big
    have hget : ∀ i, i < dn → w.cell? (a.add i) = some (.int .u8 ((data.map fun b : UInt8 => (b.toNat : Int)).getD i 0)) := by
      intro i hi
      have h1 : data[i]? = some (data[i]'(by omega)) := List.getElem?_eq_getElem (by omega)
      have h2 := hs i (u8 (data[i]'(by omega))) (by unfold cells; rw [List.getElem?_map, h1]; rfl)
      rw [h2, List.getD_eq_getElem?_getD, List.getElem?_map, h1]
      rfl
    refine (Tryz.bytes_Clone_at a dn dc (data.map fun b : UInt8 => (b.toNat : Int)) w (by rw [List.length_map]; exact hl) (by omega) hget).mono ?_
    rintro e w' ⟨v, rfl, hrow, _, hbl⟩
    have hc : (data.map fun b : UInt8 => (b.toNat : Int)).map (Value.int .u8) = cells data := by unfold cells; rw [List.map_map]; rfl
    rw [hc] at hrow
    rcases hrow.2 with ⟨rfl, h0⟩ | ⟨g, cap, cur, rfl, hg, hgb, hc1, hcm, hcs, ht⟩
    · subst h0
      have hd : data = [] := List.eq_nil_of_length_eq_zero hl
      subst hd
      exact ⟨none, 0, rfl, fun bb _ => ⟨rfl, Nat.le_refl _, by unfold maxLen; omega, fun _ => rfl, fun a ha => by cases ha⟩, hbl⟩
    · refine ⟨_, cap, rfl, fun bb hbb => ⟨hl, hc1, hcm, (fun h => by cases h), fun a' ha => ?_⟩, hbl⟩
      cases ha
      exact ⟨by show g ≠ bb; omega, hrow.cells (g := g) rfl⟩
end
theorem gnL_len (s : WSt) (p : Nat) (x : ByteArray) (f : UInt8) : s.out.length ≤ (gnL s p x f).out.length ∧ (gnL s p x f).out.length ≤ s.out.length + p + 513 + x.size := by
  unfold gnL
  split
  · rw [rawFileSt_len, ByteArray.size_append]
    have : (⟨#[0]⟩ : ByteArray).size = 1 := rfl
    omega
  · omega
theorem rawSt_bk (s : WSt) (b : List UInt8) (p : Nat) (z : Int) (f : UInt8) : ((rawSt (s.bk b) p z f).as 0).out = s.out ++ List.replicate p 0 ++ b := rfl
theorem gnP_le2 (p : Nat) (x : ByteArray) (hp : p ≤ 512) : gnP p x ≤ 512 := by
  unfold gnP
  split
  · have := bpad_rng ((x ++ ⟨#[0]⟩ : ByteArray).size); omega
  · exact hp
/-- How much a header writes. -/
theorem wh_len {H : Hd} {R : DataW Unit} {fu fp fg : Bool} {a a' : AS} {x : Int} (h : WhA H R fu fp fg a a' x) : a.out.length ≤ a'.out.length ∧ a'.out.length ≤ a.out.length + 1048576 + 4096 + H.name.size + H.link.size := by
  rcases h with ⟨rfl, rfl, _⟩ | ⟨_, D, hD, _, h | h | h | h⟩
  · omega
  · obtain ⟨_, rfl, rfl, hb⟩ := h
    have e : ((usSt a.st 0 H).as 0).out.length = a.out.length + 512 := by
      show (a.out ++ List.replicate 0 0 ++ usBlk H).length = _
      simp [hb]
    omega
  · obtain ⟨_, _, _, rfl, rfl⟩ := h
    refine ⟨Nat.le_refl _, ?_⟩
    show a.out.length ≤ _
    omega
  · obtain ⟨_, _, hbig, rfl, rfl, hb⟩ := h
    have h1 : a.out.length ≤ (paxSt1 a.st 0 H D).out.length ∧ (paxSt1 a.st 0 H D).out.length ≤ a.out.length + 512 + 1048576 := by
      unfold paxSt1
      split
      · next hn =>
        rw [rawFileSt_len]
        have : (⟨(paxData D).toArray⟩ : ByteArray).size = (paxData D).length := rfl
        have h2 : ¬ 1048576 < (paxData D).length := fun h => hbig ⟨hn, h⟩
        show a.out.length ≤ a.out.length + _ + _ + _ ∧ a.out.length + _ + _ + _ ≤ _
        omega
      · show a.out.length ≤ a.out.length ∧ a.out.length ≤ _
        omega
    show a.out.length ≤ (paxStAll a.st 0 H D).out.length ∧ (paxStAll a.st 0 H D).out.length ≤ _
    unfold paxStAll
    split
    · omega
    · next h3 =>
      have hp := bpad_rng (paxData D).length
      have hpp : paxPad 0 H D ≤ 512 := by unfold paxPad; split <;> omega
      have e : (paxSt2 (paxSt1 a.st 0 H D) (paxPad 0 H D) H).out = (paxSt1 a.st 0 H D).out ++ List.replicate (paxPad 0 H D) 0 ++ paxBlk H := by unfold paxSt2; exact rawSt_bk _ _ _ H.size H.tf
      rw [e, List.length_append, List.length_append, List.length_replicate, hb h3]
      omega
  · obtain ⟨_, _, _, rfl, rfl, hb⟩ := h
    have g1 := gnL_len a.st 0 H.name 76
    have g2 := gnL_len (gnL a.st 0 H.name 76) (gnP 0 H.name) H.link 75
    have q1 := gnP_le2 0 H.name (by omega)
    have e1 := gnP_le2 (gnP 0 H.name) H.link q1
    have e : ((gnSt a.st 0 H).as 0).out = (gnS a.st 0 H).out ++ List.replicate (gnPad 0 H) 0 ++ gnBlk H := by unfold gnSt; exact rawSt_bk _ _ _ H.size H.tf
    rw [e, List.length_append, List.length_append, List.length_replicate, hb]
    have e0 : gnPad 0 H = gnP (gnP 0 H.name) H.link := rfl
    have e2 : gnS a.st 0 H = gnL (gnL a.st 0 H.name 76) (gnP 0 H.name) H.link 75 := rfl
    have e3 : a.st.out.length = a.out.length := rfl
    rw [e2, e0]
    omega
theorem Gl.mono {G : GlP} {B B' : Nat} {w : World} (h : Gl G B w) (h1 : B ≤ B') (h2 : B' ≤ w.heap.size) : Gl G B' w :=
  { h with hB := Nat.le_trans h.hB h1, size := h2, mkB := Nat.lt_of_lt_of_le h.mkB h1 }
theorem Es.mono {G : GlP} {B B' : Nat} {w : World} (h : Es G B w) (h1 : B ≤ B') : Es G B' w :=
  { h with
    a0 := ⟨Nat.lt_of_lt_of_le h.a0.1 h1, h.a0.2⟩, a1 := ⟨Nat.lt_of_lt_of_le h.a1.1 h1, h.a1.2⟩, a2 := ⟨Nat.lt_of_lt_of_le h.a2.1 h1, h.a2.2⟩, a3 := ⟨Nat.lt_of_lt_of_le h.a3.1 h1, h.a3.2⟩,
    a4 := ⟨Nat.lt_of_lt_of_le h.a4.1 h1, h.a4.2⟩, a5 := ⟨Nat.lt_of_lt_of_le h.a5.1 h1, h.a5.2⟩, a6 := ⟨Nat.lt_of_lt_of_le h.a6.1 h1, h.a6.2⟩ }
structure DoneI where
  n : Nat
  e : Int
  len : Nat
def DoneI.cells (d : DoneI) : List Value := [.int .i64 d.n, .int .i64 d.e, .int .i64 d.len]
def doneCs (ds : List DoneI) : List Value := ds.flatMap DoneI.cells
theorem doneCs_snoc (ds : List DoneI) (d : DoneI) : doneCs (ds ++ [d]) = doneCs ds ++ [.int .i64 d.n, .int .i64 d.e, .int .i64 d.len] := by simp [doneCs, DoneI.cells]
/-- One call. -/
def OpStep (x : OpI) (a a' : AS) (d : DoneI) : Prop :=
  d.len = a'.out.length ∧
  ((x.kind = 0 ∧ d.n = 0 ∧ ∃ m, HdA (x.h.hd m) (recD x.rs) (fmtU x.h.fmt) (fmtP x.h.fmt) (fmtG x.h.fmt) a a' d.e) ∨
   (x.kind = 1 ∧ WrA x.data a a' d.n d.e) ∨
   (x.kind = 3 ∧ d.n = 0 ∧ ClA a a' d.e) ∨
   (x.kind ≠ 0 ∧ x.kind ≠ 1 ∧ x.kind ≠ 3 ∧ d.n = 0 ∧ FlA a a' d.e))
def Run : List OpI → AS → List DoneI → AS → Prop
  | [], a, ds, b => ds = [] ∧ b = a
  | x :: xs, a, ds, b => ∃ d ds' c, ds = d :: ds' ∧ OpStep x a c d ∧ Run xs c ds' b
theorem Run.snoc {x : OpI} {d : DoneI} {b c : AS} (hs : OpStep x b c d) : ∀ {xs : List OpI} {a : AS} {ds : List DoneI}, Run xs a ds b → Run (xs ++ [x]) a (ds ++ [d]) c
  | [], a, ds, h => by obtain ⟨rfl, rfl⟩ := h; exact ⟨d, [], c, rfl, hs, rfl, rfl⟩
  | y :: ys, a, ds, h => by
    obtain ⟨d1, ds1, a1, rfl, h1, h2⟩ := h
    exact ⟨d1, ds1 ++ [d], a1, rfl, h1, Run.snoc hs h2⟩
def a0 : AS := ⟨[], 0, 0, 0⟩
theorem own36_fr {B base k : Nat} {w w' : World} {v : Value} {cs : List Value} (h : w.ownsRow base 36 3 v k cs) (f : Fr B w w') : w'.ownsRow base 36 3 v k cs := by
  refine ⟨h.1, ?_⟩
  rcases h.2 with h0 | ⟨g, cap, cur, rfl, hb, hg, hr⟩
  · exact .inl h0
  · exact .inr ⟨g, cap, cur, rfl, hb, f.kept _ _ hg (by rintro ⟨c, fz, e | e | e | e⟩ <;> (injection e with _ e2 _; exact absurd e2 (by decide))), hr⟩
theorem Wr.grown36 {B bw bb bc base k : Nat} {s : WSt} {w w' : World} {v : Value} {cs : List Value} (h : Wr B bw bb bc s w) (ho : w.ownsRow base 36 3 v k cs) (hg : w.grownBy w' v.ownBlock) : Wr B bw bb bc s w' := by
  have hk : Kp (fun j => v.ownBlock = some j) w w' := ⟨hg.os, hg.tape, hg.output, hg.size, fun j hj hn => hg.block j hj (fun e => hn e.symm)⟩
  have hne : ∀ j c t fr, v.ownBlock = some j → w.heap[j]? = some (.cells c t fr) → t = 36 := by
    intro j c t fr hv hj
    rcases ho.2 with ⟨rfl, _⟩ | ⟨g, cap, cur, rfl, _, hgb, _⟩
    · simp [Value.ownBlock] at hv
    · simp [Value.ownBlock] at hv
      subst hv
      rw [hgb] at hj
      injection hj with hj
      injection hj with _ e _
      exact e.symm
  exact ⟨hk.get h.hw (fun e => absurd (hne _ _ _ _ e h.hw) (by decide)), hk.get h.hc (fun e => absurd (hne _ _ _ _ e h.hc) (by decide)), buf_kp h.hb hk (fun j c t fr hv hj => by rw [hne j c t fr hv hj]; exact ⟨by decide, by decide⟩), h.hl, h.bl, h.Bw, h.Bc, h.n1, h.n2, h.n3⟩
theorem Fr.grown36 {B base k : Nat} {w0 w w' : World} {v : Value} {cs : List Value} (f : Fr B w0 w) (hB : B ≤ w.heap.size) (ho : w.ownsRow base 36 3 v k cs) (hbase : B ≤ base) (hg : w.grownBy w' v.ownBlock) : Below B w0 w' :=
  f.below.grown hg hB (fun j hj => Nat.le_trans hbase (ho.lt j hj).1)
theorem own_drew {base e z k : Nat} {w : World} {v : Value} {cs : List Value} (h : w.ownsRow base e z v k cs) (q : Nat) : (w.drewN q).ownsRow base e z v k cs := h
theorem info36 : (Tryz.prog.info? 36).map (fun i => (i.zero, i.size, i.bytes)) = some (some (.agg #[.int .i64 0, .int .i64 0, .int .i64 0]), 3, 24) := by kernel_rfl
theorem three_new (w : World) (a b c : Value) (T : TypeId) : ∀ (j : Nat) u, [a, b, c][j]? = some u → (w.alloc (.cells #[a, b, c] T (0, 0))).cell? ((⟨w.heap.size, 0, none⟩ : Addr).add j) = some u := by
  intro j u hj
  have e : (⟨w.heap.size, 0, none⟩ : Addr).add j = ⟨w.heap.size, j, none⟩ := by unfold Addr.add; split <;> simp_all
  rw [e]
  exact cell_blk (C := [a, b, c]) (heap_alloc_new w _) hj
theorem info_parts3 {t : TypeId} {z : Value} {n m : Nat} (h : (Tryz.prog.info? t).map (fun i => (i.zero, i.size, i.bytes)) = some (some z, n, m)) : ∃ i, Tryz.prog.info? t = some i ∧ i.zero = some z ∧ i.size = n ∧ i.bytes = m := info_parts h
/-- How much a call writes. -/
theorem step_len {x : OpI} {a a' : AS} {d : DoneI} {B : Nat} {w : World} (ok : OpOk B w x) (hp : a.pad ≤ 512) (h : OpStep x a a' d) : a.out.length ≤ a'.out.length ∧ a'.out.length ≤ a.out.length + 4194304 := by
  have hfl : a.fl.out.length = a.out.length + a.pad.toNat := by show (a.out ++ List.replicate a.pad.toNat 0).length = _; rw [List.length_append, List.length_replicate]
  obtain ⟨_, h | h | h | h⟩ := h
  · obtain ⟨_, _, m, h⟩ := h
    rcases h with ⟨_, _, rfl⟩ | ⟨_, _, rfl⟩ | ⟨_, _, _, rfl⟩ | ⟨_, _, h⟩
    · omega
    · omega
    · omega
    · have h1 := wh_len h
      have k := wh_keeps (x.h.hd m)
      have p := hd_parts x.h m
      rw [k.2.2.2.1, k.2.2.2.2, p.1, p.2.1] at h1
      have := ok.hd.name
      have := ok.hd.link
      omega
  · obtain ⟨_, h⟩ := h
    have hl := ok.dt.len
    have hb := ok.dt.big
    rcases h with ⟨_, _, _, rfl⟩ | ⟨_, _, _, rfl⟩ | ⟨_, hn, _, rfl⟩
    · omega
    · omega
    · show a.out.length ≤ (a.out ++ x.data.take d.n).length ∧ (a.out ++ x.data.take d.n).length ≤ _
      rw [List.length_append, List.length_take]
      omega
  · obtain ⟨_, _, h⟩ := h
    rcases h with ⟨_, _, rfl⟩ | ⟨_, _, rfl⟩ | ⟨_, _, _, rfl⟩ | ⟨_, _, _, rfl⟩
    · omega
    · omega
    · show a.out.length ≤ a.out.length ∧ a.out.length ≤ _; omega
    · show a.out.length ≤ (a.out ++ List.replicate a.pad.toNat 0 ++ List.replicate 1024 0).length ∧ (a.out ++ List.replicate a.pad.toNat 0 ++ List.replicate 1024 0).length ≤ _
      rw [List.length_append, List.length_append, List.length_replicate, List.length_replicate]
      omega
  · obtain ⟨_, _, _, _, h⟩ := h
    rcases h with ⟨_, _, rfl⟩ | ⟨_, _, rfl⟩ | ⟨_, _, _, rfl⟩ | ⟨_, _, _, rfl⟩ <;> omega
set_option maxRecDepth 100000 in
set_option maxHeartbeats 4000000 in
theorem script_any (G : GlP) (B : Nat) (oa : Option Addr) (n c : Nat) (xs : List OpI) (w : World) (hgl : Gl G B w) (hes : Es G B w) (ho : OpsI B w oa n c xs) :
    Calls Tryz.prog 6 #[.slice oa n c] w fun e w' => ∃ v bv ds b, e = .returned (.tuple #[v, bv]) ∧ Run xs a0 ds b ∧ w'.ownsRow w.heap.size 36 3 v n (doneCs ds) ∧ w'.ownsRow w.heap.size 5 1 bv b.out.length (cells b.out) ∧ Below w.heap.size w w' := by
  have hB := hgl.size
  have hn : n ≤ 1048576 := ho.big
  have hnc : (n : Int) ≤ c := by have := ho.cap; omega
  have hlen := Asd.mk ho.len
  obtain ⟨i0, hi, hz0, hz1, hz2⟩ := info_parts3 info36
  have hgl2 := hgl.mono hB (Nat.le_refl _)
  have hes2 := hes.mono hB
  have hbuf := Lib.fresh_isBuffer 62 5 w
  have hw0 : Below w.heap.size w (w.alloc (.cells #[.slice none 0 0, .int .i64 0, .int .i8 0] 62)) := (Below.refl _ _).alloc (Nat.le_refl _) _
  have hnw := newWriter_any w.heap.size w.heap.size (w.alloc (.cells #[.slice none 0 0, .int .i64 0, .int .i8 0] 62)) hw0.size hbuf (by show w.heap.size < (w.heap.push _).size; simp)
  unfold ifW at hnw
  replace hnw := Asd.mk hnw
  replace hw0 := Asd.mk hw0
  replace hgl2 := Asd.mk hgl2
  replace hes2 := Asd.mk hes2
  replace ho := Asd.mk ho
  clear hbuf hgl hes
  go_enter Tryz.func6, Tryz.ntmps6
  go_wp2_with (go_at_call 16; refine hnw.out.mono ?_; rintro e w1 ⟨bw, bc0, rfl, hW1, hF1⟩)
  have hbl1 := (Fr.of_below hw0.out (Nat.le_refl _)).below.trans hF1.below
  clear hF1 hw0 hnw
  replace hW1 := Asd.mk hW1
  replace hbl1 := Asd.mk hbl1
  go_loopw [4, 15] (fun v i wr => ∃ k s a ds bc, k ≤ n ∧ i = .int .i64 (k : Nat) ∧ wr.ownsRow w.heap.size 36 3 v k (doneCs ds) ∧ Run (xs.take k) a0 ds a ∧ Wr w.heap.size bw w.heap.size bc s wr ∧ AbS G s a ∧ a.out.length ≤ k * 4194304 ∧ Below w.heap.size w wr) (fun _ i _ => n - (intOf i).toNat)
  case atStart =>
    exact ⟨0, _, a0, [], bc0, by omega, rfl, World.ownsRow_nil _ _ _ _, ⟨rfl, rfl⟩, hW1.out, ⟨rfl, rfl, by decide, by decide, rfl, by decide, by decide, rfl, by decide⟩, Nat.zero_le _, hbl1.out⟩
  case round =>
    obtain ⟨k, s, a, ds, bc, hk, rfl, hown, hrun, hW, hA, hlen2, hbl⟩ := hrel
    by_cases hlt : k < n
    · obtain ⟨b, o, x, haa, hbB, hget, hr, hok⟩ := (ho.out.below (hbl.mono hB)).get k hlt
      have hst : Asd (xs.take (k + 1) = xs.take k ++ [x]) := ⟨by rw [List.take_add_one, hget]; rfl⟩
      obtain ⟨C, hC⟩ : ∃ C, Asd (C = x.cells) := ⟨_, ⟨rfl⟩⟩
      have lC : Asd (C.length = 23) := ⟨by rw [hC.out]; rfl⟩
      have oC : Asd (C.toArray.all (·.oneCell') = true) := ⟨by rw [hC.out]; exact x.oneA (by rw [hok.hd.rv]; rfl)⟩
      rw [← hC.out] at hr
      have hsl : Asd (∀ c d, OpStep x a c d → a.out.length ≤ c.out.length ∧ c.out.length ≤ a.out.length + 4194304) := ⟨fun c d h => step_len hok hA.p1 h⟩
      replace hr := Asd.mk hr
      replace hok := Asd.mk hok
      replace hown := Asd.mk hown
      replace hrun := Asd.mk hrun
      replace hW := Asd.mk hW
      replace hA := Asd.mk hA
      replace hbl := Asd.mk hbl
      replace hlen2 := Asd.mk hlen2
      clear hget hbB
      rw [haa]
      go_upto_region 7 with (first
        | (refine wpList_load_mid rfl 34 (.tmp 17) rfl b (o + k * 23) rfl C _ hr.out Tryz.underlying34 rfl (by rw [info34, lC.out]) ?_)
        | (refine wpList_store_row rfl 34 (.tmp 8) (.tmp 18) rfl wr.heap.size C.toArray rfl rfl 34 _ (heap_alloc_new _ _) (by rw [info34, List.size_toArray, lC.out]) (by show (23 : Nat) = _; rw [List.size_toArray, lC.out]) oC.out ?_; rw [World.setRow_alloc_new]))
      obtain ⟨N, hN⟩ : ∃ N, Asd (wr.heap.size = N) := ⟨_, ⟨rfl⟩⟩
      obtain ⟨W1, hW1⟩ : ∃ W1, Asd (W1 = wr.alloc (.cells C.toArray 34)) := ⟨_, ⟨rfl⟩⟩
      have b0 := heap_alloc_new wr (.cells C.toArray 34)
      have ba : Below wr.heap.size wr (wr.alloc (.cells C.toArray 34)) := (Below.refl _ _).alloc (Nat.le_refl _) _
      have W2 := hW.out.alloc (.cells C.toArray 34)
      have own2 := hown.out.alloc (.cells C.toArray 34)
      have bl2 := hbl.out.trans (ba.mono hbl.out.size)
      have ok2 := hok.out.below (ba.mono (Nat.le_trans hB hbl.out.size))
      rw [← hW1.out] at b0 W2 own2 bl2 ok2
      rw [← hW1.out, hN.out]
      rw [hN.out] at b0
      clear hW1 ba
      have r0 : W1.rangeAt N 0 x.cells := by rw [← hC.out]; exact rng0 b0
      have r1 := x.mid r0
      have c0 : W1.cell? ⟨N, 0, none⟩ = some (.int .i64 x.kind) := x.first r0
      have c22 : W1.cell? ⟨N, 22, none⟩ = some (.slice x.da x.dn x.dc) := x.last r0
      obtain ⟨K, hK⟩ : ∃ K, Asd (x.kind = K) := ⟨_, ⟨rfl⟩⟩
      obtain ⟨CH, hCH⟩ : ∃ C, Asd (C = x.h.cells) := ⟨_, ⟨rfl⟩⟩
      have lCH : Asd (CH.length = 21) := ⟨by rw [hCH.out]; rfl⟩
      have hh := header_any ok2.hd (Nat.le_trans hB bl2.size)
      have hcl := clone_any ok2.dt
      have hbbW : w.heap.size < W1.heap.size := W2.blt
      have gl2 := hgl2.out.below bl2
      have es2 := hes2.out.below bl2
      have lim : a.out.length ≤ 8796093021696 := by have := hlen2.out; omega
      rw [← hCH.out] at r1 hh
      rw [hK.out] at c0
      replace b0 := Asd.mk b0
      replace r0 := Asd.mk r0
      replace r1 := Asd.mk r1
      replace W2 := Asd.mk W2
      replace own2 := Asd.mk own2
      replace bl2 := Asd.mk bl2
      replace ok2 := Asd.mk ok2
      replace hh := Asd.mk hh
      replace hcl := Asd.mk hcl
      replace gl2 := Asd.mk gl2
      replace es2 := Asd.mk es2
      replace lim := Asd.mk lim
      replace hbbW := Asd.mk hbbW
      by_cases k0 : K = 0
      · subst k0
        go_wp2_with (first
        | (refine wpList_load_mid rfl 32 (.tmp 26) rfl N 1 rfl CH _ r1.out Tryz.underlying32 rfl (by rw [info32, lCH.out]) ?_)
        | (go_at_call 18; refine hh.out.mono ?_; rintro e w2 ⟨hb, m, rfl, h2, hR, hb2⟩; have hd2 := Asd.mk (hd_call (gl2.out.below (hb2.mono bl2.out.size)) (W2.out.below hb2) hA.out lim.out hok.out.hd hb m h2 hR); have own2b := Asd.mk (own36_fr (B := 0) own2.out (Fr.of_below hb2 (Nat.zero_le _))); have bl2b := Asd.mk (bl2.out.trans (hb2.mono bl2.out.size)); clear hh h2 hR hb2)
        | (go_at_call 17; refine hd2.out.mono ?_; rintro e w3 ⟨v, y, a3, s3, bc3, rfl, hE, hW3, hA3, hF3, hQ⟩; clear hd2; have own3 := Asd.mk (own36_fr own2b.out hF3); have bl3 := Asd.mk (bl2b.out.trans hF3.below); have hend := Asd.mk (end_any (hgl2.out.below bl3.out) (hes2.out.below bl3.out) v y hE); replace hE := Asd.mk hE; replace hW3 := Asd.mk hW3; replace hA3 := Asd.mk hA3; replace hQ := Asd.mk hQ; replace hF3 := Asd.mk hF3)
        | (go_at_call 23; refine hend.out.mono ?_; rintro e w4 ⟨rfl, rfl⟩; clear hend)
        | (go_at_call 24; refine (Tryz.Buffer_Len _ _ (cells s3.out) _ hW3.out.hb).mono ?_; rintro e w5 ⟨rfl, q, rfl⟩)
        | (at_builtin; refine wpList_append_own _ rfl _ _ 24 rfl w.heap.size 36 i0 (.agg #[.int .i64 0, .int .i64 0, .int .i64 0]) 3 24 Tryz.underlying24 hi hz0 hz1 hz2 rfl (by decide) _ _ _ rfl ((own_drew own3.out q).alloc _) ⟨(w4.drewN q).heap.size, 0, none⟩ 1 1 [.int .i64 0, .int .i64 y, .int .i64 (cells s3.out).length] rfl rfl (by have := three_new (w4.drewN q) (.int .i64 0) (.int .i64 y) (.int .i64 (cells s3.out).length) 36; simpa using this) ?_ ?_ ?_ ?_ ?_; rotate_right; intro v' w6 hown' hgrow6 hnil6))
        case roundEnd =>
          have hstp : OpStep x a a3 ⟨0, y, a3.out.length⟩ := ⟨rfl, .inl ⟨hK.out, rfl, m, hQ.out⟩⟩
          have hl3 := hsl.out _ _ hstp
          have e3 : (cells s3.out).length = a3.out.length := by rw [cells_len, hA3.out.out]
          have bl4 : Below w.heap.size w (w4.drewN q) := bl3.out.trans ⟨rfl, rfl, rfl, Nat.le_refl _, fun _ _ => rfl⟩
          have bl5 := bl4.alloc bl4.size (.cells #[.int .i64 0, .int .i64 y, .int .i64 (cells s3.out).length] 36)
          refine ⟨⟨k + 1, s3, a3, ds ++ [⟨0, y, a3.out.length⟩], bc3, by omega, by go_num, ?_, ?_, ?_, hA3.out, ?_, ?_⟩, by simp [intOf]; omega⟩
          · rw [doneCs_snoc]; rw [e3] at hown'; exact hown'
          · rw [hst.out]; exact Run.snoc hstp hrun.out
          · exact Wr.grown36 ((hW3.out.drewN q).alloc _) ((own_drew own3.out q).alloc _) hgrow6
          · have := hlen2.out; have := hl3.2; omega
          · exact bl5.grown hgrow6 bl5.size (fun j hj => (own3.out.lt j hj).1)
        · intro u hu; simp at hu; rcases hu with rfl | rfl | rfl <;> rfl
        · unfold maxLen; omega
        · omega
        · have := bl3.out.size; show w.heap.size ≤ (w4.heap.push _).size; simp; omega
      by_cases k1 : K = 1
      · subst k1
        clear k0
        go_wp2_with (first
        | (go_at_call 20; refine hcl.out.mono ?_; rintro e w2 ⟨ao, c', rfl, hS, hb2⟩; have hd2 := Asd.mk (wr_step (gl2.out.below (hb2.mono bl2.out.size)) (W2.out.below hb2) hA.out ao x.dn c' x.data (hS _ hbbW.out) (by have := lim.out; have := hok.out.dt.big; omega)); have own2b := Asd.mk (own36_fr (B := 0) own2.out (Fr.of_below hb2 (Nat.zero_le _))); have bl2b := Asd.mk (bl2.out.trans (hb2.mono bl2.out.size)); clear hcl hS hb2)
        | (go_at_call 19; refine hd2.out.mono ?_; rintro e w3 ⟨n3, v, y, a3, s3, bc3, rfl, hE, hW3, hA3, hF3, hQ⟩; clear hd2; have own3 := Asd.mk (own36_fr own2b.out hF3); have bl3 := Asd.mk (bl2b.out.trans hF3.below); have hend := Asd.mk (end_any (hgl2.out.below bl3.out) (hes2.out.below bl3.out) v y hE); replace hE := Asd.mk hE; replace hW3 := Asd.mk hW3; replace hA3 := Asd.mk hA3; replace hQ := Asd.mk hQ; replace hF3 := Asd.mk hF3)
        | (go_at_call 23; refine hend.out.mono ?_; rintro e w4 ⟨rfl, rfl⟩; clear hend)
        | (go_at_call 24; refine (Tryz.Buffer_Len _ _ (cells s3.out) _ hW3.out.hb).mono ?_; rintro e w5 ⟨rfl, q, rfl⟩)
        | (at_builtin; refine wpList_append_own _ rfl _ _ 24 rfl w.heap.size 36 i0 (.agg #[.int .i64 0, .int .i64 0, .int .i64 0]) 3 24 Tryz.underlying24 hi hz0 hz1 hz2 rfl (by decide) _ _ _ rfl ((own_drew own3.out q).alloc _) ⟨(w4.drewN q).heap.size, 0, none⟩ 1 1 [.int .i64 n3, .int .i64 y, .int .i64 (cells s3.out).length] rfl rfl (by have := three_new (w4.drewN q) (.int .i64 n3) (.int .i64 y) (.int .i64 (cells s3.out).length) 36; simpa using this) ?_ ?_ ?_ ?_ ?_; rotate_right; intro v' w6 hown' hgrow6 hnil6))
        case roundEnd =>
          have hstp : OpStep x a a3 ⟨n3, y, a3.out.length⟩ := ⟨rfl, .inr (.inl ⟨hK.out, hQ.out⟩)⟩
          have hl3 := hsl.out _ _ hstp
          have e3 : (cells s3.out).length = a3.out.length := by rw [cells_len, hA3.out.out]
          have bl4 : Below w.heap.size w (w4.drewN q) := bl3.out.trans ⟨rfl, rfl, rfl, Nat.le_refl _, fun _ _ => rfl⟩
          have bl5 := bl4.alloc bl4.size (.cells #[.int .i64 n3, .int .i64 y, .int .i64 (cells s3.out).length] 36)
          refine ⟨⟨k + 1, s3, a3, ds ++ [⟨n3, y, a3.out.length⟩], bc3, by omega, by go_num, ?_, ?_, ?_, hA3.out, ?_, ?_⟩, by simp [intOf]; omega⟩
          · rw [doneCs_snoc]; rw [e3] at hown'; exact hown'
          · rw [hst.out]; exact Run.snoc hstp hrun.out
          · exact Wr.grown36 ((hW3.out.drewN q).alloc _) ((own_drew own3.out q).alloc _) hgrow6
          · have := hlen2.out; have := hl3.2; omega
          · exact bl5.grown hgrow6 bl5.size (fun j hj => (own3.out.lt j hj).1)
        · intro u hu; simp at hu; rcases hu with rfl | rfl | rfl <;> rfl
        · unfold maxLen; omega
        · omega
        · have := bl3.out.size; show w.heap.size ≤ (w4.heap.push _).size; simp; omega
      by_cases k3 : K = 3
      · subst k3
        clear k0 k1
        have hd2 := Asd.mk (cl_step gl2.out es2.out W2.out hA.out (by have := lim.out; omega))
        go_wp2_with (first
        | (go_at_call 21; refine hd2.out.mono ?_; rintro e w3 ⟨v, y, a3, s3, bc3, rfl, hE, hW3, hA3, hF3, hQ⟩; clear hd2; have own3 := Asd.mk (own36_fr own2.out hF3); have bl3 := Asd.mk (bl2.out.trans hF3.below); have hend := Asd.mk (end_any (hgl2.out.below bl3.out) (hes2.out.below bl3.out) v y hE); replace hE := Asd.mk hE; replace hW3 := Asd.mk hW3; replace hA3 := Asd.mk hA3; replace hQ := Asd.mk hQ; replace hF3 := Asd.mk hF3)
        | (go_at_call 23; refine hend.out.mono ?_; rintro e w4 ⟨rfl, rfl⟩; clear hend)
        | (go_at_call 24; refine (Tryz.Buffer_Len _ _ (cells s3.out) _ hW3.out.hb).mono ?_; rintro e w5 ⟨rfl, q, rfl⟩)
        | (at_builtin; refine wpList_append_own _ rfl _ _ 24 rfl w.heap.size 36 i0 (.agg #[.int .i64 0, .int .i64 0, .int .i64 0]) 3 24 Tryz.underlying24 hi hz0 hz1 hz2 rfl (by decide) _ _ _ rfl ((own_drew own3.out q).alloc _) ⟨(w4.drewN q).heap.size, 0, none⟩ 1 1 [.int .i64 0, .int .i64 y, .int .i64 (cells s3.out).length] rfl rfl (by have := three_new (w4.drewN q) (.int .i64 0) (.int .i64 y) (.int .i64 (cells s3.out).length) 36; simpa using this) ?_ ?_ ?_ ?_ ?_; rotate_right; intro v' w6 hown' hgrow6 hnil6))
        case roundEnd =>
          have hstp : OpStep x a a3 ⟨0, y, a3.out.length⟩ := ⟨rfl, .inr (.inr (.inl ⟨hK.out, rfl, hQ.out⟩))⟩
          have hl3 := hsl.out _ _ hstp
          have e3 : (cells s3.out).length = a3.out.length := by rw [cells_len, hA3.out.out]
          have bl4 : Below w.heap.size w (w4.drewN q) := bl3.out.trans ⟨rfl, rfl, rfl, Nat.le_refl _, fun _ _ => rfl⟩
          have bl5 := bl4.alloc bl4.size (.cells #[.int .i64 0, .int .i64 y, .int .i64 (cells s3.out).length] 36)
          refine ⟨⟨k + 1, s3, a3, ds ++ [⟨0, y, a3.out.length⟩], bc3, by omega, by go_num, ?_, ?_, ?_, hA3.out, ?_, ?_⟩, by simp [intOf]; omega⟩
          · rw [doneCs_snoc]; rw [e3] at hown'; exact hown'
          · rw [hst.out]; exact Run.snoc hstp hrun.out
          · exact Wr.grown36 ((hW3.out.drewN q).alloc _) ((own_drew own3.out q).alloc _) hgrow6
          · have := hlen2.out; have := hl3.2; omega
          · exact bl5.grown hgrow6 bl5.size (fun j hj => (own3.out.lt j hj).1)
        · intro u hu; simp at hu; rcases hu with rfl | rfl | rfl <;> rfl
        · unfold maxLen; omega
        · omega
        · have := bl3.out.size; show w.heap.size ≤ (w4.heap.push _).size; simp; omega
      · have hd2 := Asd.mk (fl_step gl2.out W2.out hA.out (by have := lim.out; omega))
        go_wp2_with (first
        | (go_at_call 22; refine hd2.out.mono ?_; rintro e w3 ⟨v, y, a3, s3, bc3, rfl, hE, hW3, hA3, hF3, hQ⟩; clear hd2; have own3 := Asd.mk (own36_fr own2.out hF3); have bl3 := Asd.mk (bl2.out.trans hF3.below); have hend := Asd.mk (end_any (hgl2.out.below bl3.out) (hes2.out.below bl3.out) v y hE); replace hE := Asd.mk hE; replace hW3 := Asd.mk hW3; replace hA3 := Asd.mk hA3; replace hQ := Asd.mk hQ; replace hF3 := Asd.mk hF3)
        | (go_at_call 23; refine hend.out.mono ?_; rintro e w4 ⟨rfl, rfl⟩; clear hend)
        | (go_at_call 24; refine (Tryz.Buffer_Len _ _ (cells s3.out) _ hW3.out.hb).mono ?_; rintro e w5 ⟨rfl, q, rfl⟩)
        | (at_builtin; refine wpList_append_own _ rfl _ _ 24 rfl w.heap.size 36 i0 (.agg #[.int .i64 0, .int .i64 0, .int .i64 0]) 3 24 Tryz.underlying24 hi hz0 hz1 hz2 rfl (by decide) _ _ _ rfl ((own_drew own3.out q).alloc _) ⟨(w4.drewN q).heap.size, 0, none⟩ 1 1 [.int .i64 0, .int .i64 y, .int .i64 (cells s3.out).length] rfl rfl (by have := three_new (w4.drewN q) (.int .i64 0) (.int .i64 y) (.int .i64 (cells s3.out).length) 36; simpa using this) ?_ ?_ ?_ ?_ ?_; rotate_right; intro v' w6 hown' hgrow6 hnil6))
        case roundEnd =>
          have hstp : OpStep x a a3 ⟨0, y, a3.out.length⟩ := ⟨rfl, .inr (.inr (.inr ⟨by rw [hK.out]; exact k0, by rw [hK.out]; exact k1, by rw [hK.out]; exact k3, rfl, hQ.out⟩))⟩
          have hl3 := hsl.out _ _ hstp
          have e3 : (cells s3.out).length = a3.out.length := by rw [cells_len, hA3.out.out]
          have bl4 : Below w.heap.size w (w4.drewN q) := bl3.out.trans ⟨rfl, rfl, rfl, Nat.le_refl _, fun _ _ => rfl⟩
          have bl5 := bl4.alloc bl4.size (.cells #[.int .i64 0, .int .i64 y, .int .i64 (cells s3.out).length] 36)
          refine ⟨⟨k + 1, s3, a3, ds ++ [⟨0, y, a3.out.length⟩], bc3, by omega, by go_num, ?_, ?_, ?_, hA3.out, ?_, ?_⟩, by simp [intOf]; omega⟩
          · rw [doneCs_snoc]; rw [e3] at hown'; exact hown'
          · rw [hst.out]; exact Run.snoc hstp hrun.out
          · exact Wr.grown36 ((hW3.out.drewN q).alloc _) ((own_drew own3.out q).alloc _) hgrow6
          · have := hlen2.out; have := hl3.2; omega
          · exact bl5.grown hgrow6 bl5.size (fun j hj => (own3.out.lt j hj).1)
        · intro u hu; simp at hu; rcases hu with rfl | rfl | rfl <;> rfl
        · unfold maxLen; omega
        · omega
        · have := bl3.out.size; show w.heap.size ≤ (w4.heap.push _).size; simp; omega
    · have htk : Asd (xs.take k = xs) := ⟨List.take_of_length_le (by rw [hlen.out]; omega)⟩
      have hkn : k = n := by omega
      subst hkn
      have hbb := hW.hb
      rw [hA.out] at hbb
      replace hown := Asd.mk hown
      replace hbl := Asd.mk hbl
      replace hrun := Asd.mk hrun
      replace hbb := Asd.mk hbb
      clear hW hA
      go_wp2_with (go_at_call 25; refine (Tryz.Buffer_Bytes _ _ (cells a.out) _ hbb.out).mono ?_; rintro e w5 ⟨bv, rfl, hrow, q, rfl⟩)
      go_ret2
      exact ⟨_, bv, ds, a, rfl, by have := hrun.out; rw [htk.out] at this; exact this, hown.out, by rw [cells_len] at hrow; exact hrow, hbl.out.trans ⟨rfl, rfl, rfl, Nat.le_refl _, fun _ _ => rfl⟩⟩
theorem AfS.putIf_p (st : AfS) (b : Bool) (k v : ByteArray) : (st.putIf b k v).p = st.p := by cases b <;> rfl
theorem AfS.putIf_g (st : AfS) (b : Bool) (k v : ByteArray) : (st.putIf b k v).g = st.g := by cases b <;> rfl
theorem afStr_p (R : DataW Unit) (path l : Bool) (s key : ByteArray) (size : Nat) (st : AfS) : (afStr R path l s key size st).p = st.p := by
  unfold afStr
  rw [AfS.putIf_p, AfS.putIf_p]; rfl
theorem afNum_p (R : DataW Unit) (n : Bool) (x : Int) (key : ByteArray) (size : Nat) (st : AfS) : (afNum R n x key size st).p = (st.p && !(!fitO size x && n)) := by
  unfold afNum
  rw [AfS.putIf_p, AfS.putIf_p]; rfl
theorem afTime_p (R : DataW Unit) (mt : Bool) (n : Nat) (x : Int) (key : ByteArray) (st : AfS) : (afTime R mt n x key st).p = st.p := by
  unfold afTime
  split
  · rfl
  · unfold afTime1
    rw [AfS.putIf_p, AfS.putIf_p]; rfl
theorem afStr_g (R : DataW Unit) (path l : Bool) (s key : ByteArray) (size : Nat) (st : AfS) : (afStr R path l s key size st).g = (st.g && !(strBadG l s size)) := by
  unfold afStr
  rw [AfS.putIf_g, AfS.putIf_g]; rfl
theorem afNum_g (R : DataW Unit) (n : Bool) (x : Int) (key : ByteArray) (size : Nat) (st : AfS) : (afNum R n x key size st).g = (st.g && fitB size x) := by
  unfold afNum
  rw [AfS.putIf_g, AfS.putIf_g]
  show (st.g && !(!fitB size x)) = _
  rw [Bool.not_not]
theorem afTime_g (R : DataW Unit) (mt : Bool) (n : Nat) (x : Int) (key : ByteArray) (st : AfS) : (afTime R mt n x key st).g = st.g := by
  unfold afTime
  split
  · rfl
  · unfold afTime1
    rw [AfS.putIf_g, AfS.putIf_g]
    show (st.g && !(!fitB 12 (tmUnix x))) = _
    rw [show fitB 12 (tmUnix x) = true from rfl]
    simp
theorem base_u (H : Hd) (R : DataW Unit) : (afBase H R).u = (!(strBadU true H.name 100) && !(strBadU false H.link 100) && !(strBadU false H.uname 32) && !(strBadU false H.gname 32) && fitO 8 H.mode && fitO 8 H.uid && fitO 8 H.gid && fitO 12 H.size && fitO 8 H.maj && fitO 8 H.min && (isZ H.mn H.mx || fitO 12 (tmUnix H.mx)) && isZ H.an H.ax && isZ H.cn H.cx) := by
  unfold afBase
  rw [afTime_u, afTime_u, afTime_u, afNum_u, afNum_u, afNum_u, afNum_u, afNum_u, afNum_u, afStr_u, afStr_u, afStr_u, afStr_u]
  simp [st0]
theorem base_p (H : Hd) (R : DataW Unit) : (afBase H R).p = (fitO 8 H.mode && fitO 8 H.maj && fitO 8 H.min) := by
  unfold afBase
  rw [afTime_p, afTime_p, afTime_p, afNum_p, afNum_p, afNum_p, afNum_p, afNum_p, afNum_p, afStr_p, afStr_p, afStr_p, afStr_p]
  simp [st0]
theorem base_g (H : Hd) (R : DataW Unit) : (afBase H R).g = (!(strBadG true H.name 100) && !(strBadG true H.link 100) && !(strBadG false H.uname 32) && !(strBadG false H.gname 32) && fitB 8 H.mode && fitB 8 H.uid && fitB 8 H.gid && fitB 8 H.maj && fitB 8 H.min) := by
  unfold afBase
  rw [afTime_g, afTime_g, afTime_g, afNum_g, afNum_g, afNum_g, afNum_g, afNum_g, afNum_g, afStr_g, afStr_g, afStr_g, afStr_g]
  simp [st0, show fitB 12 H.size = true from rfl]
theorem occ_one (l : List UInt8) (c : UInt8) (k : Nat) : Lib.occAt l [c] k = true ↔ l[k]? = some c := by
  unfold Lib.occAt
  have h : l[k]? = (l.drop k)[0]? := by rw [List.getElem?_drop]; rfl
  rw [h]
  cases l.drop k with
  | nil => simp [List.isPrefixOf]
  | cons x t => simp only [List.isPrefixOf, Bool.and_true, beq_iff_eq, List.getElem?_cons_zero, Option.some.injEq]; exact eq_comm
theorem last_one (l : List UInt8) (c : UInt8) : (Lib.lastIndex l [c] = -1 ∧ ∀ j : Nat, l[j]? ≠ some c) ∨ ∃ i : Nat, Lib.lastIndex l [c] = i ∧ l[i]? = some c ∧ ∀ j : Nat, i < j → l[j]? ≠ some c := by
  unfold Lib.lastIndex
  split
  · next h =>
    have h1 : [c].length = 1 := rfl
    rw [h1] at h ⊢
    rcases Lib.lastOcc_spec l [c] (l.length - 1 + 1) with ⟨e, hn⟩ | ⟨i, hi, e, hc, hn⟩
    · refine .inl ⟨e, fun j hj => ?_⟩
      have hlt := (List.getElem?_eq_some_iff.1 hj).1
      have := hn j (by omega)
      rw [(occ_one l c j).2 hj] at this
      cases this
    · refine .inr ⟨i, e, (occ_one l c i).1 hc, fun j hij hj => ?_⟩
      have hlt := (List.getElem?_eq_some_iff.1 hj).1
      have := hn j hij (by omega)
      rw [(occ_one l c j).2 hj] at this
      cases this
  · next h =>
    refine .inl ⟨rfl, fun j hj => ?_⟩
    have hlt := (List.getElem?_eq_some_iff.1 hj).1
    exact h (by show 1 ≤ _; omega)
/-- The code's split and the specification's. -/
theorem split_eq (s : ByteArray) (h : 100 < s.size) (ha : asc s = true) : splitOk s = splB s := by
  have hz : s.data.toList.length = s.size := by rw [Array.length_toList]; rfl
  have hl : spLen s ≤ s.size := by unfold spLen; split; omega; split <;> omega
  have hget : ∀ j, j < spLen s → (s.data.toList.take (spLen s))[j]? = s.data[j]? := by
    intro j hj
    rw [List.getElem?_take, if_pos hj, Array.getElem?_toList]
  have hgn : ∀ j, ¬ j < spLen s → (s.data.toList.take (spLen s))[j]? = none := by
    intro j hj
    rw [List.getElem?_take, if_neg hj]
  have hdz : s.data.size = s.size := rfl
  cases hb : splB s with
  | true =>
    unfold splB at hb
    rw [List.any_eq_true] at hb
    obtain ⟨i, hi, hs⟩ := hb
    unfold splAt at hs
    simp only [Bool.and_eq_true, decide_eq_true_eq] at hs
    obtain ⟨⟨⟨⟨h1, h2⟩, h3⟩, h4⟩, h5⟩ := hs
    have hil : i < spLen s := by unfold spLen; split; omega; split <;> omega
    have hlast : ∀ j, s.data[j]? = some 47 → j < spLen s → j + 2 ≤ s.size := by
      intro j hj hjl
      unfold spLen at hjl
      split at hjl
      · omega
      · split at hjl
        · omega
        · next hne =>
          have : j ≠ s.size - 1 := by rintro rfl; exact hne hj
          omega
    have h156 : spLen s ≤ 156 := by unfold spLen; split; omega; split <;> omega
    unfold splitOk spIdx
    rcases last_one (s.data.toList.take (spLen s)) 47 with ⟨e, hn⟩ | ⟨j, e, hj, hn⟩
    · exact absurd (by rw [hget i hil]; exact h3) (hn i)
    · have hjl : j < spLen s := by
        rcases Nat.lt_or_ge j (spLen s) with h | h
        · exact h
        · rw [hgn j (by omega)] at hj; cases hj
      have hij : i ≤ j := by
        rcases Nat.lt_or_ge j i with h | h
        · exact absurd (by rw [hget i hil]; exact h3) (hn i h)
        · exact h
      rw [hget j hjl] at hj
      have hj2 := hlast j hj hjl
      rw [e, ha]
      simp only [Bool.and_eq_true, decide_eq_true_eq, Bool.not_eq_true', beq_eq_false_iff_ne]
      refine ⟨⟨h, trivial⟩, ⟨⟨by omega, by omega⟩, by omega⟩, by omega⟩
  | false =>
    cases hk : splitOk s with
    | false => rfl
    | true =>
      unfold splitOk at hk
      simp only [Bool.and_eq_true, decide_eq_true_eq, Bool.not_eq_true', beq_eq_false_iff_ne] at hk
      obtain ⟨⟨_, _⟩, ⟨⟨k1, k2⟩, k3⟩, k4⟩ := hk
      exfalso
      have hno : splB s = true := by
        rcases last_one (s.data.toList.take (spLen s)) 47 with ⟨e, hn⟩ | ⟨j, e, hj, hn⟩
        · have : spIdx s = -1 := e
          omega
        · have e2 : spIdx s = j := e
          have hjl : j < spLen s := by
            rcases Nat.lt_or_ge j (spLen s) with h | h
            · exact h
            · rw [hgn j (by omega)] at hj; cases hj
          rw [hget j hjl] at hj
          unfold splB
          rw [List.any_eq_true]
          refine ⟨j, List.mem_range.2 (by omega), ?_⟩
          unfold splAt
          simp only [Bool.and_eq_true, decide_eq_true_eq]
          exact ⟨⟨⟨⟨by omega, by omega⟩, hj⟩, by omega⟩, by omega⟩
      rw [hno] at hb
      cases hb
theorem split_big (s : ByteArray) (h : splitOk s = true) : s.size ≤ 256 ∧ asc s = true ∧ 100 < s.size := by
  unfold splitOk at h
  simp only [Bool.and_eq_true, decide_eq_true_eq, Bool.not_eq_true', beq_eq_false_iff_ne] at h
  obtain ⟨⟨a, b⟩, ⟨⟨k1, k2⟩, k3⟩, k4⟩ := h
  exact ⟨by omega, b, a⟩
structure Mt (H : Hd) (p : SpH) : Prop where
  tf : H.tf = p.tf
  name : H.name = p.name
  link : H.link = p.link
  uname : H.uname = p.uname
  gname : H.gname = p.gname
  size : H.size = p.size
  mode : H.mode = p.mode
  uid : H.uid = p.uid
  gid : H.gid = p.gid
  maj : H.maj = p.maj
  min : H.min = p.min
  mt : fitO 12 (tmUnix H.mx) = mtB p
  mz : isZ H.mn H.mx = false
  a : isZ H.an H.ax = !p.ha
  c : isZ H.cn H.cx = !p.hc
theorem fitO12 (x : Int) : fitO 12 x = (decide (0 ≤ x) && decide (x < 8589934592)) := by
  unfold fitO
  have e : (8 : Int) ^ (12 - 1) = 8589934592 := by decide
  rw [e]
theorem fitO8 (x : Int) : fitO 8 x = (decide (0 ≤ x) && decide (x < 2097152)) := by
  unfold fitO
  have e : (8 : Int) ^ (8 - 1) = 2097152 := by decide
  rw [e]
theorem fitB8 (x : Int) : fitB 8 x = (decide (-72057594037927936 ≤ x) && decide (x < 72057594037927936)) := by
  unfold fitB
  rfl
section
variable {H : Hd} {p : SpH} {rs : List (ByteArray × ByteArray)} {F : Int}
theorem prom_tf2 (h : InH) (m : Value) (ra : Option Addr) (rn rc : Nat) : (hdProm (h.hd m)).tf = (h.sp ra rn rc).prom.tf := by
  have p := hd_parts h m
  unfold hdProm SpH.prom
  rw [p.2.2.2.2.2.2.2.2.2.2.2.1, p.1]
  show (if h.tf = 0 then _ else _ : Hd).tf = (if h.tf = 0 then _ else _ : SpH).tf
  split
  · rfl
  · exact p.2.2.2.2.2.2.2.2.2.2.2.1
theorem hdProm_same (H : Hd) : (hdProm H).name = H.name ∧ (hdProm H).link = H.link ∧ (hdProm H).uname = H.uname ∧ (hdProm H).gname = H.gname ∧ (hdProm H).size = H.size ∧ (hdProm H).mode = H.mode ∧ (hdProm H).uid = H.uid ∧ (hdProm H).gid = H.gid ∧ (hdProm H).maj = H.maj ∧ (hdProm H).min = H.min ∧ (hdProm H).fmt = H.fmt ∧ (hdProm H).mn = H.mn ∧ (hdProm H).mx = H.mx ∧ (hdProm H).an = H.an ∧ (hdProm H).ax = H.ax ∧ (hdProm H).cn = H.cn ∧ (hdProm H).cx = H.cx := by
  unfold hdProm; split <;> simp
theorem prom_all (h : SpH) : h.prom.size = h.size ∧ h.prom.mode = h.mode ∧ h.prom.uid = h.uid ∧ h.prom.gid = h.gid ∧ h.prom.maj = h.maj ∧ h.prom.min = h.min ∧ h.prom.ms = h.ms ∧ h.prom.mn = h.mn ∧ h.prom.ha = h.ha ∧ h.prom.hc = h.hc ∧ h.prom.acs = h.acs ∧ h.prom.acn = h.acn ∧ h.prom.cs = h.cs ∧ h.prom.cn = h.cn := by
  unfold SpH.prom; split <;> simp
theorem odd_no {s n : Int} (h : oddB s n = false) : 0 ≤ n ∧ n ≤ 999999999 ∧ ¬ (s = -62135596800 ∧ n = 0) := by
  unfold oddB at h
  simp at h
  omega
theorem unix_ms {s n : Int} (hs : -9223372036854775808 ≤ s ∧ s ≤ 9223372036854775807) (h : oddB s n = false) : tmUnix (unixX s n) = s ∧ isZ (unixN n) (unixX s n) = false ∧ unixX s n = wrap64 (s + 62135596800) := by
  obtain ⟨h0, h1, h2⟩ := odd_no h
  have e : n / 1000000000 = 0 := by omega
  have e1 : unixX s n = wrap64 (s + 62135596800) := by unfold unixX; rw [e]; congr 1; omega
  refine ⟨?_, ?_, e1⟩
  · rw [e1]; unfold tmUnix wrap64; omega
  · rw [e1]
    unfold isZ unixN wrap64
    rw [Bool.and_eq_false_iff, decide_eq_false_iff_not, decide_eq_false_iff_not]
    omega
theorem mt_fmt (h : InH) (ok : h.Ok) (m : Value) (ra : Option Addr) (rn rc : Nat) (hf : h.fmt = 1 ∨ h.fmt = 2 ∨ h.fmt = 3) (hs : strB (h.sp ra rn rc) rs = false) : Mt (whH (h.hd m)) (h.sp ra rn rc).prom := by
  have p := hd_parts h m
  have q := hdProm_same (h.hd m)
  have r := prom_all (h.sp ra rn rc)
  have t := prom_same (h.sp ra rn rc)
  have hfm : (hdProm (h.hd m)).fmt ≠ 0 := by
    rw [q.2.2.2.2.2.2.2.2.2.2.1, p.2.2.2.2.2.2.2.2.2.2.1]
    rcases hf with e | e | e <;> rw [e] <;> decide
  have e : whH (h.hd m) = hdProm (h.hd m) := by unfold whH hdRound; rw [if_neg hfm]
  rw [e]
  unfold strB at hs
  simp only [Bool.or_eq_false_iff] at hs
  obtain ⟨⟨⟨⟨⟨_, _⟩, _⟩, ho⟩, hoa⟩, hoc⟩ := hs
  obtain ⟨q1, q2, q3, q4, q5, q6, q7, q8, q9, q10, q11, q12, q13, q14, q15, q16, q17⟩ := q
  obtain ⟨p1, p2, p3, p4, p5, p6, p7, p8, p9, p10, p11, p12, p13, p14, p15, p16, p17, p18, p19, p20⟩ := p
  obtain ⟨r1, r2, r3, r4, r5, r6, r7, r8, r9, r10, r11, r12, r13, r14⟩ := r
  have hm := unix_ms ok.ms ho
  refine ⟨prom_tf2 h m ra rn rc, ?_, ?_, ?_, ?_, ?_, ?_, ?_, ?_, ?_, ?_, ?_, ?_, ?_, ?_⟩
  · rw [q1, p1, t.1]; rfl
  · rw [q2, p2, t.2.1]; rfl
  · rw [q3, p3, t.2.2.1]; rfl
  · rw [q4, p4, t.2.2.2.1]; rfl
  · rw [q5, p5, r1]; rfl
  · rw [q6, p6, r2]; rfl
  · rw [q7, p7, r3]; rfl
  · rw [q8, p8, r4]; rfl
  · rw [q9, p9, r5]; rfl
  · rw [q10, p10, r6]; rfl
  · rw [q13, p15, show tmUnix (unixX h.ms h.mn) = h.ms from hm.1, fitO12]
    unfold mtB
    rw [r7]; rfl
  · rw [q12, q13, p14, p15]; exact hm.2.1
  · rw [q14, q15, p17, p18, r9]
    show _ = !h.ha
    cases ha : h.ha with
    | false => rfl
    | true =>
      have hoa' : oddB h.acs h.acn = false := by have := hoa; simp only [InH.sp, ha, Bool.true_and] at this; exact this
      exact (unix_ms ok.acs hoa').2.1
  · rw [q16, q17, p19, p20, r10]
    show _ = !h.hc
    cases hc : h.hc with
    | false => rfl
    | true =>
      have hoc' : oddB h.cs h.cn = false := by have := hoc; simp only [InH.sp, hc, Bool.true_and] at this; exact this
      exact (unix_ms ok.cs hoc').2.1
theorem mt_rnd (h : InH) (ok : h.Ok) (m : Value) (ra : Option Addr) (rn rc : Nat) (hf : h.fmt = 0) (hs : strB (h.sp ra rn rc) rs = false) (hs2 : strB (h.sp ra rn rc).rnd rs = false) (hmn : h.mn ≠ 500000000) : Mt (whH (h.hd m)) (h.sp ra rn rc).rnd.prom := by
  have p := hd_parts h m
  have q := hdProm_same (h.hd m)
  have r := prom_all (h.sp ra rn rc).rnd
  have t := prom_same (h.sp ra rn rc).rnd
  have hfm : (hdProm (h.hd m)).fmt = 0 := by
    rw [q.2.2.2.2.2.2.2.2.2.2.1, p.2.2.2.2.2.2.2.2.2.2.1, hf]
    decide
  have e : whH (h.hd m) = { hdProm (h.hd m) with mn := 0, mx := roundT (hdProm (h.hd m)).mn (hdProm (h.hd m)).mx, an := 0, ax := 0, cn := 0, cx := 0 } := by unfold whH hdRound; rw [if_pos hfm]
  have htf : (hdProm (h.hd m)).tf = (h.sp ra rn rc).rnd.prom.tf := by
    rw [prom_tf2 h m ra rn rc]
    unfold SpH.prom SpH.rnd
    show (if h.tf = 0 then _ else _ : SpH).tf = (if h.tf = 0 then _ else _ : SpH).tf
    split <;> rfl
  rw [e]
  unfold strB at hs hs2
  simp only [Bool.or_eq_false_iff] at hs hs2
  obtain ⟨⟨⟨⟨⟨_, _⟩, _⟩, ho⟩, _⟩, _⟩ := hs
  obtain ⟨⟨⟨⟨⟨_, _⟩, _⟩, ho2⟩, _⟩, _⟩ := hs2
  obtain ⟨q1, q2, q3, q4, q5, q6, q7, q8, q9, q10, q11, q12, q13, q14, q15, q16, q17⟩ := q
  obtain ⟨p1, p2, p3, p4, p5, p6, p7, p8, p9, p10, p11, p12, p13, p14, p15, p16, p17, p18, p19, p20⟩ := p
  obtain ⟨r1, r2, r3, r4, r5, r6, r7, r8, r9, r10, r11, r12, r13, r14⟩ := r
  have hm := unix_ms ok.ms ho
  have hod := odd_no ho
  have hms := ok.ms
  unfold i64R at hms
  have hod2 := odd_no ho2
  have hhod : 0 ≤ h.mn ∧ h.mn ≤ 999999999 := ⟨hod.1, hod.2.1⟩
  have hN : unixN h.mn = h.mn.toNat := by unfold unixN; omega
  have hms2 : (h.sp ra rn rc).rnd.ms = if 500000000 < h.mn then wrap64 (h.ms + 1) else h.ms := rfl
  have hmn2 : (h.sp ra rn rc).rnd.mn = 0 := rfl
  have key : (roundT (unixN h.mn) (unixX h.ms h.mn) = 9223372036854775807 ∧ fitO 12 (tmUnix 9223372036854775807) = false ∧ ((h.sp ra rn rc).rnd.ms < 0 ∨ 8589934592 ≤ (h.sp ra rn rc).rnd.ms)) ∨ (roundT (unixN h.mn) (unixX h.ms h.mn) ≠ 9223372036854775807 ∧ tmUnix (roundT (unixN h.mn) (unixX h.ms h.mn)) = (h.sp ra rn rc).rnd.ms) := by
    have f0 : fitO 12 (tmUnix 9223372036854775807) = false := by rw [fitO12]; unfold tmUnix wrap64; simp
    rw [hms2, show unixX h.ms h.mn = wrap64 (h.ms + 62135596800) from hm.2.2, hN]
    unfold roundT incT
    by_cases h5 : 2 * h.mn.toNat < 1000000000
    · rw [if_pos h5, if_neg (show ¬ 500000000 < h.mn by omega)]
      by_cases hx : wrap64 (h.ms + 62135596800) = 9223372036854775807
      · exact .inl ⟨hx, f0, by unfold wrap64 at hx; omega⟩
      · exact .inr ⟨hx, by unfold tmUnix wrap64; omega⟩
    · rw [if_neg h5, if_pos (show 500000000 < h.mn by omega)]
      by_cases hx : wrap64 (h.ms + 62135596800) = 9223372036854775807
      · rw [if_pos hx]
        exact .inl ⟨hx, f0, by unfold wrap64 at hx ⊢; omega⟩
      · rw [if_neg hx]
        by_cases hx2 : wrap64 (h.ms + 62135596800) + 1 = 9223372036854775807
        · exact .inl ⟨hx2, f0, by unfold wrap64 at hx2 ⊢; omega⟩
        · exact .inr ⟨hx2, by unfold tmUnix wrap64; omega⟩
  refine ⟨htf, ?_, ?_, ?_, ?_, ?_, ?_, ?_, ?_, ?_, ?_, ?_, ?_, ?_, ?_⟩
  · show (hdProm (h.hd m)).name = _; rw [q1, p1, t.1]; rfl
  · show (hdProm (h.hd m)).link = _; rw [q2, p2, t.2.1]; rfl
  · show (hdProm (h.hd m)).uname = _; rw [q3, p3, t.2.2.1]; rfl
  · show (hdProm (h.hd m)).gname = _; rw [q4, p4, t.2.2.2.1]; rfl
  · show (hdProm (h.hd m)).size = _; rw [q5, p5, r1]; rfl
  · show (hdProm (h.hd m)).mode = _; rw [q6, p6, r2]; rfl
  · show (hdProm (h.hd m)).uid = _; rw [q7, p7, r3]; rfl
  · show (hdProm (h.hd m)).gid = _; rw [q8, p8, r4]; rfl
  · show (hdProm (h.hd m)).maj = _; rw [q9, p9, r5]; rfl
  · show (hdProm (h.hd m)).min = _; rw [q10, p10, r6]; rfl
  · show fitO 12 (tmUnix (roundT (hdProm (h.hd m)).mn (hdProm (h.hd m)).mx)) = _
    rw [q12, q13, p14, p15]
    unfold mtB
    rw [r7]
    rcases key with ⟨k1, k2, k3⟩ | ⟨k1, k2⟩
    · rw [k1, k2]
      symm
      rw [Bool.and_eq_false_iff, decide_eq_false_iff_not, decide_eq_false_iff_not]
      omega
    · rw [k2, fitO12]
  · show isZ 0 (roundT (hdProm (h.hd m)).mn (hdProm (h.hd m)).mx) = _
    rw [q12, q13, p14, p15]
    unfold isZ
    rw [Bool.and_eq_false_iff, decide_eq_false_iff_not, decide_eq_false_iff_not]
    right
    intro h0
    rcases key with ⟨k1, k2, k3⟩ | ⟨k1, k2⟩
    · rw [h0] at k1; exact absurd k1 (by decide)
    · rw [h0] at k2
      have : tmUnix 0 = -62135596800 := by unfold tmUnix wrap64; omega
      exact hod2.2.2 ⟨by rw [← k2, this], hmn2⟩
  · rw [r9]; rfl
  · rw [r10]; rfl
end
theorem recD_has (rs : List (ByteArray × ByteArray)) (kv : ByteArray × ByteArray) (h : kv ∈ rs) : ∃ v, getS (recD rs) kv.1.data.toList = some v := by
  have hg : ∀ (l : List (ByteArray × ByteArray)) (D : DataW Unit), IsMap D → ((∃ v, getS D kv.1.data.toList = some v) ∨ kv ∈ l) → ∃ v, getS (l.foldl (fun D kv => D.put (sK kv.1) (sV kv.2.data.toList)) D) kv.1.data.toList = some v := by
    intro l
    induction l with
    | nil => intro D _ h; rcases h with h | h; exact h; cases h
    | cons p l ih =>
      intro D hD h
      refine ih _ (hD.put _ _) ?_
      by_cases hp : kv.1.data.toList = p.1.data.toList
      · left
        refine ⟨p.2.data.toList, ?_⟩
        unfold sK
        rw [getS_put hD, if_pos hp]
      · rcases h with ⟨v, h⟩ | h
        · left
          refine ⟨v, ?_⟩
          unfold sK
          rw [getS_put hD, if_neg hp]
          exact h
        · rcases List.mem_cons.1 h with rfl | h
          · exact absurd rfl hp
          · exact .inr h
  exact hg rs _ isMap_empty (.inr h)
theorem recD_size (rs : List (ByteArray × ByteArray)) (h : 0 < rs.length) : Maps.size (recD rs) ≠ 0 := by
  intro h0
  obtain ⟨kv, hk⟩ : ∃ kv, kv ∈ rs := ⟨rs[0], List.getElem_mem h⟩
  obtain ⟨v, hv⟩ := recD_has rs kv hk
  rw [size0_getS (recD_cov rs).1 h0] at hv
  cases hv
theorem basic_no (k : List UInt8) (h : basicK k = true) : k ≠ [] ∧ k.contains 61 = false ∧ k.contains 46 = false := by
  unfold basicK basicD Rows.laid_tapearchives_pub_gotar_basicKeys at h
  rw [has_eq] at h
  simp only [List.any_cons, List.any_nil, Lit.sameKey, Bool.or_eq_true, Bool.or_false, beq_iff_eq] at h
  rcases h with rfl | rfl | rfl | rfl | rfl | rfl | rfl | rfl | rfl | rfl <;> exact ⟨by simp, by decide, by decide⟩
theorem text_no (k : List UInt8) (h : textKey k = true) : k.contains 46 = false := by
  unfold textKey at h
  simp only [Bool.or_eq_true, beq_iff_eq] at h
  rcases h with ((rfl | rfl) | rfl) | rfl <;> decide
section
variable {H : Hd} {p : SpH} {rs : List (ByteArray × ByteArray)} {F : Int}
theorem stFin_u0 {R : DataW Unit} (h : (afBase H R).u = false) : (stFin H R).u = false := by
  unfold stFin paxSt swSt
  split <;> split <;> first | rfl | exact h
theorem stFin_g0 {R : DataW Unit} (h : (afBase H R).g = false) : (stFin H R).g = false := by
  unfold stFin paxSt swSt
  split <;> split <;> first | rfl | exact h
theorem stFin_p {R : DataW Unit} : (stFin H R).p = (afBase H R).p := by
  unfold stFin paxSt swSt
  split <;> split <;> rfl
theorem stFin_rec {R : DataW Unit} (h : Maps.size R ≠ 0) : (stFin H R).u = false ∧ (stFin H R).g = false := by
  unfold stFin paxSt
  rw [if_neg h]
  exact ⟨rfl, rfl⟩
theorem stFin_none {R : DataW Unit} (h : Maps.size R = 0) (ht : H.tf ≠ 103) : (stFin H R).u = (afBase H R).u ∧ (stFin H R).g = (afBase H R).g := by
  unfold stFin paxSt swSt
  rw [if_pos h, if_neg ht]
  exact ⟨rfl, rfl⟩
def BadC (H : Hd) (rs : List (ByteArray × ByteArray)) (F : Int) : Prop :=
  badH H = true ∨ (∀ D, PaxOf H (recD rs) D → ¬ AllRec D) ∨ (F = 1 ∧ (stFin H (recD rs)).u = false) ∨ (F = 2 ∧ (stFin H (recD rs)).p = false ∧ (stFin H (recD rs)).u = false) ∨ (F = 3 ∧ (stFin H (recD rs)).g = false)
theorem strBadU_tx {s : ByteArray} {n : Nat} (h : asc s = false ∨ (n : Int) < (s.size : Int)) : strBadU false s n = true := by
  unfold strBadU strBad
  rcases h with h | h
  · rw [h]; rfl
  · rw [decide_eq_true (show n < s.size by omega)]; simp
theorem sm_u {b : Bool} {n : Int} (h : SmBad 1 b n) : fitO 8 n = false := by
  unfold SmBad at h
  rw [if_neg (by decide), if_neg (by simp)] at h
  rw [fitO8, Bool.and_eq_false_iff, decide_eq_false_iff_not, decide_eq_false_iff_not]
  omega
theorem sm_p {n : Int} (h : SmBad 2 false n) : fitO 8 n = false := by
  unfold SmBad at h
  rw [if_neg (by decide), if_neg (by simp)] at h
  rw [fitO8, Bool.and_eq_false_iff, decide_eq_false_iff_not, decide_eq_false_iff_not]
  omega
theorem sm_pt {n : Int} (h : SmBad 2 true n) : False := by
  unfold SmBad at h
  rw [if_neg (by decide), if_pos (by simp)] at h
  exact h
theorem sm_g {b : Bool} {n : Int} (h : SmBad 3 b n) : fitB 8 n = false := by
  unfold SmBad at h
  rw [if_pos rfl] at h
  rw [fitB8, Bool.and_eq_false_iff, decide_eq_false_iff_not, decide_eq_false_iff_not]
  omega
theorem sm_bad {b : Bool} {x : Int} (hF : F = 1 ∨ F = 2 ∨ F = 3) (h : SmBad F b x) (hu : fitO 8 x = false → (afBase H (recD rs)).u = false) (hp : b = false → fitO 8 x = false → (afBase H (recD rs)).p = false) (hg : fitB 8 x = false → (afBase H (recD rs)).g = false) : BadC H rs F := by
  rcases hF with rfl | rfl | rfl
  · exact .inr (.inr (.inl ⟨rfl, stFin_u0 (hu (sm_u h))⟩))
  · cases b with
    | true => exact (sm_pt h).elim
    | false => exact .inr (.inr (.inr (.inl ⟨rfl, by rw [stFin_p]; exact hp rfl (sm_p h), stFin_u0 (hu (sm_p h))⟩)))
  · exact .inr (.inr (.inr (.inr ⟨rfl, stFin_g0 (hg (sm_g h))⟩)))
theorem law_bad (hM : Mt H p) (hF : F = 1 ∨ F = 2 ∨ F = 3) (htf : H.tf ≠ 103) (h : cQ9 p F rs ∨ ∃ kv ∈ rs, RecBad kv.1) : BadC H rs F := by
  have bu := base_u H (recD rs)
  have bp := base_p H (recD rs)
  have bg := base_g H (recD rs)
  have U1 : F = 1 → (afBase H (recD rs)).u = false → BadC H rs F := fun e h => .inr (.inr (.inl ⟨e, stFin_u0 h⟩))
  have G3 : F = 3 → (afBase H (recD rs)).g = false → BadC H rs F := fun e h => .inr (.inr (.inr (.inr ⟨e, stFin_g0 h⟩)))
  rcases h with h | ⟨kv, hkv, hb1, hb2⟩
  · rcases h with h | ⟨hl, hF2⟩
    · rcases h with h | ⟨h1, h2⟩
      · rcases h with h | h
        · rcases h with h | h | h
          · rcases h with h | h | h | h | h | h
            · rcases h with h | h | h | h | h
              · exact h.elim
              · rcases h with ⟨h1, h2⟩ | ⟨h1, h2, h3⟩
                · refine U1 h1 ?_
                  have hsp : splitOk H.name = false := by
                    cases hk : splitOk H.name with
                    | false => rfl
                    | true =>
                      have := split_big _ hk
                      rw [hM.name] at this
                      rcases h2 with h2 | h2
                      · rw [this.2.1] at h2; cases h2
                      · omega
                  have hb : strBadU true H.name 100 = true := by
                    unfold strBadU strBad
                    rw [hsp, hM.name]
                    rcases h2 with h2 | h2
                    · rw [h2]; rfl
                    · rw [decide_eq_true (show 100 < p.name.size by omega)]; simp
                  rw [bu, hb]; simp
                · refine U1 h1 ?_
                  have hb : strBadU true H.name 100 = true := by
                    unfold strBadU strBad
                    rw [hM.name, decide_eq_true h2]
                    cases ha : asc p.name with
                    | false =>
                      have : splitOk p.name = false := by
                        cases hk : splitOk p.name with
                        | false => rfl
                        | true => have := (split_big _ hk).2.1; rw [this] at ha; cases ha
                      rw [this]; rfl
                    | true => rw [split_eq _ h2 ha, h3]; rfl
                  rw [bu, hb]; simp
              · obtain ⟨h1, h2⟩ := h
                refine U1 h1 ?_
                rw [bu, strBadU_tx (s := H.link) (n := 100) (by rw [hM.link]; exact h2)]; simp
              · rcases h with ⟨h1, h2⟩ | ⟨h1, h2⟩
                · refine U1 h1 ?_
                  rw [bu, strBadU_tx (s := H.uname) (n := 32) (by rw [hM.uname]; exact h2)]; simp
                · refine G3 h1 ?_
                  rw [bg, show strBadG false H.uname 32 = true by unfold strBadG; rw [hM.uname, decide_eq_true h2]; simp]; simp
              · rcases h with ⟨h1, h2⟩ | ⟨h1, h2⟩
                · refine U1 h1 ?_
                  rw [bu, strBadU_tx (s := H.gname) (n := 32) (by rw [hM.gname]; exact h2)]; simp
                · refine G3 h1 ?_
                  rw [bg, show strBadG false H.gname 32 = true by unfold strBadG; rw [hM.gname, decide_eq_true h2]; simp]; simp
            · rw [← hM.mode] at h
              exact sm_bad hF h (fun e => by rw [bu, e]; simp) (fun _ e => by rw [bp, e]; simp) (fun e => by rw [bg, e]; simp)
            · rw [← hM.uid] at h
              exact sm_bad hF h (fun e => by rw [bu, e]; simp) (fun e _ => by cases e) (fun e => by rw [bg, e]; simp)
            · rw [← hM.gid] at h
              exact sm_bad hF h (fun e => by rw [bu, e]; simp) (fun e _ => by cases e) (fun e => by rw [bg, e]; simp)
            · rw [← hM.maj] at h
              exact sm_bad hF h (fun e => by rw [bu, e]; simp) (fun _ e => by rw [bp, e]; simp) (fun e => by rw [bg, e]; simp)
            · rw [← hM.min] at h
              exact sm_bad hF h (fun e => by rw [bu, e]; simp) (fun _ e => by rw [bp, e]; simp) (fun e => by rw [bg, e]; simp)
          · unfold szB at h
            rw [Bool.and_eq_false_iff] at h
            rcases h with h | h
            · left
              rw [Bool.or_eq_false_iff, decide_eq_false_iff_not] at h
              have hd : hdrOnly H.tf = false := by
                have h2 : datB p = true := by simpa using h.2
                unfold datB at h2
                unfold hdrOnly
                rw [hM.tf]
                rw [Bool.or_eq_true, decide_eq_true_eq, decide_eq_true_eq] at h2
                rw [Bool.and_eq_false_iff, decide_eq_false_iff_not, decide_eq_false_iff_not]
                omega
              unfold badH
              rw [hd, hM.size, decide_eq_true (show p.size < 0 by omega)]
              simp
            · rw [Bool.or_eq_false_iff, decide_eq_false_iff_not] at h
              have h1 : F = 1 := by simpa using h.1
              refine U1 h1 ?_
              have : fitO 12 H.size = false := by
                rw [fitO12, hM.size, Bool.and_eq_false_iff, decide_eq_false_iff_not, decide_eq_false_iff_not]
                omega
              rw [bu, this]; simp
          · exact h.elim
        · exact h.elim
      · refine U1 h1 ?_
        rcases h2 with h2 | h2
        · rw [bu, hM.mt, hM.mz, h2]; simp
        · unfold noT at h2
          rw [Bool.and_eq_false_iff] at h2
          rcases h2 with h2 | h2
          · rw [bu, hM.a, h2]; simp
          · rw [bu, hM.c, h2]; simp
    · have hz := stFin_rec (H := H) (recD_size rs hl)
      rcases hF with e | e | e
      · exact .inr (.inr (.inl ⟨e, hz.1⟩))
      · exact absurd e hF2
      · exact .inr (.inr (.inr (.inr ⟨e, hz.2⟩)))
  · refine .inr (.inl fun D hD hA => ?_)
    obtain ⟨v, hv⟩ := recD_has rs kv hkv
    have hrec : vRec kv.1 ⟨v.toArray⟩ = false ∧ ∀ u, vRec kv.1 u = false := by
      have : ∀ u, vRec kv.1 u = false := by
        intro u
        unfold vRec
        rcases hb1 with h | h
        · rw [h]; simp
        · have : kv.1.data.toList = [] := by
            have e : kv.1.data.toList.length = 0 := by rw [Array.length_toList]; exact h
            exact List.eq_nil_of_length_eq_zero e
          rw [this]; simp
      exact ⟨this _, this⟩
    have hkeep : keepRec H.tf kv.1.data.toList = true := by
      unfold keepRec
      have h1 : Lib.hasPrefix kv.1.data.toList gnuSp = false := hb2
      rw [h1]
      have h2 : basicK kv.1.data.toList = false := by
        cases hk : basicK kv.1.data.toList with
        | false => rfl
        | true =>
          have hn := basic_no _ hk
          rcases hb1 with h | h
          · have : kv.1.data.toList.contains 61 = true := h
            rw [hn.2.1] at this; cases this
          · exfalso
            refine hn.1 (List.eq_nil_of_length_eq_zero ?_)
            rw [Array.length_toList]; exact h
      rw [h2]
      simp
    have hD2 := hD kv.1.data.toList
    have : ∃ u, getS D kv.1.data.toList = some u := by
      rw [hD2]
      split
      · exact ⟨_, rfl⟩
      · rw [if_pos hkeep]; exact ⟨v, hv⟩
    obtain ⟨u, hu⟩ := this
    have := hA kv.1 ⟨u.toArray⟩ (by rw [hu])
    rw [hrec.2] at this
    cases this
theorem afNum_none {R : DataW Unit} (hR : Maps.has R (sK kNoneB) = false) (x : Int) (size : Nat) (st : AfS) : (afNum R true x kNoneB size st).D = st.D := by
  unfold afNum
  rw [show (!fitO size x && !true) = false by simp, show hasAt R kNoneB (dec x) = false by unfold hasAt; rw [hR]; rfl]
  rfl
def baseL2 (H : Hd) : List (ByteArray × ByteArray) := [(kPathB, H.name), (kLinkB, H.link), (kUnameB, H.uname), (kGnameB, H.gname), (kUidB, dec H.uid), (kGidB, dec H.gid), (kSizeB, dec H.size), (kMtimeB, ptime H.mn H.mx), (kAtimeB, ptime H.an H.ax), (kCtimeB, ptime H.cn H.cx)]
theorem afBase_cov2 (H : Hd) {R : DataW Unit} (hR : Maps.has R (sK kNoneB) = false) : MCov (afBase H R).D (baseL2 H) := by
  have h0 : MCov st0.D (baseL2 H) := ⟨isMap_empty, fun k v h => by cases h⟩
  have h1 := afStr_cov h0 R true true H.name kPathB 100 (by simp [baseL2])
  have h2 := afStr_cov h1 R false true H.link kLinkB 100 (by simp [baseL2])
  have h3 := afStr_cov h2 R false false H.uname kUnameB 32 (by simp [baseL2])
  have h4 := afStr_cov h3 R false false H.gname kGnameB 32 (by simp [baseL2])
  rw [← afNum_none hR H.mode 8] at h4
  have h6 := afNum_cov h4 R false H.uid kUidB 8 (by simp [baseL2])
  have h7 := afNum_cov h6 R false H.gid kGidB 8 (by simp [baseL2])
  have h8 := afNum_cov h7 R false H.size kSizeB 12 (by simp [baseL2])
  rw [← afNum_none hR H.maj 8] at h8
  rw [← afNum_none hR H.min 8] at h8
  have h11 := afTime_cov h8 R true H.mn H.mx kMtimeB (by simp [baseL2])
  have h12 := afTime_cov h11 R false H.an H.ax kAtimeB (by simp [baseL2])
  exact afTime_cov h12 R false H.cn H.cx kCtimeB (by simp [baseL2])
theorem baExt2 {a b : ByteArray} (h : a.data.toList = b.data.toList) : a = b := by
  cases a; cases b
  congr 1
  exact Array.toList_inj.1 h
theorem allRec_ok (hn : hasB H.name 0 = false) (hl : hasB H.link 0 = false) (hu : hasB H.uname 0 = false) (hg : hasB H.gname 0 = false) (hr : ∀ kv ∈ rs, RecOk kv.1) (D : DataW Unit) (hD : PaxOf H (recD rs) D) : AllRec D := by
  have hR : Maps.has (recD rs) (sK kNoneB) = false := by
    cases hh : Maps.has (recD rs) (sK kNoneB) with
    | false => rfl
    | true =>
      obtain ⟨q, hq, e1, _⟩ := (recD_cov rs).2 kNoneB.data.toList _ (getS_some hh)
      have := (hr q hq).2.1
      have e2 : q.1.size = 0 := by rw [show q.1 = kNoneB from baExt2 e1]; rfl
      omega
  intro k v hkv
  rw [hD k.data.toList] at hkv
  split at hkv
  · next v' e =>
    obtain ⟨q, hq, e1, e2⟩ := (afBase_cov2 H hR).2 _ _ e
    have e3 : v.data.toList = v' := (Option.some.inj hkv).symm
    have ek : k = q.1 := (baExt2 e1).symm
    have ev : v = q.2 := baExt2 (e3.trans e2.symm)
    subst ek ev
    unfold baseL2 at hq
    simp only [List.mem_cons, List.not_mem_nil, or_false] at hq
    have tx : ∀ s, hasB s 0 = false → (!(hasB s 0)) = true := by intro s h; rw [h]; rfl
    rcases hq with rfl | rfl | rfl | rfl | rfl | rfl | rfl | rfl | rfl | rfl
    · exact tx _ hn
    · exact tx _ hl
    · exact tx _ hu
    · exact tx _ hg
    all_goals rfl
  · split at hkv
    · obtain ⟨q, hq, e1, e2⟩ := (recD_cov rs).2 _ _ hkv
      have ek : k = q.1 := (baExt2 e1).symm
      subst ek
      obtain ⟨r1, r2, r3, r4, r5⟩ := hr q hq
      unfold vRec
      have ht : textKey q.1.data.toList = false := by
        cases ht : textKey q.1.data.toList with
        | false => rfl
        | true =>
          have h1 := text_no _ ht
          have h2 : q.1.data.toList.contains 46 = true := r4
          rw [h1] at h2; cases h2
      have hne : (q.1.data.toList == []) = false := by
        rw [beq_eq_false_iff_ne]
        intro e
        apply r2
        have : q.1.data.toList.length = 0 := by rw [e]; rfl
        rw [Array.length_toList] at this
        exact this
      rw [ht, hne, r1, r3]
      rfl
    · cases hkv
theorem smok_u {b : Bool} {n : Int} (h : SmOk 1 b n) : fitO 8 n = true := by
  unfold SmOk at h
  rw [if_neg (by decide), if_neg (by simp)] at h
  rw [fitO8, decide_eq_true h.1, decide_eq_true h.2]; rfl
theorem smok_p {n : Int} (h : SmOk 2 false n) : fitO 8 n = true := by
  unfold SmOk at h
  rw [if_neg (by decide), if_neg (by simp)] at h
  rw [fitO8, decide_eq_true h.1, decide_eq_true h.2]; rfl
theorem smok_g {b : Bool} {n : Int} (h : SmOk 3 b n) : fitB 8 n = true := by
  unfold SmOk at h
  rw [if_pos rfl] at h
  rw [fitB8, decide_eq_true (by omega), decide_eq_true h.2]; rfl
theorem txok_u {s : ByteArray} {n : Nat} (h : TxOk s n 1) : strBadU false s n = false := by
  obtain ⟨h1, h2⟩ := h.2 rfl
  unfold strBadU strBad
  rw [h1, decide_eq_false (show ¬ n < s.size by omega)]; rfl
theorem law_ok (hM : Mt H p) (h : cP9 p F rs) (hr : ∀ kv ∈ rs, RecOk kv.1) :
    badH H = false ∧ (∀ D, PaxOf H (recD rs) D → AllRec D) ∧ H.tf ≠ 103 ∧ (F = 1 → (stFin H (recD rs)).u = true) ∧ (F = 2 → (stFin H (recD rs)).p = true) ∧ (F = 3 → (stFin H (recD rs)).g = true) := by
  obtain ⟨⟨⟨⟨⟨⟨⟨⟨⟨a1, a2, a3⟩, ⟨n1, n2⟩, hl, hu, hg⟩, hmo, hui, hgi, hma, hmi⟩, hsz, hmt⟩, h0⟩, hut⟩, _⟩, _⟩, hrs⟩ := h
  have htf : H.tf ≠ 103 := by rw [hM.tf]; intro e; rw [e] at a2; exact absurd a2 (by decide)
  have bu := base_u H (recD rs)
  have bp := base_p H (recD rs)
  have bg := base_g H (recD rs)
  have hz : F ≠ 2 → Maps.size (recD rs) = 0 := by
    intro hF
    have : rs = [] := by
      cases rs with
      | nil => rfl
      | cons q l => exact absurd (hrs (by simp)) hF
    rw [this]; rfl
  refine ⟨?_, allRec_ok (by rw [hM.name]; exact n1.1) (by rw [hM.link]; exact hl.1) (by rw [hM.uname]; exact hu.1.1) (by rw [hM.gname]; exact hg.1.1) hr, htf, ?_, ?_, ?_⟩
  · have t : ∀ n, n < 256 → p.tf = UInt8.ofNat n → p.tf.toNat = n := fun n hn e => (tf_nat _ n hn).1 e
    have e1 : badSw H = false := by
      unfold badSw
      have o1 : ownTf H.tf = false := by
        unfold ownTf
        rw [hM.tf]
        rw [Bool.or_eq_false_iff, Bool.or_eq_false_iff, decide_eq_false_iff_not, decide_eq_false_iff_not, decide_eq_false_iff_not]
        refine ⟨⟨?_, ?_⟩, ?_⟩ <;> intro e <;> rw [e] at a2 <;> exact absurd a2 (by decide)
      have o2 : (noSlashTf H.tf && endsSlash H.name) = false := by
        cases hs : endsSlash H.name with
        | false => simp
        | true =>
          have := a3 (by rw [← hM.name]; exact hs)
          have h53 : p.tf = 53 := (tf_nat p.tf 53 (by decide)).2 this
          unfold noSlashTf
          rw [hM.tf, h53]; rfl
      rw [o1, o2, decide_eq_false htf]; rfl
    unfold badH
    rw [e1, hM.size, decide_eq_false (show ¬ p.size < 0 by omega)]
    simp
  · rintro rfl
    rw [(stFin_none (hz (by decide)) htf).1, bu]
    obtain ⟨x1, x2⟩ := hut rfl
    have hnm : strBadU true H.name 100 = false := by
      rw [hM.name]
      obtain ⟨y1, y2⟩ := n1.2 rfl
      unfold strBadU strBad
      by_cases hlt : 100 < p.name.size
      · rw [split_eq _ hlt y1]
        rcases n2 rfl with h | h
        · omega
        · rw [h]; simp
      · rw [y1, decide_eq_false hlt]; rfl
    have hsz2 : fitO 12 H.size = true := by
      unfold szB at hsz
      rw [fitO12, hM.size]
      simp at hsz
      rw [decide_eq_true h0, decide_eq_true hsz.2]; rfl
    unfold noT at x2
    simp only [Bool.and_eq_true, Bool.not_eq_true'] at x2
    rw [hnm, hM.link, hM.uname, hM.gname, hM.mode, hM.uid, hM.gid, hsz2, hM.maj, hM.min, hM.mt, hM.a, hM.c, txok_u (n := 100) hl, txok_u (n := 32) hu.1, txok_u (n := 32) hg.1, smok_u hmo, smok_u hui, smok_u hgi, smok_u hma, smok_u hmi, x1, x2.1, x2.2]
    simp
  · rintro rfl
    rw [stFin_p, bp, hM.mode, hM.maj, hM.min, smok_p hmo, smok_p hma, smok_p hmi]
    rfl
  · rintro rfl
    rw [(stFin_none (hz (by decide)) htf).2, bg]
    have g1 : ∀ s : ByteArray, hasB s 0 = false → strBadG true s 100 = false := by intro s h; unfold strBadG; rw [h]; simp
    have g2 : ∀ s : ByteArray, hasB s 0 = false → s.size ≤ 32 → strBadG false s 32 = false := by intro s h h2; unfold strBadG; rw [h, decide_eq_false (show ¬ 32 < s.size by omega)]; rfl
    rw [hM.name, hM.link, hM.uname, hM.gname, hM.mode, hM.uid, hM.gid, hM.maj, hM.min, g1 _ n1.1, g1 _ hl.1, g2 _ hu.1.1 (hu.2 rfl), g2 _ hg.1.1 (hg.2 rfl), smok_g hmo, smok_g hui, smok_g hgi, smok_g hma, smok_g hmi]
    rfl
end
def Inv (a : AS) : Prop := a.er = 0 ∧ 0 ≤ a.nb ∧ 0 ≤ a.pad ∧ ((a.out.length : Int) + a.pad + a.nb) % 512 = 0
theorem fl_len (a : AS) : a.fl.out.length = a.out.length + a.pad.toNat := by
  show (a.out ++ List.replicate a.pad.toNat 0).length = _
  rw [List.length_append, List.length_replicate]
theorem inv_fl {a : AS} (h : Inv a) (hn : a.nb ≤ 0) : a.fl.out.length % 512 = 0 ∧ Inv a.fl := by
  obtain ⟨h1, h2, h3, h4⟩ := h
  have e := fl_len a
  refine ⟨by omega, h1, h2, Int.le_refl _, ?_⟩
  show ((a.fl.out.length : Int) + 0 + a.nb) % 512 = 0
  omega
theorem bpad_mod (x : Int) : (x + bpad x) % 512 = 0 := by unfold bpad; omega
/-- Behind a header. -/
theorem wh_inv {H : Hd} {R : DataW Unit} {fu fp fg : Bool} {a a' : AS} {x : Int} (h : WhA H R fu fp fg a a' x) (hx : x = 0) (ht : H.tf ≠ 103) (hm : a.out.length % 512 = 0) :
    a'.er = 0 ∧ a'.nb = szOf H.size H.tf ∧ a'.pad = bpad (szOf H.size H.tf) ∧ a'.out.length % 512 = 0 := by
  rcases h with ⟨rfl, rfl, _⟩ | ⟨_, D, hD, _, h | h | h | h⟩
  · cases hx
  · obtain ⟨_, _, rfl, hb⟩ := h
    refine ⟨rfl, rfl, rfl, ?_⟩
    have e : ((usSt a.st 0 H).as 0).out.length = a.out.length + 512 := by
      show (a.out ++ List.replicate 0 0 ++ usBlk H).length = _
      simp [hb]
    omega
  · obtain ⟨_, _, _, rfl, _⟩ := h
    cases hx
  · obtain ⟨_, _, hbig, _, rfl, hb⟩ := h
    have e0 : paxStAll a.st 0 H D = paxSt2 (paxSt1 a.st 0 H D) (paxPad 0 H D) H := by unfold paxStAll; rw [if_neg ht]
    rw [e0]
    refine ⟨rfl, rfl, rfl, ?_⟩
    have e : ((paxSt2 (paxSt1 a.st 0 H D) (paxPad 0 H D) H).as 0).out = (paxSt1 a.st 0 H D).out ++ List.replicate (paxPad 0 H D) 0 ++ paxBlk H := by unfold paxSt2; exact rawSt_bk _ _ _ H.size H.tf
    rw [e, List.length_append, List.length_append, List.length_replicate, hb ht]
    unfold paxSt1 paxPad
    split
    · rw [rawFileSt_len]
      have h1 := bpad_mod (paxData D).length
      have h2 := bpad_rng (paxData D).length
      have h3 : (⟨(paxData D).toArray⟩ : ByteArray).size = (paxData D).length := rfl
      have h4 : a.st.out.length = a.out.length := rfl
      omega
    · have h4 : a.st.out.length = a.out.length := rfl
      omega
  · obtain ⟨_, _, _, _, rfl, hb⟩ := h
    refine ⟨rfl, rfl, rfl, ?_⟩
    have e : ((gnSt a.st 0 H).as 0).out = (gnS a.st 0 H).out ++ List.replicate (gnPad 0 H) 0 ++ gnBlk H := by unfold gnSt; exact rawSt_bk _ _ _ H.size H.tf
    rw [e, List.length_append, List.length_append, List.length_replicate, hb]
    have g : ∀ (s : WSt) (q : Nat) (x : ByteArray) (f : UInt8), (s.out.length + q) % 512 = 0 → ((gnL s q x f).out.length + gnP q x) % 512 = 0 := by
      intro s q x f hs
      unfold gnL gnP
      split
      · rw [rawFileSt_len]
        have h1 := bpad_mod ((x ++ ⟨#[0]⟩ : ByteArray).size)
        have h2 := bpad_rng ((x ++ ⟨#[0]⟩ : ByteArray).size)
        omega
      · exact hs
    have g1 := g a.st 0 H.name 76 (by show (a.out.length + 0) % 512 = 0; omega)
    have g2 := g _ _ H.link 75 g1
    have e2 : gnS a.st 0 H = gnL (gnL a.st 0 H.name 76) (gnP 0 H.name) H.link 75 := rfl
    have e3 : gnPad 0 H = gnP (gnP 0 H.name) H.link := rfl
    rw [e2, e3]
    omega
section
variable {B : Nat} {h : InH} {o : Option Addr} {n c : Nat} {rs : List (ByteArray × ByteArray)} {w : World}
/-- What is known of a header that the specification calls wrong, and of one that it calls right. -/
def WrongC (s : SpH) (rs : List (ByteArray × ByteArray)) : Prop := (s.fmt ≠ 0 ∧ (s.fmt = 1 ∨ s.fmt = 2 ∨ s.fmt = 3) ∧ CanBad s rs s.fmt) ∨ (s.fmt = 0 ∧ strB s rs = false ∧ s.mn ≠ 500000000 ∧ CanBad s.rnd rs 1 ∧ CanBad s.rnd rs 2 ∧ CanBad s.rnd rs 3)
def RightC (s : SpH) (rs : List (ByteArray × ByteArray)) : Prop := (s.fmt ≠ 0 ∧ CanOk s rs s.fmt) ∨ (s.fmt = 0 ∧ strB s rs = false ∧ s.mn ≠ 500000000 ∧ ∃ F, (F = 1 ∨ F = 2 ∨ F = 3) ∧ CanOk s.rnd rs F)
theorem wh_bad {H : Hd} {fu fp fg : Bool} {a a' : AS} {x : Int} (hw : WhA H (recD rs) fu fp fg a a' x) (hx : x = 0) (hb : badH H = true ∨ (∀ D, PaxOf H (recD rs) D → ¬ AllRec D) ∨ (afU H (recD rs) fu fp fg = false ∧ afP H (recD rs) fu fp fg = false ∧ afG H (recD rs) fu fp fg = false)) : False := by
  rcases hw with ⟨rfl, _⟩ | ⟨h1, D, hD, hA, h2⟩
  · cases hx
  · rcases hb with hb | hb | ⟨b1, b2, b3⟩
    · rw [h1] at hb; cases hb
    · exact hb D hD.1 hA
    · rcases h2 with h | h | h | h
      · rw [b1] at h; cases h.1
      · rw [b2] at h; cases h.2.1
      · rw [b2] at h; cases h.2.1
      · rw [b3] at h; cases h.2.2.1
theorem lawWrong (x : HdI B w h o n c rs) (m : Value) (ra : Option Addr) (rc : Nat) (htf : (h.sp ra n rc).prom.tf ≠ 103) (hv : WrongC (h.sp ra n rc) rs) {a a' : AS} {e : Int} (hw : WhA (whH (h.hd m)) (recD rs) (fmtU h.fmt) (fmtP h.fmt) (fmtG h.fmt) a a' e) : e ≠ 0 := by
  intro he
  have hsf : (h.sp ra n rc).fmt = h.fmt := rfl
  rcases hv with ⟨h0, hF, hb⟩ | ⟨h0, hs, hmn, hb1, hb2, hb3⟩
  · have hM := mt_fmt (rs := rs) h x.ok m ra n rc hF hb.1
    have ht : (whH (h.hd m)).tf ≠ 103 := by rw [hM.tf]; exact htf
    have hl := law_bad hM hF ht hb.2
    refine wh_bad hw he ?_
    rw [hsf] at hl hF
    rcases hl with hl | hl | ⟨e1, e2⟩ | ⟨e1, e2, e3⟩ | ⟨e1, e2⟩
    · exact .inl hl
    · exact .inr (.inl hl)
    · rw [e1]
      refine .inr (.inr ⟨?_, ?_, ?_⟩)
      · unfold afU finU; rw [e2]; simp
      · unfold afP finP; simp [fmtU, fmtP, fmtG]
      · unfold afG finG; simp [fmtU, fmtP, fmtG]
    · rw [e1]
      refine .inr (.inr ⟨?_, ?_, ?_⟩)
      · unfold afU finU; rw [e3]; simp
      · unfold afP finP; rw [e2]; simp
      · unfold afG finG; simp [fmtU, fmtP, fmtG]
    · rw [e1]
      refine .inr (.inr ⟨?_, ?_, ?_⟩)
      · unfold afU finU; simp [fmtU, fmtP, fmtG]
      · unfold afP finP; simp [fmtU, fmtP, fmtG]
      · unfold afG finG; rw [e2]; simp
  · have hM := mt_rnd (rs := rs) h x.ok m ra n rc h0 hs hb1.1 hmn
    have htr : (h.sp ra n rc).rnd.prom.tf = (h.sp ra n rc).prom.tf := by
      unfold SpH.prom SpH.rnd
      show (if h.tf = 0 then _ else _ : SpH).tf = (if h.tf = 0 then _ else _ : SpH).tf
      split <;> rfl
    have ht : (whH (h.hd m)).tf ≠ 103 := by rw [hM.tf, htr]; exact htf
    have l1 := law_bad hM (.inl rfl) ht hb1.2
    have l2 := law_bad hM (.inr (.inl rfl)) ht hb2.2
    have l3 := law_bad hM (.inr (.inr rfl)) ht hb3.2
    refine wh_bad hw he ?_
    rw [hsf] at h0
    rw [h0]
    rcases l1 with l | l | ⟨_, u⟩ | ⟨q, _⟩ | ⟨q, _⟩
    · exact .inl l
    · exact .inr (.inl l)
    · rcases l2 with l | l | ⟨q, _⟩ | ⟨_, p, _⟩ | ⟨q, _⟩
      · exact .inl l
      · exact .inr (.inl l)
      · cases q
      · rcases l3 with l | l | ⟨q, _⟩ | ⟨q, _⟩ | ⟨_, g⟩
        · exact .inl l
        · exact .inr (.inl l)
        · cases q
        · cases q
        · refine .inr (.inr ⟨?_, ?_, ?_⟩)
          · unfold afU finU; rw [u]; simp
          · unfold afP finP; rw [p]; simp
          · unfold afG finG; rw [g]; simp
      · cases q
    · cases q
    · cases q
theorem wh_good {H : Hd} {fu fp fg : Bool} {a a' : AS} {x : Int} (hw : WhA H (recD rs) fu fp fg a a' x) (hb : badH H = false) (hA : ∀ D, PaxOf H (recD rs) D → AllRec D) (hl : ∀ D, PaxK H (recD rs) D → (paxData D).length ≤ 1048576)
    (hf : (afU H (recD rs) fu fp fg || afP H (recD rs) fu fp fg || afG H (recD rs) fu fp fg) = true) : x = 0 := by
  rcases hw with ⟨rfl, _, h | ⟨D, h1, h2⟩ | h⟩ | ⟨h1, D, hD, _, h | h | h | h⟩
  · rw [hb] at h; cases h
  · exact absurd (hA D h1) h2
  · rw [hf] at h; cases h
  · exact h.2.1
  · have := hl D hD
    have := h.2.2.1.2
    omega
  · exact h.2.2.2.1
  · exact h.2.2.2.1
theorem lawRight (x : HdI B w h o n c rs) (m : Value) (ra : Option Addr) (rc : Nat) (hv : RightC (h.sp ra n rc) rs) {a a' : AS} {e : Int} (hw : WhA (whH (h.hd m)) (recD rs) (fmtU h.fmt) (fmtP h.fmt) (fmtG h.fmt) a a' e) :
    e = 0 ∧ (whH (h.hd m)).tf ≠ 103 ∧ (whH (h.hd m)).tf = (h.sp ra n rc).prom.tf ∧ (whH (h.hd m)).size = h.size ∧ 0 ≤ h.size := by
  have hsf : (h.sp ra n rc).fmt = h.fmt := rfl
  have hlen : ∀ s : SpH, strB s rs = false → totH s rs = totH (h.sp ra n rc) rs → ∀ D, PaxK (whH (h.hd m)) (recD rs) D → (paxData D).length ≤ 1048576 := by
    intro s hs ht D hD
    have h1 := hd_len x m hD
    unfold strB at hs
    simp only [Bool.or_eq_false_iff, decide_eq_false_iff_not] at hs
    have h2 := hs.1.1.1.1.1
    rw [ht] at h2
    unfold totH at h2
    have e1 : (h.sp ra n rc).name.size = h.name.size := rfl
    have e2 : (h.sp ra n rc).link.size = h.link.size := rfl
    have e3 : (h.sp ra n rc).uname.size = h.uname.size := rfl
    have e4 : (h.sp ra n rc).gname.size = h.gname.size := rfl
    omega
  have hsz : (whH (h.hd m)).size = h.size := by rw [(wh_size (h.hd m)).2.2, (hd_parts h m).2.2.2.2.1]
  rcases hv with ⟨h0, hb⟩ | ⟨h0, hs, hmn, F, hF, hb⟩
  · have hF : (h.sp ra n rc).fmt = 1 ∨ (h.sp ra n rc).fmt = 2 ∨ (h.sp ra n rc).fmt = 3 := by
      have hs := hb.1
      unfold strB at hs
      simp only [Bool.or_eq_false_iff, decide_eq_false_iff_not] at hs
      omega
    have hM := mt_fmt (rs := rs) h x.ok m ra n rc hF hb.1
    obtain ⟨l1, l2, l3, l4, l5, l6⟩ := law_ok hM hb.2.1 hb.2.2
    have hp0 : 0 ≤ h.size := by
      have := hb.2.1.1.1.1.1.2
      rw [(prom_all (h.sp ra n rc)).1] at this
      exact this
    refine ⟨wh_good hw l1 l2 (hlen _ hb.1 rfl) ?_, l3, hM.tf, hsz, hp0⟩
    rw [hsf] at hF l4 l5 l6
    rcases hF with e | e | e
    · unfold afU finU
      rw [e, l4 e]
      simp [fmtU, fmtP, fmtG]
    · unfold afP finP
      rw [e, l5 e]
      simp [fmtU, fmtP, fmtG]
    · unfold afG finG
      rw [e, l6 e]
      simp [fmtU, fmtP, fmtG]
  · have hM := mt_rnd (rs := rs) h x.ok m ra n rc h0 hs hb.1 hmn
    obtain ⟨l1, l2, l3, l4, l5, l6⟩ := law_ok hM hb.2.1 hb.2.2
    have htr : (h.sp ra n rc).rnd.prom.tf = (h.sp ra n rc).prom.tf := by
      unfold SpH.prom SpH.rnd
      show (if h.tf = 0 then _ else _ : SpH).tf = (if h.tf = 0 then _ else _ : SpH).tf
      split <;> rfl
    have hp0 : 0 ≤ h.size := by
      have := hb.2.1.1.1.1.1.2
      rw [(prom_all (h.sp ra n rc).rnd).1] at this
      exact this
    refine ⟨wh_good hw l1 l2 (hlen _ hb.1 rfl) ?_, l3, hM.tf.trans htr, hsz, hp0⟩
    rw [hsf] at h0
    rw [h0]
    rcases hF with e | e | e
    · unfold afU finU
      rw [l4 e]
      simp [fmtU, fmtP, fmtG]
    · unfold afP finP
      rw [l5 e]
      simp [fmtU, fmtP, fmtG]
    · unfold afG finG
      rw [l6 e]
      simp [fmtU, fmtP, fmtG]
end
theorem step_mono {x : OpI} {a a' : AS} {d : DoneI} (h : OpStep x a a' d) : a.out.length ≤ a'.out.length := by
  have hfl := fl_len a
  obtain ⟨_, h | h | h | h⟩ := h
  · obtain ⟨_, _, m, h⟩ := h
    rcases h with ⟨_, _, rfl⟩ | ⟨_, _, rfl⟩ | ⟨_, _, _, rfl⟩ | ⟨_, _, h⟩
    · omega
    · omega
    · omega
    · have h1 := wh_len h
      omega
  · obtain ⟨_, h⟩ := h
    rcases h with ⟨_, _, _, rfl⟩ | ⟨_, _, _, rfl⟩ | ⟨_, hn, _, rfl⟩
    · omega
    · omega
    · show a.out.length ≤ (a.out ++ x.data.take d.n).length
      rw [List.length_append]
      omega
  · obtain ⟨_, _, h⟩ := h
    rcases h with ⟨_, _, rfl⟩ | ⟨_, _, rfl⟩ | ⟨_, _, _, rfl⟩ | ⟨_, _, _, rfl⟩
    · omega
    · omega
    · show a.out.length ≤ a.out.length; omega
    · show a.out.length ≤ (a.out ++ List.replicate a.pad.toNat 0 ++ List.replicate 1024 0).length
      rw [List.length_append, List.length_append]
      omega
  · obtain ⟨_, _, _, _, h⟩ := h
    rcases h with ⟨_, _, rfl⟩ | ⟨_, _, rfl⟩ | ⟨_, _, _, rfl⟩ | ⟨_, _, _, rfl⟩ <;> omega
theorem run_mono : ∀ {xs : List OpI} {a b : AS} {ds : List DoneI}, Run xs a ds b → a.out.length ≤ b.out.length
  | [], _, _, _, h => by obtain ⟨_, rfl⟩ := h; exact Nat.le_refl _
  | x :: xs, _, _, _, h => by
    obtain ⟨d, ds', c, rfl, h1, h2⟩ := h
    exact Nat.le_trans (step_mono h1) (run_mono h2)
/-- A call behind Close. -/
theorem step_closed {x : OpI} {a a' : AS} {d : DoneI} (h : OpStep x a a' d) (he : a.er = 1) : a' = a ∧ d.len = a.out.length ∧ (x.kind ≠ 3 → d.n = 0 ∧ d.e = 5) := by
  obtain ⟨hl, h | h | h | h⟩ := h
  · obtain ⟨_, hn, m, h⟩ := h
    rcases h with ⟨_, e5, rfl⟩ | ⟨e, _⟩ | ⟨e, _⟩ | ⟨e, _⟩
    · exact ⟨rfl, hl, fun _ => ⟨hn, e5⟩⟩
    all_goals omega
  · obtain ⟨_, h⟩ := h
    rcases h with ⟨_, hn, e5, rfl⟩ | ⟨e, _⟩ | ⟨e, _⟩
    · exact ⟨rfl, hl, fun _ => ⟨hn, e5⟩⟩
    all_goals omega
  · obtain ⟨k3, _, h⟩ := h
    rcases h with ⟨_, _, rfl⟩ | ⟨e, _⟩ | ⟨e, _⟩ | ⟨e, _⟩
    · exact ⟨rfl, hl, fun h => absurd k3 h⟩
    all_goals omega
  · obtain ⟨_, _, _, hn, h⟩ := h
    rcases h with ⟨_, e5, rfl⟩ | ⟨e, _⟩ | ⟨e, _⟩ | ⟨e, _⟩
    · exact ⟨rfl, hl, fun _ => ⟨hn, e5⟩⟩
    all_goals omega
theorem run_closed : ∀ {xs : List OpI} {a b : AS} {ds : List DoneI}, Run xs a ds b → a.er = 1 → b = a
  | [], _, _, _, h, _ => by obtain ⟨_, rfl⟩ := h; rfl
  | x :: xs, _, _, _, h, he => by
    obtain ⟨d, ds', c, rfl, h1, h2⟩ := h
    have e := (step_closed h1 he).1
    subst e
    exact run_closed h2 he
theorem run_split : ∀ {xs : List OpI} {a b : AS} {ds : List DoneI}, Run xs a ds b → ∀ k, ∃ c, Run (xs.take k) a (ds.take k) c ∧ Run (xs.drop k) c (ds.drop k) b
  | xs, a, b, ds, h, 0 => ⟨a, ⟨rfl, rfl⟩, h⟩
  | [], a, b, ds, h, k + 1 => by obtain ⟨rfl, rfl⟩ := h; exact ⟨b, ⟨rfl, rfl⟩, ⟨rfl, rfl⟩⟩
  | x :: xs, a, b, ds, h, k + 1 => by
    obtain ⟨d, ds', c, rfl, h1, h2⟩ := h
    obtain ⟨c2, h3, h4⟩ := run_split h2 k
    exact ⟨c2, ⟨d, _, c, rfl, h1, h3⟩, h4⟩
theorem run_len : ∀ {xs : List OpI} {a b : AS} {ds : List DoneI}, Run xs a ds b → ds.length = xs.length
  | [], _, _, _, h => by obtain ⟨rfl, _⟩ := h; rfl
  | x :: xs, _, _, _, h => by
    obtain ⟨d, ds', c, rfl, h1, h2⟩ := h
    rw [List.length_cons, List.length_cons, run_len h2]
/-- The next call. -/
theorem run_next {xs : List OpI} {a b : AS} {ds : List DoneI} {k : Nat} (h : Run (xs.drop k) a (ds.drop k) b) {x : OpI} (hx : xs[k]? = some x) : ∃ d c, ds[k]? = some d ∧ OpStep x a c d ∧ Run (xs.drop (k + 1)) c (ds.drop (k + 1)) b := by
  have hk := (List.getElem?_eq_some_iff.1 hx)
  obtain ⟨hk, hx⟩ := hk
  rw [List.drop_eq_getElem_cons hk, hx] at h
  obtain ⟨d, ds', c, e, h1, h2⟩ := h
  have e1 : ds[k]? = some d := by
    have : (ds.drop k)[0]? = some d := by rw [e]; rfl
    rw [List.getElem?_drop] at this
    exact this
  have e2 : ds.drop (k + 1) = ds' := by
    have : (ds.drop k).drop 1 = ds' := by rw [e]; rfl
    rw [List.drop_drop] at this
    exact this
  exact ⟨d, c, e1, h1, by rw [e2]; exact h2⟩
section
variable {x : OpI} {a a' : AS} {d : DoneI}
theorem step_n (h : OpStep x a a' d) (hk : x.kind ≠ 1) : d.n = 0 := by
  obtain ⟨_, h | h | h | h⟩ := h
  · exact h.2.1
  · exact absurd h.1 hk
  · exact h.2.1
  · exact h.2.2.2.1
/-- Write. -/
theorem step_data (h : OpStep x a a' d) (hk : x.kind = 1) (hi : Inv a) : (a.nb < x.data.length → d.e = 3 ∧ (d.n : Int) ≤ a.nb) ∧ (¬ a.nb < x.data.length → d.e = 0 ∧ d.n = x.data.length ∧ Inv a' ∧ a'.nb = a.nb - x.data.length) := by
  obtain ⟨i1, i2, i3, i4⟩ := hi
  obtain ⟨_, h | h | h | h⟩ := h
  · have := h.1; omega
  · obtain ⟨_, h⟩ := h
    rcases h with ⟨e, _⟩ | ⟨e, _⟩ | ⟨_, hn, hx, ha⟩
    · omega
    · omega
    · constructor
      · intro hlt
        rw [if_pos hlt] at hx
        unfold wNum at hn
        exact ⟨hx, by omega⟩
      · intro hlt
        rw [if_neg hlt] at hx
        unfold wNum at hn
        have hd : d.n = x.data.length := by omega
        refine ⟨hx, hd, ?_, ?_⟩
        · rw [ha]
          refine ⟨rfl, by show 0 ≤ a.nb - _; omega, i3, ?_⟩
          show (((a.out ++ x.data.take d.n).length : Int) + a.pad + (a.nb - d.n)) % 512 = 0
          rw [List.length_append, List.length_take]
          omega
        · rw [ha]; show a.nb - (d.n : Int) = _; rw [hd]
  · have := h.1; omega
  · have := h.2.1; omega
/-- A call ahead of a file's end. -/
theorem step_miss (h : OpStep x a a' d) (hk : x.kind ≠ 1) (he : a.er = 0) (hn : 0 < a.nb) : d.e ≠ 0 := by
  obtain ⟨_, h | h | h | h⟩ := h
  · obtain ⟨_, _, m, h⟩ := h
    rcases h with ⟨e, _⟩ | ⟨e, _⟩ | ⟨_, _, e, _⟩ | ⟨_, e, _⟩ <;> omega
  · exact absurd h.1 hk
  · obtain ⟨_, _, h⟩ := h
    rcases h with ⟨e, _⟩ | ⟨e, _⟩ | ⟨_, _, e, _⟩ | ⟨_, e, _⟩ <;> omega
  · obtain ⟨_, _, _, _, h⟩ := h
    rcases h with ⟨e, _⟩ | ⟨e, _⟩ | ⟨_, _, e, _⟩ | ⟨_, e, _⟩ <;> omega
/-- Close. -/
theorem step_close (h : OpStep x a a' d) (hk : x.kind = 3) (hi : Inv a) (hn : a.nb = 0) : d.e = 0 ∧ d.len % 512 = 0 ∧ a'.er = 1 := by
  have hfl := fl_len a
  obtain ⟨i1, i2, i3, i4⟩ := hi
  obtain ⟨hl, h | h | h | h⟩ := h
  · have := h.1; omega
  · have := h.1; omega
  · obtain ⟨_, _, h⟩ := h
    rcases h with ⟨e, _⟩ | ⟨e, _⟩ | ⟨_, e, _⟩ | ⟨_, _, e, ha⟩
    · omega
    · omega
    · omega
    · refine ⟨e, ?_, by rw [ha]⟩
      rw [hl, ha]
      show (a.out ++ List.replicate a.pad.toNat 0 ++ List.replicate 1024 0).length % 512 = 0
      rw [List.length_append, List.length_append, List.length_replicate, List.length_replicate]
      omega
  · have := h.2.2.1; omega
/-- Flush. -/
theorem step_flush (h : OpStep x a a' d) (h0 : x.kind ≠ 0) (h1 : x.kind ≠ 1) (h3 : x.kind ≠ 3) (hi : Inv a) (hn : a.nb = 0) : d.e = 0 ∧ d.len % 512 = 0 ∧ Inv a' ∧ a'.nb = 0 := by
  have hf := inv_fl hi (by omega)
  obtain ⟨i1, i2, i3, i4⟩ := hi
  obtain ⟨hl, h | h | h | h⟩ := h
  · exact absurd h.1 h0
  · exact absurd h.1 h1
  · exact absurd h.1 h3
  · obtain ⟨_, _, _, _, h⟩ := h
    rcases h with ⟨e, _⟩ | ⟨e, _⟩ | ⟨_, e, _⟩ | ⟨_, _, e, ha⟩
    · omega
    · omega
    · omega
    · rw [ha] at hl ⊢
      exact ⟨e, by rw [hl]; exact hf.1, hf.2, hn⟩
theorem step_head (h : OpStep x a a' d) (hk : x.kind = 0) (hi : Inv a) (hn : a.nb = 0) : ∃ m, WhA (whH (x.h.hd m)) (recD x.rs) (fmtU x.h.fmt) (fmtP x.h.fmt) (fmtG x.h.fmt) a.fl a' d.e := by
  obtain ⟨i1, i2, i3, i4⟩ := hi
  obtain ⟨hl, h | h | h | h⟩ := h
  · obtain ⟨_, _, m, h⟩ := h
    rcases h with ⟨e, _⟩ | ⟨e, _⟩ | ⟨_, e, _⟩ | ⟨_, _, h⟩
    · omega
    · omega
    · omega
    · exact ⟨m, h⟩
  · have := h.1; omega
  · have := h.1; omega
  · exact absurd hk h.1
variable {B : Nat} {w : World}
theorem step_wrong (ok : OpOk B w x) (h : OpStep x a a' d) (hk : x.kind = 0) (hi : Inv a) (hn : a.nb = 0) (ra : Option Addr) (rc : Nat) (htf : (x.h.sp ra x.n rc).prom.tf ≠ 103) (hv : WrongC (x.h.sp ra x.n rc) x.rs) : d.e ≠ 0 := by
  obtain ⟨m, hw⟩ := step_head h hk hi hn
  exact lawWrong ok.hd m ra rc htf hv hw
theorem step_right (ok : OpOk B w x) (h : OpStep x a a' d) (hk : x.kind = 0) (hi : Inv a) (hn : a.nb = 0) (ra : Option Addr) (rc : Nat) (hv : RightC (x.h.sp ra x.n rc) x.rs) : d.e = 0 ∧ d.len % 512 = 0 ∧ Inv a' ∧ a'.nb = szOf x.h.size (x.h.sp ra x.n rc).prom.tf := by
  obtain ⟨m, hw⟩ := step_head h hk hi hn
  obtain ⟨e, t1, t2, t3, t4⟩ := lawRight ok.hd m ra rc hv hw
  have hf := inv_fl hi (by omega)
  obtain ⟨v1, v2, v3, v4⟩ := wh_inv hw e t1 hf.1
  rw [t2, t3] at v2 v3
  have hb := bpad_mod (szOf x.h.size (x.h.sp ra x.n rc).prom.tf)
  have hr := bpad_rng (szOf x.h.size (x.h.sp ra x.n rc).prom.tf)
  have hz := (szOf_range (x := x.h.size) (f := (x.h.sp ra x.n rc).prom.tf) (fun _ => t4) ok.hd.num.1.2).1
  refine ⟨e, by rw [h.1]; exact v4, ⟨v1, by omega, by omega, ?_⟩, v2⟩
  omega
end
theorem doneCs_get : ∀ (ds : List DoneI) (k : Nat) (d : DoneI), ds[k]? = some d → ∀ (j : Nat) v, d.cells[j]? = some v → (doneCs ds)[k * 3 + j]? = some v
  | [], k, d, h, j, v, hv => by cases h
  | e :: ds, 0, d, h, j, v, hv => by
    cases h
    have hl : j < e.cells.length := (List.getElem?_eq_some_iff.1 hv).1
    show (e.cells ++ doneCs ds)[0 * 3 + j]? = some v
    rw [Nat.zero_mul, Nat.zero_add, List.getElem?_append_left hl]
    exact hv
  | e :: ds, k + 1, d, h, j, v, hv => by
    have ih := doneCs_get ds k d h j v hv
    show (e.cells ++ doneCs ds)[(k + 1) * 3 + j]? = some v
    have h3 : e.cells.length = 3 := rfl
    rw [List.getElem?_append_right (by omega), h3, show (k + 1) * 3 + j - 3 = k * 3 + j by omega]
    exact ih
theorem row36 {w : World} {base n : Nat} {v : Value} {ds : List DoneI} (h : w.ownsRow base 36 3 v n (doneCs ds)) (hn : ds.length = n) :
    ∃ gp cap, v = .slice gp n cap ∧ n ≤ cap ∧ cap ≤ maxLen ∧ ∀ k d, ds[k]? = some d → ∃ g, gp = some ⟨g, 0, none⟩ ∧ g < w.heap.size ∧ w.rangeAt g (k * 3) d.cells := by
  rcases h.2 with ⟨rfl, h0⟩ | ⟨g, cap, cur, rfl, hb, hg, hc, hm, _, _⟩
  · subst h0
    refine ⟨none, 0, rfl, Nat.le_refl _, by unfold maxLen; omega, fun k d hd => ?_⟩
    have := (List.getElem?_eq_some_iff.1 hd).1
    omega
  · refine ⟨_, cap, rfl, hc, hm, fun k d hd => ⟨g, rfl, blk_lt hg, fun j u hu => ?_⟩⟩
    have h1 := h.cells (g := g) rfl (k * 3 + j) u (doneCs_get ds k d hd j u hu)
    have e : (⟨g, 0, none⟩ : Addr).add (k * 3 + j) = ⟨g, k * 3 + j, none⟩ := by unfold Addr.add; split <;> simp_all
    rw [e] at h1
    exact h1
theorem row5 {w : World} {base n : Nat} {v : Value} {cs : List Value} (h : w.ownsRow base 5 1 v n cs) : ∃ gp cap, v = .slice gp n cap ∧ n ≤ cap ∧ cap ≤ maxLen := by
  rcases h.2 with ⟨rfl, h0⟩ | ⟨g, cap, cur, rfl, hb, hg, hc, hm, _, _⟩
  · subst h0
    exact ⟨none, 0, rfl, Nat.le_refl _, by unfold maxLen; omega⟩
  · exact ⟨_, cap, rfl, hc, hm⟩
theorem setRow2 (w : World) (A : Obj) (old cs : Array Value) (t : TypeId) : ((w.alloc A).alloc (.cells old t (0, 0))).setRow (w.heap.size + 1) cs = (w.alloc A).alloc (.cells cs t (0, 0)) := by
  have h := World.setRow_alloc_new (w.alloc A) old cs t
  rw [show (w.alloc A).heap.size = w.heap.size + 1 by show (w.heap.push A).size = _; simp] at h
  exact h
theorem info36s : (Tryz.prog.info? 36).map (·.size) = some 3 := by kernel_rfl
end Go.Proofs.YtpkilegnokajmaaGreatDoor
