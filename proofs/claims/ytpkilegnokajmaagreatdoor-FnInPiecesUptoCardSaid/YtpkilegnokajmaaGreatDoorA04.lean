/- The Writer in memory: its object, its buffer, its current file; what a call of it keeps. The Writer's small methods: Flush. The Writer's small methods: Flush where there is an error, the write to the current file. The Writer's small methods: Write. The Writer's small methods: Close, NewWriter. io.WriteString to the Writer. writeRawHeader. The Writer's block as it is filled: the formatter beside it. writeRawFile. -/
import Derived.Test.YtpkilegnokajmaaGreatDoorA01
import Derived.Test.YtpkilegnokajmaaGreatDoorA02
import Derived.Test.YtpkilegnokajmaaGreatDoorA03
import Derived.Test.YtpkilegnokajmaaGreatDoorA05
import Derived.Test.YtpkilegnokajmaaGreatDoorA00
import Derived.Test.YtpkilegnokajmaaGreatDoorA13
import Derived.Test.YtpkilegnokajmaaGreatDoorA08
import Derived.Test.YtpkilegnokajmaaGreatDoorA12
import Derived.Deep.RegionWith
import Derived.BigRegion
import Derived.Deep.DeepCutAuto
import Derived.LaidEql
import Derived.BigQuiet
import Derived.Stop.Asserts
import Derived.Laws.IdiomStrings
set_option linter.unusedVariables false
set_option linter.unusedSimpArgs false
set_option linter.unnecessarySimpa false
set_option linter.unusedSectionVars false
namespace Go.Proofs.YtpkilegnokajmaaGreatDoor
open Go.RowKit

/-- Blocks that a call of a Writer may write: rows of bytes, buffers, current files, Writers. -/
def loose (o : Obj) : Prop := ∃ c fz, o = .cells c 5 fz ∨ o = .cells c 62 fz ∨ o = .cells c 91 fz ∨ o = .cells c 104 fz
structure Fr (B : Nat) (w w' : World) : Prop where
  below : Below B w w'
  kept : ∀ (k : Nat) (o : Obj), w.heap[k]? = some o → ¬ loose o → w'.heap[k]? = some o
section
variable {B : Nat} {w w1 w2 : World} {S : Nat → Prop}
theorem Fr.refl (B : Nat) (w : World) : Fr B w w := ⟨Below.refl _ _, fun _ _ h _ => h⟩
theorem Fr.trans (h : Fr B w w1) (k : Fr B w1 w2) : Fr B w w2 := ⟨h.below.trans k.below, fun i o a b => k.kept i o (h.kept i o a b) b⟩
theorem Fr.of_below (h : Below w.heap.size w w1) (hB : B ≤ w.heap.size) : Fr B w w1 := ⟨h.mono hB, fun i o a _ => blk_below a h⟩
theorem Fr.of_kp (h : Kp S w w1) (hB : B ≤ w.heap.size) (hs : ∀ k, S k → B ≤ k) (hl : ∀ (k : Nat) (o : Obj), S k → w.heap[k]? = some o → loose o) : Fr B w w1 :=
  ⟨h.to_below hB hs, fun i o a b => h.get a (fun hk => b (hl i o hk a))⟩
theorem Fr.size (h : Fr B w w1) : w.heap.size ≤ w1.heap.size := h.below.size
theorem Fr.drewN (h : Fr B w w1) (n : Nat) : Fr B w (w1.drewN n) := ⟨h.below.trans ⟨rfl, rfl, rfl, Nat.le_refl _, fun _ _ => rfl⟩, h.kept⟩
theorem Fr.alloc (h : Fr B w w1) (hB : B ≤ w1.heap.size) (o : Obj) : Fr B w (w1.alloc o) := h.trans (Fr.of_below ((Below.refl _ _).alloc (Nat.le_refl _) _) hB)
theorem Fr.gl {G : GlP} (h : Fr B w w1) (g : Gl G B w) : Gl G B w1 := g.below h.below
end

/-- The buffer through what does not write rows of bytes or buffers. -/
theorem buf_kp {B bb : Nat} {bs : List Value} {w w1 : World} {S : Nat → Prop} (h : Lib.IsBuffer 62 5 B bb bs w) (hk : Kp S w w1) (hs : ∀ (k : Nat) c t fr, S k → w.heap[k]? = some (.cells c t fr) → t ≠ 5 ∧ t ≠ 62) : Lib.IsBuffer 62 5 B bb bs w1 := by
  obtain ⟨hB, v, lr, hbk, ⟨h1, h2⟩, hne⟩ := h
  refine ⟨hB, v, lr, hk.get hbk (fun x => (hs bb _ _ _ x hbk).2 rfl), ⟨h1, ?_⟩, hne⟩
  rcases h2 with h2 | ⟨g, cap, cur, a1, a2, a3, a4⟩
  · exact .inl h2
  · exact .inr ⟨g, cap, cur, a1, a2, hk.get a3 (fun x => (hs g _ _ _ x a3).1 rfl), a4⟩
theorem buf_below {B bb : Nat} {bs : List Value} {w w1 : World} (h : Lib.IsBuffer 62 5 B bb bs w) (hk : Below w.heap.size w w1) : Lib.IsBuffer 62 5 B bb bs w1 :=
  buf_kp h (Kp.of_below (S := fun _ => False) hk) (fun _ _ _ _ h => h.elim)

/-- What a Writer is: the bytes that it has written, its padding, how much of its file is left, its copy of the header, its block, its error. -/
structure WSt where
  out : List UInt8
  pad : Int
  nb : Int
  hdr : List Value
  blk : List UInt8
  err : Value
def ifW (bb : Nat) : Value := .iface 65 (.pointer (some ⟨bb, 0, none⟩))
def ifC (bc : Nat) : Value := .iface 89 (.pointer (some ⟨bc, 0, none⟩))
def wA (s : WSt) (bb bc : Nat) : List Value := [ifW bb, .int .i64 s.pad, ifC bc] ++ s.hdr
def wCells (s : WSt) (bb bc : Nat) : List Value := wA s bb bc ++ cells s.blk ++ [s.err]
structure Wr (B bw bb bc : Nat) (s : WSt) (w : World) : Prop where
  hw : w.heap[bw]? = some (.cells (wCells s bb bc).toArray 104 (0, 0))
  hc : w.heap[bc]? = some (.cells [ifW bb, .int .i64 s.nb].toArray 91 (0, 0))
  hb : Lib.IsBuffer 62 5 B bb (cells s.out) w
  hl : s.hdr.length = 20
  bl : s.blk.length = 512
  Bw : B ≤ bw
  Bc : B ≤ bc
  n1 : bw ≠ bb
  n2 : bc ≠ bb
  n3 : bw ≠ bc
section
variable {B bw bb bc : Nat} {s : WSt} {w w1 : World}
theorem Wr.below (h : Wr B bw bb bc s w) (hb : Below w.heap.size w w1) : Wr B bw bb bc s w1 :=
  ⟨blk_below h.hw hb, blk_below h.hc hb, buf_below h.hb hb, h.hl, h.bl, h.Bw, h.Bc, h.n1, h.n2, h.n3⟩
theorem Wr.drewN (h : Wr B bw bb bc s w) (n : Nat) : Wr B bw bb bc s (w.drewN n) := h.below ⟨rfl, rfl, rfl, Nat.le_refl _, fun _ _ => rfl⟩
theorem Wr.alloc (h : Wr B bw bb bc s w) (o : Obj) : Wr B bw bb bc s (w.alloc o) := h.below ((Below.refl _ _).alloc (Nat.le_refl _) _)
theorem wA_len (s : WSt) (bb bc : Nat) (h : s.hdr.length = 20) : (wA s bb bc).length = 23 := by simp [wA, h]
theorem Wr.cw (h : Wr B bw bb bc s w) : w.cell? ⟨bw, 0, none⟩ = some (ifW bb) := cell_blk h.hw rfl
theorem Wr.cpad (h : Wr B bw bb bc s w) : w.cell? ⟨bw, 1, none⟩ = some (.int .i64 s.pad) := cell_blk h.hw rfl
theorem Wr.ccurr (h : Wr B bw bb bc s w) : w.cell? ⟨bw, 2, none⟩ = some (ifC bc) := cell_blk h.hw rfl
theorem Wr.chdr (h : Wr B bw bb bc s w) {j : Nat} {v : Value} (hv : s.hdr[j]? = some v) : w.cell? ⟨bw, 3 + j, none⟩ = some v := by
  have hj : j < 20 := by have := (List.getElem?_eq_some_iff.1 hv).1; rw [h.hl] at this; exact this
  refine cell_blk h.hw ?_
  unfold wCells wA
  rw [List.append_assoc, List.append_assoc, List.getElem?_append_right (by simp), show 3 + j - [ifW bb, Value.int IntKind.i64 s.pad, ifC bc].length = j by simp, List.getElem?_append_left (by rw [h.hl]; exact hj)]
  exact hv
theorem Wr.cerr (h : Wr B bw bb bc s w) : w.cell? ⟨bw, 535, none⟩ = some s.err := by
  refine cell_blk h.hw ?_
  unfold wCells
  have h1 : (wA s bb bc ++ cells s.blk).length = 535 := by rw [List.length_append, wA_len s bb bc h.hl, cells_len, h.bl]
  rw [List.getElem?_append_right (by omega), h1]
  rfl
theorem Wr.fz (h : Wr B bw bb bc s w) (j : Nat) : w.frozen? ⟨bw, j, none⟩ = false := frozen_blk h.hw
theorem Wr.cfz (h : Wr B bw bb bc s w) (j : Nat) : w.frozen? ⟨bc, j, none⟩ = false := frozen_blk h.hc
theorem Wr.cnb (h : Wr B bw bb bc s w) : w.cell? ⟨bc, 1, none⟩ = some (.int .i64 s.nb) := cell_blk h.hc rfl
theorem Wr.ccw (h : Wr B bw bb bc s w) : w.cell? ⟨bc, 0, none⟩ = some (ifW bb) := cell_blk h.hc rfl
theorem Wr.lt (h : Wr B bw bb bc s w) : bw < w.heap.size := blk_lt h.hw
theorem Wr.clt (h : Wr B bw bb bc s w) : bc < w.heap.size := blk_lt h.hc
theorem Wr.blt (h : Wr B bw bb bc s w) : bb < w.heap.size := h.hb.lt
/-- A store into the Writer's object. -/
theorem Wr.set (h : Wr B bw bb bc s w) (j : Nat) (v : Value) (s' : WSt) (hc : (wCells s bb bc).set j v = wCells s' bb bc) (e1 : s'.out = s.out) (e2 : s'.nb = s.nb) (e3 : s'.hdr.length = 20) (e4 : s'.blk.length = 512) : Wr B bw bb bc s' (w.setCell ⟨bw, j, none⟩ v) := by
  have hk : Kp (fun k => k = bw) w (w.setCell ⟨bw, j, none⟩ v) := (Kp.refl (fun k => k = bw) w).setCell (p := ⟨bw, j, none⟩) (.inl rfl) _
  refine ⟨?_, ?_, ?_, e3, e4, h.Bw, h.Bc, h.n1, h.n2, h.n3⟩
  · rw [← hc]; exact set_blk h.hw
  · rw [e2]; exact hk.get h.hc (fun e => h.n3 e.symm)
  · rw [e1]; exact buf_kp h.hb hk (fun k c t fr hk' ho => by subst hk'; rw [h.hw] at ho; cases ho; exact ⟨by decide, by decide⟩)
theorem Wr.setPad (h : Wr B bw bb bc s w) (p : Int) : Wr B bw bb bc { s with pad := p } (w.setCell ⟨bw, 1, none⟩ (.int .i64 p)) :=
  h.set 1 _ _ (by simp [wCells, wA]) rfl rfl h.hl h.bl
theorem Wr.setErr (h : Wr B bw bb bc s w) (v : Value) : Wr B bw bb bc { s with err := v } (w.setCell ⟨bw, 535, none⟩ v) := by
  refine h.set 535 _ _ ?_ rfl rfl h.hl h.bl
  unfold wCells
  have h1 : (wA s bb bc ++ cells s.blk).length = 535 := by rw [List.length_append, wA_len s bb bc h.hl, cells_len, h.bl]
  have h2 : wA { s with err := v } bb bc = wA s bb bc := rfl
  rw [List.set_append_right _ _ (by omega), h1, h2]
  rfl
/-- The frame of a store into the Writer's object. -/
theorem Wr.frSet (h : Wr B bw bb bc s w) (hB : B ≤ w.heap.size) (j : Nat) (v : Value) : Fr B w (w.setCell ⟨bw, j, none⟩ v) :=
  Fr.of_kp ((Kp.refl (fun k => k = bw) w).setCell (p := ⟨bw, j, none⟩) (.inl rfl) v) hB (fun k hk => by subst hk; exact h.Bw) (fun k o hk ho => by subst hk; rw [h.hw] at ho; cases ho; exact ⟨_, _, .inr (.inr (.inr rfl))⟩)
/-- Behind a write to the buffer. -/
theorem Wr.wrote (h : Wr B bw bb bc s w) {cs : List UInt8} (h1 : Lib.IsBuffer 62 5 B bb (cells s.out ++ cells cs) w1) (h3 : Lib.OthersKept 5 (some bb) w w1) : Wr B bw bb bc { s with out := s.out ++ cs } w1 :=
  ⟨h3 bw _ h.hw (by simpa using h.n1) (by intro c fz e; cases e), h3 bc _ h.hc (by simpa using h.n2) (by intro c fz e; cases e), by rw [← cells_append] at h1; exact h1, h.hl, h.bl, h.Bw, h.Bc, h.n1, h.n2, h.n3⟩
theorem Wr.frWrote (h : Wr B bw bb bc s w) (h2 : Below B w w1) (h3 : Lib.OthersKept 5 (some bb) w w1) : Fr B w w1 :=
  ⟨h2, fun k o ho hn => by
    by_cases hk : k = bb
    · subst hk
      obtain ⟨_, v, lr, hb, _⟩ := h.hb
      rw [hb] at ho
      exact absurd ⟨_, _, .inr (.inl (Option.some.inj ho).symm)⟩ hn
    · exact h3 k o ho (by simpa using hk) (fun c fz e => hn ⟨c, fz, .inl e⟩)⟩
end
theorem al102 : Tryz.prog.arrayLen 102 = 512 := by kernel_rfl
theorem el102 : Tryz.prog.elem 102 = 5 := by kernel_rfl
theorem so5f (w : World) : (sizeOf 5).run Tryz.prog w = .ok 1 w := by kernel_rfl
theorem sl102 (n : Nat) (p : Nat) (hp : p ≤ 512) (W : World) : (Instr.sliceAt 102 (.pointer (some ⟨n,0,none⟩)) none (some (.int .i64 p)) none).run Tryz.prog W = .ok (.slice (some ⟨n,0,none⟩) p 512) W := by
  rw [run_sliceAt_array_h (P := Tryz.prog) (t := 102) (h2 := by rw [al102]; omega) (h0 := by omega) (ht := by rw [al102, el102]; exact Tryz.underlying102)]
  simp [al102, el102, so5f, slicedAt, Addr.add]
theorem m_buf (b : Nat) (W : World) : (method 384 65 (.pointer (some ⟨b, 0, none⟩)) "Write").run Tryz.prog W = .ok (216, .pointer (some ⟨b, 0, none⟩)) W := by kernel_rfl
theorem m_cur (b : Nat) (W : World) : (method 384 89 (.pointer (some ⟨b, 0, none⟩)) "Write").run Tryz.prog W = .ok (222, .pointer (some ⟨b, 0, none⟩)) W := by kernel_rfl
theorem m_tw (b : Nat) (W : World) : (method 384 63 (.pointer (some ⟨b, 0, none⟩)) "Write").run Tryz.prog W = .ok (19, .pointer (some ⟨b, 0, none⟩)) W := by kernel_rfl
theorem info91 : (Tryz.prog.info? 91).map (·.size) = some 2 := by kernel_rfl
def mLR : String := "tapearchives/pub/gotar.logicalRemaining"
theorem find89' : ((Tryz.prog.info? 89).bind fun i => (i.methods.find? (·.name == "tapearchives/pub/gotar.logicalRemaining")).map fun m => (m.path.size, m.func)) = some (0, some (223, false)) := by kernel_rfl
theorem find89 : ∃ i m, Tryz.prog.info? 89 = some i ∧ i.methods.find? (·.name == "tapearchives/pub/gotar.logicalRemaining") = some m ∧ m.path = #[] ∧ m.func = some (223, false) := by
  have h := find89'
  rw [Option.bind_eq_some_iff] at h
  obtain ⟨i, h1, h2⟩ := h
  rw [Option.map_eq_some_iff] at h2
  obtain ⟨m, h3, h4⟩ := h2
  cases hm : m with
  | mk a b c d => exact ⟨i, m, h1, h3, by simp [hm] at h4 ⊢; exact Array.eq_empty_of_size_eq_zero (by simpa using h4.1), by simp [hm] at h4 ⊢; exact h4.2⟩
theorem m_lr (b : Nat) (cs : Array Value) (fr : Nat × Nat) (W : World) (h : W.heap[b]? = some (.cells cs 91 fr)) (hs : cs.size = 2) : (method 384 89 (.pointer (some ⟨b, 0, none⟩)) "tapearchives/pub/gotar.logicalRemaining").run Tryz.prog W = .ok (223, .agg cs) W := by
  obtain ⟨i, m, h1, h2, h3, h4⟩ := find89
  have hl := run_loadVar_row (P := Tryz.prog) W b 91 91 cs fr _ h Tryz.underlying91 rfl (by rw [info91, hs])
  have hu : (underlying 89).run Tryz.prog W = _ := run_underlying Tryz.underlying89 W
  have ht : (typeInfo 89).run Tryz.prog W = .ok i W := by simp [typeInfo, h1]
  have hk : ∀ s : String, (Builtin.ssaWrapNilChk_ #[89] 89 #[.pointer (some ⟨b, 0, none⟩), strVal "", strVal s]).run Tryz.prog W = .ok (.pointer (some ⟨b, 0, none⟩)) W := by intro s; kernel_rfl
  rw [show (384 : Nat) = 383 + 1 from rfl]
  unfold method
  simp only [Sem.run_bind, ht, Result.andThen_ok, h2, h3, h4, Array.toList_empty, follow, Sem.run_pure, Array.isEmpty_empty, if_true]
  unfold receiverAt
  simp only [Sem.run_bind, hu, Result.andThen_ok, Place.get, Sem.run_pure, hk, asAddr, hl]
/-- More bytes; another padding; another file; another error. -/
def WSt.wr (s : WSt) (cs : List UInt8) : WSt := { s with out := s.out ++ cs }
def WSt.pd (s : WSt) (p : Int) : WSt := { s with pad := p }
theorem zc_src (w : World) (n p : Nat) (fr : Nat × Nat) (hp : p ≤ 512) (h : w.heap[n]? = some (.cells Tryz.zeroCells102 102 fr)) : ∀ j v, (cells (List.replicate p 0))[j]? = some v → w.cell? ((⟨n, 0, none⟩ : Addr).add j) = some v := by
  intro j v hj
  have e : (⟨n, 0, none⟩ : Addr).add j = ⟨n, j, none⟩ := by unfold Addr.add; split <;> simp_all
  rw [e]
  rw [zc102] at h
  refine cell_blk h ?_
  rw [cells_get] at hj ⊢
  have hj2 : j < p := by
    rcases Nat.lt_or_ge j p with h1 | h1
    · exact h1
    · rw [List.getElem?_eq_none (by simpa using h1)] at hj; cases hj
  unfold zero512
  rw [List.getElem?_replicate] at hj ⊢
  rw [if_pos hj2] at hj
  rw [if_pos (by omega)]
  exact hj
/-- A write to the Writer's buffer. -/
theorem wr_write {B bw bb bc : Nat} {s : WSt} {w : World} (h : Wr B bw bb bc s w) (hB : B ≤ w.heap.size) (cs : List UInt8) (a : Addr) (n c : Nat) (hn : cs.length = n) (hab : a.block ≠ bb)
    (hsrc : ∀ j v, (cells cs)[j]? = some v → w.cell? (a.add j) = some v) (hlim : s.out.length + n ≤ 140737488355328) :
    Calls Tryz.prog 216 #[.pointer (some ⟨bb, 0, none⟩), .slice (some a) n c] w fun e w' => e = .returned (.tuple #[.int .i64 n, .nilIface]) ∧ Wr B bw bb bc (s.wr cs) w' ∧ Fr B w w' := by
  refine (Tryz.Buffer_Write_any B bb (cells s.out) (cells cs) a n c w h.hb hB (cells_one _) (by rw [cells_len, hn]) hab hsrc (cells_one _) (by rw [cells_len]; omega)).mono ?_
  rintro e w' ⟨rfl, h1, h2, h3⟩
  exact ⟨rfl, h.wrote h1 h3, h.frWrote h2 h3⟩
theorem Wr.setErrSame {B bw bb bc : Nat} {s : WSt} {w : World} (h : Wr B bw bb bc s w) (v : Value) (he : s.err = v) : Wr B bw bb bc s (w.setCell ⟨bw, 535, none⟩ v) := by
  have := h.setErr v
  rwa [show ({ s with err := v } : WSt) = s by rw [← he]] at this
/-- A write of zeros of a new block. -/
theorem wr_zeros {B bw bb bc : Nat} {s : WSt} {w : World} (h : Wr B bw bb bc s w) (hB : B ≤ w.heap.size) (o1 : Obj) (p : Nat) (hp : p ≤ 512) (hlim : s.out.length ≤ 70368744177664) :
    Calls Tryz.prog 216 #[.pointer (some ⟨bb, 0, none⟩), .slice (some ⟨w.heap.size + 1, 0, none⟩) p 512] ((w.alloc o1).alloc (.cells Tryz.zeroCells102 102 (0, 0))).drew fun e w' => e = .returned (.tuple #[.int .i64 p, .nilIface]) ∧ Wr B bw bb bc (s.wr (List.replicate p 0)) w' ∧ Fr B w w' := by
  have hb : Below w.heap.size w (((w.alloc o1).alloc (.cells Tryz.zeroCells102 102 (0, 0))).drewN 1) :=
    (((Below.refl w.heap.size w).alloc (Nat.le_refl _) o1).alloc (by show w.heap.size ≤ (w.heap.push o1).size; simp) _).trans ⟨rfl, rfl, rfl, Nat.le_refl _, fun _ _ => rfl⟩
  have hs : B ≤ (((w.alloc o1).alloc (.cells Tryz.zeroCells102 102 (0, 0))).drewN 1).heap.size := by show B ≤ ((w.heap.push o1).push (.cells Tryz.zeroCells102 102 (0, 0))).size; simp; omega
  have hz : (((w.alloc o1).alloc (.cells Tryz.zeroCells102 102 (0, 0))).drewN 1).heap[w.heap.size + 1]? = some (.cells Tryz.zeroCells102 102 (0, 0)) := by show ((w.heap.push o1).push (.cells Tryz.zeroCells102 102 (0, 0)))[w.heap.size + 1]? = _; rw [show w.heap.size + 1 = (w.heap.push o1).size by simp]; exact Array.getElem?_push_size
  have hbb := h.blt
  refine (wr_write (h.below hb) hs (List.replicate p 0) ⟨w.heap.size + 1, 0, none⟩ p 512 (by simp) (by show w.heap.size + 1 ≠ bb; omega) (zc_src _ _ p (0, 0) hp hz) (by omega)).mono ?_
  rintro e w' ⟨rfl, h1, h2⟩
  exact ⟨rfl, h1, (Fr.of_below hb hB).trans h2⟩
set_option maxRecDepth 100000 in
set_option maxHeartbeats 1000000 in
theorem flush_ok (B bw bb bc : Nat) (s : WSt) (w : World) (p : Nat) (h : Wr B bw bb bc s w) (hB : B ≤ w.heap.size) (he : s.err = .nilIface) (hnb : s.nb ≤ 0) (hp : s.pad = (p : Int)) (hp2 : p ≤ 512) (hlim : s.out.length ≤ 70368744177664) :
    Calls Tryz.prog 22 #[.pointer (some ⟨bw, 0, none⟩)] w fun e w' => e = .returned .nilIface ∧ Wr B bw bb bc ((s.wr (List.replicate p 0)).pd 0) w' ∧ Fr B w w' := by
  have c1 := h.cerr
  have c2 := h.cpad
  have c3 := h.ccurr
  have c4 := h.cw
  have f1 := h.fz
  rw [he] at c1
  rw [hp] at c2
  unfold ifC at c3
  unfold ifW at c4
  have l1 := h.lt
  have l2 := h.clt
  have l3 := h.blt
  have sl := sl102
  have mb := m_buf bb
  have ml := m_lr bc _ _ w h.hc rfl
  have hnb' : ¬ 0 < s.nb := by omega
  replace he : Asd (s.err = .nilIface) := Asd.mk he
  unfold ifW at ml
  go_enter Tryz.func22, Tryz.ntmps22
  go_upto_region 6 with (go_at_call 223; go_in)
  go_cut [] (fun wx => Wr B bw bb bc (s.wr (List.replicate p 0)) wx ∧ Fr B w wx)
  case first =>
    go_region_with (
      go_at_call 216
      refine (wr_zeros h hB _ p hp2 hlim).mono ?_
      rintro e w2 ⟨rfl, k1, k2⟩
      have d1 : w2.cell? ⟨bw, 535, none⟩ = some .nilIface := k1.cerr.trans (congrArg some he.out)
      have d3 : w2.frozen? ⟨bw, 535, none⟩ = false := k1.fz 535)
    all_goals (go_wp2_with fail; go_meet; exact ⟨k1.setErrSame _ he.out, (k2.trans (k1.frSet (Nat.le_trans hB k2.size) _ _))⟩)
  case rest =>
    obtain ⟨k1, k2⟩ := hcut
    have d1 : wc.cell? ⟨bw, 535, none⟩ = some .nilIface := k1.cerr.trans (congrArg some he.out)
    have d2 := k1.cpad
    have d3 := k1.fz
    have hBc := Nat.le_trans hB k2.size
    go_wp2_with fail
    go_ret
    exact ⟨rfl, k1.setPad 0, k2.trans (k1.frSet hBc _ _)⟩
/-- Another rest of the current file. -/
def WSt.nbd (s : WSt) (n : Int) : WSt := { s with nb := n }
theorem Wr.setNb {B bw bb bc : Nat} {s : WSt} {w : World} (h : Wr B bw bb bc s w) (n : Int) : Wr B bw bb bc (s.nbd n) (w.setCell ⟨bc, 1, none⟩ (.int .i64 n)) := by
  have hk : Kp (fun k => k = bc) w (w.setCell ⟨bc, 1, none⟩ (.int .i64 n)) := (Kp.refl (fun k => k = bc) w).setCell (p := ⟨bc, 1, none⟩) (.inl rfl) _
  exact ⟨hk.get h.hw (fun e => h.n3 e), set_blk h.hc, buf_kp h.hb hk (fun k c t fr hk' ho => by subst hk'; rw [h.hc] at ho; cases ho; exact ⟨by decide, by decide⟩), h.hl, h.bl, h.Bw, h.Bc, h.n1, h.n2, h.n3⟩
theorem Wr.frNb {B bw bb bc : Nat} {s : WSt} {w : World} (h : Wr B bw bb bc s w) (hB : B ≤ w.heap.size) (j : Nat) (v : Value) : Fr B w (w.setCell ⟨bc, j, none⟩ v) :=
  Fr.of_kp ((Kp.refl (fun k => k = bc) w).setCell (p := ⟨bc, j, none⟩) (.inl rfl) v) hB (fun k hk => by subst hk; exact h.Bc) (fun k o hk ho => by subst hk; rw [h.hc] at ho; cases ho; exact ⟨_, _, .inr (.inr (.inl rfl))⟩)
theorem flush_err (B bw bb bc : Nat) (s : WSt) (w : World) (t : TypeId) (v : Value) (h : Wr B bw bb bc s w) (he : s.err = .iface t v) :
    Calls Tryz.prog 22 #[.pointer (some ⟨bw, 0, none⟩)] w fun e w' => e = .returned (.iface t v) ∧ w = w' := by
  have c1 := h.cerr.trans (congrArg some he)
  clear he
  go_enter Tryz.func22, Tryz.ntmps22
  go_wp2_with fail
  go_ret
  exact ⟨rfl, rfl⟩
theorem flush_miss (B bw bb bc : Nat) (s : WSt) (w : World) (h : Wr B bw bb bc s w) (hB : B ≤ w.heap.size) (he : s.err = .nilIface) (hnb : 0 < s.nb) :
    Calls Tryz.prog 22 #[.pointer (some ⟨bw, 0, none⟩)] w fun e w' => ∃ n, B ≤ n ∧ e = .returned (.iface 182 (.pointer (some ⟨n, 0, none⟩))) ∧ Wr B bw bb bc s w' ∧ Fr B w w' := by
  have c1 := h.cerr.trans (congrArg some he)
  have c3 := h.ccurr
  unfold ifC at c3
  have ml := m_lr bc _ _ w h.hc rfl
  unfold ifW at ml
  replace he : Asd (s.err = .nilIface) := Asd.mk he
  go_enter Tryz.func22, Tryz.ntmps22
  go_wp2_with (first | (go_at_call 223; go_in) | (go_at_call 42; go_in))
  go_ret
  have hb : Below w.heap.size w ((w.alloc (.cells #[ifW bb, .int .i64 s.nb] 91 (0, 0))).alloc (.cells #[.string ⟨#[97, 114, 99, 104, 105, 118, 101, 47, 116, 97, 114, 58, 32, 109, 105, 115, 115, 101, 100, 32, 119, 114, 105, 116, 105, 110, 103, 32, 98, 121, 116, 101, 115]⟩] 184 (0, 0))) :=
    ((Below.refl w.heap.size w).alloc (Nat.le_refl _) _).alloc (by show w.heap.size ≤ (w.heap.push _).size; simp) _
  exact ⟨w.heap.size + 1, by omega, rfl, h.below hb, Fr.of_below hb hB⟩
/-- The write to the current file: no bytes. -/
theorem rw_none (B bw bb bc : Nat) (s : WSt) (w : World) (ao : Option Addr) (c : Nat) (h : Wr B bw bb bc s w) (hnb : 0 ≤ s.nb) (hc : c ≤ maxLen) :
    Calls Tryz.prog 222 #[.pointer (some ⟨bc, 0, none⟩), .slice ao 0 c] w fun e w' => e = .returned (.tuple #[.int .i64 0, .nilIface]) ∧ w = w' := by
  have c1 := h.cnb
  have hh : ¬ s.nb < 0 := by omega
  go_enter Tryz.func222, Tryz.ntmps222
  go_wp2_with fail
  go_ret2
  exact ⟨rfl, rfl⟩
theorem rw_all (B bw bb bc : Nat) (s : WSt) (w : World) (a : Addr) (n c : Nat) (cs : List UInt8) (h : Wr B bw bb bc s w) (hB : B ≤ w.heap.size) (hn : cs.length = n) (hn0 : 0 < n) (hc : n ≤ c) (hc2 : c ≤ maxLen)
    (hnb : (n : Int) ≤ s.nb) (hnm : s.nb ≤ 9223372036854775807) (hab : a.block ≠ bb) (hsrc : ∀ j v, (cells cs)[j]? = some v → w.cell? (a.add j) = some v) (hlim : s.out.length + n ≤ 140737488355328) :
    Calls Tryz.prog 222 #[.pointer (some ⟨bc, 0, none⟩), .slice (some a) n c] w fun e w' => e = .returned (.tuple #[.int .i64 n, .nilIface]) ∧ Wr B bw bb bc ((s.wr cs).nbd (s.nb - n)) w' ∧ Fr B w w' := by
  have c1 := h.cnb
  have c2 := h.ccw
  unfold ifW at c2
  have mb := m_buf bb
  have hh : ¬ s.nb < n := by omega
  have hk : (0 : Int) < n := by omega
  replace hn : Asd (cs.length = n) := Asd.mk hn
  have hwr : IntKind.i64.wrap (s.nb - n) = s.nb - n := by rw [IntKind.wrap_i64]; omega
  go_enter Tryz.func222, Tryz.ntmps222
  go_wp2_with (
    go_at_call 216
    refine (wr_write h hB cs a n c hn.out hab hsrc hlim).mono ?_
    rintro e w2 ⟨rfl, k1, k2⟩
    have d1 : w2.cell? ⟨bc, 1, none⟩ = some (.int .i64 s.nb) := k1.cnb
    have d3 := k1.cfz 1)
  go_ret2
  have k3 := k1.setNb (s.nb - n)
  have k4 := k1.frNb (Nat.le_trans hB k2.size) 1 (.int .i64 (s.nb - n))
  exact ⟨rfl, k3, k2.trans k4⟩
/-- .. more bytes than the file has left: so many are written as are left. -/
theorem rw_over (B bw bb bc : Nat) (s : WSt) (w : World) (a : Addr) (n c m : Nat) (cs : List UInt8) (p0 : Addr) (hg : w.cell? ⟨0, 0, none⟩ = some (errV p0)) (hB0 : 0 < B) (h : Wr B bw bb bc s w) (hB : B ≤ w.heap.size) (hn : cs.length = n) (hm0 : 0 < m) (hc : n ≤ c) (hc2 : c ≤ maxLen)
    (hnb : s.nb = (m : Int)) (hmn : m < n) (hab : a.block ≠ bb) (hsrc : ∀ j v, (cells cs)[j]? = some v → w.cell? (a.add j) = some v) (hlim : s.out.length + n ≤ 140737488355328) :
    Calls Tryz.prog 222 #[.pointer (some ⟨bc, 0, none⟩), .slice (some a) n c] w fun e w' => e = .returned (.tuple #[.int .i64 m, errV p0]) ∧ Wr B bw bb bc ((s.wr (cs.take m)).nbd 0) w' ∧ Fr B w w' := by
  have c1 := h.cnb
  rw [hnb] at c1
  have c2 := h.ccw
  unfold ifW at c2
  unfold errV at hg
  have mb := m_buf bb
  have hh : (m : Int) < n := by omega
  have hk : (0 : Int) < m := by omega
  have hk2 : m ≤ c := by omega
  have hnm : m ≤ 9223372036854775807 := by unfold maxLen at hc2; omega
  replace hn : Asd (cs.length = n) := Asd.mk hn
  replace hnb : Asd (s.nb = (m : Int)) := Asd.mk hnb
  go_enter Tryz.func222, Tryz.ntmps222
  go_wp2_with (
    go_at_call 216
    refine (wr_write h hB (cs.take m) a m c (by have := hn.out; simp; omega) hab (fun j v hj => hsrc j v (by
      rw [cells_get] at hj ⊢
      rw [List.getElem?_take] at hj
      split at hj
      · exact hj
      · cases hj)) (by omega)).mono ?_
    rintro e w2 ⟨rfl, k1, k2⟩
    have d1 : w2.cell? ⟨bc, 1, none⟩ = some (.int .i64 (m : Int)) := k1.cnb.trans (congrArg (fun x => some (Value.int .i64 x)) hnb.out)
    have d3 := k1.cfz 1
    have d5 : (w2.setCell ⟨bc, 1, none⟩ (.int .i64 0)).cell? ⟨0, 0, none⟩ = some (.iface 182 (.pointer (some p0))) := by
      rw [(k2.below.trans (k1.frNb (Nat.le_trans hB k2.size) 1 (.int .i64 0)).below).cell hB0]
      exact hg)
  go_region
  go_wp2_with fail
  go_ret2
  have k3 := k1.setNb 0
  have k4 := k1.frNb (Nat.le_trans hB k2.size) 1 (.int .i64 0)
  exact ⟨rfl, k3.drewN 1, (k2.trans k4).drewN 1⟩
theorem rw_over0 (B bw bb bc : Nat) (s : WSt) (w : World) (a : Addr) (n c : Nat) (p0 : Addr) (hg : w.cell? ⟨0, 0, none⟩ = some (errV p0)) (h : Wr B bw bb bc s w) (hn0 : 0 < n) (hc : n ≤ c) (hc2 : c ≤ maxLen)
    (hnb : s.nb = 0) :
    Calls Tryz.prog 222 #[.pointer (some ⟨bc, 0, none⟩), .slice (some a) n c] w fun e w' => e = .returned (.tuple #[.int .i64 0, errV p0]) ∧ ∃ k, w' = w.drewN k := by
  have c1 := h.cnb
  rw [hnb] at c1
  unfold errV at hg
  have hh : (0 : Int) < n := by omega
  replace hnb : Asd (s.nb = 0) := Asd.mk hnb
  go_enter Tryz.func222, Tryz.ntmps222
  go_wp2_with fail
  go_region
  go_wp2_with fail
  go_ret2
  exact ⟨rfl, 1, rfl⟩
theorem info182 : ∃ i, Tryz.prog.info? 182 = some i ∧ i.comparable = true := by
  have h : (Tryz.prog.info? 182).map (·.comparable) = some true := by kernel_rfl
  rw [Option.map_eq_some_iff] at h
  exact h
theorem info184 : ∃ i, Tryz.prog.info? 184 = some i ∧ i.size ≠ 0 := by
  have h : (Tryz.prog.info? 184).map (·.size) = some 1 := by kernel_rfl
  rw [Option.map_eq_some_iff] at h
  obtain ⟨i, h1, h2⟩ := h
  exact ⟨i, h1, by omega⟩
theorem neq_same (p : Addr) (w : World) : (binOp .neq 67 (.iface 182 (.pointer (some p))) (.iface 182 (.pointer (some p)))).run Tryz.prog w = .ok (.bool false) w := by
  obtain ⟨i, h1, h2⟩ := info182
  obtain ⟨j, h3, _⟩ := info184
  have h := fun d => run_equalIn_iface_ptr_same (P := Tryz.prog) w d (ti := 67) (tp := 182) (te := 184) p Tryz.underlying67 Tryz.underlying182 h1 h2 h3
  simp only [binOp]
  simp [Op.equal, Op.maxDepth, h 9998]
/-- Bytes that a slice of a world holds, none of them of the buffer's own block. -/
structure Src (w : World) (bb : Nat) (ao : Option Addr) (n c : Nat) (cs : List UInt8) : Prop where
  hn : cs.length = n
  hc : n ≤ c
  hm : c ≤ maxLen
  h0 : ao = none → n = 0
  hs : ∀ a, ao = some a → a.block ≠ bb ∧ ∀ j v, (cells cs)[j]? = some v → w.cell? (a.add j) = some v
theorem WSt.wr_nil (s : WSt) : s.wr [] = s := by simp [WSt.wr]
theorem WSt.nbd_same (s : WSt) (n : Int) (h : s.nb = n) : s.nbd n = s := by subst h; rfl
/-- What a write of n bytes returns besides their number. -/
def wErr (p0 : Addr) (nb : Int) (n : Nat) : Value := if nb < n then errV p0 else .nilIface
def wNum (nb : Int) (n : Nat) : Nat := min n nb.toNat
theorem rw_any (B bw bb bc : Nat) (s : WSt) (w : World) (ao : Option Addr) (n c : Nat) (cs : List UInt8) (p0 : Addr) (hg : w.cell? ⟨0, 0, none⟩ = some (errV p0)) (hB0 : 0 < B) (h : Wr B bw bb bc s w) (hB : B ≤ w.heap.size) (hs : Src w bb ao n c cs)
    (hnb : 0 ≤ s.nb) (hnm : s.nb ≤ 9223372036854775807) (hlim : s.out.length + n ≤ 140737488355328) :
    Calls Tryz.prog 222 #[.pointer (some ⟨bc, 0, none⟩), .slice ao n c] w fun e w' => e = .returned (.tuple #[.int .i64 (wNum s.nb n), wErr p0 s.nb n]) ∧ Wr B bw bb bc ((s.wr (cs.take (wNum s.nb n))).nbd (s.nb - wNum s.nb n)) w' ∧ Fr B w w' := by
  by_cases h0 : n = 0
  · have e1 : wNum s.nb n = 0 := by unfold wNum; omega
    have e2 : wErr p0 s.nb n = .nilIface := by unfold wErr; rw [if_neg (by omega)]
    have hcm := hs.hm
    subst h0
    refine (rw_none B bw bb bc s w ao c h hnb hcm).mono ?_
    rintro e w' ⟨rfl, rfl⟩
    rw [e1, e2]
    refine ⟨rfl, ?_, Fr.refl _ _⟩
    rw [List.take_zero, WSt.wr_nil, WSt.nbd_same _ _ (by omega)]
    exact h
  · obtain ⟨a, rfl⟩ : ∃ a, ao = some a := by
      cases ao with
      | none => exact absurd (hs.h0 rfl) h0
      | some a => exact ⟨a, rfl⟩
    obtain ⟨hab, hsrc⟩ := hs.hs a rfl
    by_cases h1 : (n : Int) ≤ s.nb
    · have e1 : wNum s.nb n = n := by unfold wNum; omega
      have e2 : wErr p0 s.nb n = .nilIface := by unfold wErr; rw [if_neg (by omega)]
      refine (rw_all B bw bb bc s w a n c cs h hB hs.hn (by omega) hs.hc hs.hm h1 hnm hab hsrc hlim).mono ?_
      rintro e w' ⟨rfl, k1, k2⟩
      rw [e1, e2, List.take_of_length_le (by rw [hs.hn]; exact Nat.le_refl _)]
      exact ⟨rfl, k1, k2⟩
    · have e2 : wErr p0 s.nb n = errV p0 := by unfold wErr; rw [if_pos (by omega)]
      by_cases h2 : s.nb = 0
      · have e1 : wNum s.nb n = 0 := by unfold wNum; omega
        refine (rw_over0 B bw bb bc s w a n c p0 hg h (by omega) hs.hc hs.hm h2).mono ?_
        rintro e w' ⟨rfl, k, rfl⟩
        rw [e1, e2]
        refine ⟨rfl, ?_, (Fr.refl _ _).drewN k⟩
        rw [List.take_zero, WSt.wr_nil, WSt.nbd_same _ _ (by omega)]
        exact h.drewN k
      · have e1 : (wNum s.nb n : Int) = s.nb := by unfold wNum; omega
        refine (rw_over B bw bb bc s w a n c (wNum s.nb n) cs p0 hg hB0 h hB hs.hn (by omega) hs.hc hs.hm e1.symm (by omega) hab hsrc hlim).mono ?_
        rintro e w' ⟨rfl, k1, k2⟩
        rw [e2, show s.nb - (wNum s.nb n : Int) = 0 by omega]
        exact ⟨rfl, k1, k2⟩
set_option maxRecDepth 100000 in
theorem tw_write_ok (B bw bb bc : Nat) (s : WSt) (w : World) (ao : Option Addr) (n c : Nat) (cs : List UInt8) (p0 : Addr) (hg : w.cell? ⟨0, 0, none⟩ = some (errV p0)) (hB0 : 0 < B) (h : Wr B bw bb bc s w) (hB : B ≤ w.heap.size) (hs : Src w bb ao n c cs)
    (he : s.err = .nilIface) (hnb : 0 ≤ s.nb) (hnm : s.nb ≤ 9223372036854775807) (hlim : s.out.length + n ≤ 140737488355328) :
    Calls Tryz.prog 19 #[.pointer (some ⟨bw, 0, none⟩), .slice ao n c] w fun e w' => e = .returned (.tuple #[.int .i64 (wNum s.nb n), wErr p0 s.nb n]) ∧ Wr B bw bb bc ((s.wr (cs.take (wNum s.nb n))).nbd (s.nb - wNum s.nb n)) w' ∧ Fr B w w' := by
  have c1 := h.cerr.trans (congrArg some he)
  have c3 := h.ccurr
  unfold ifC at c3
  have mc := m_cur bc
  have hx := rw_any B bw bb bc s w ao n c cs p0 hg hB0 h hB hs hnb hnm hlim
  by_cases hov : s.nb < n
  · have e2 : wErr p0 s.nb n = .iface 182 (.pointer (some p0)) := by unfold wErr errV; rw [if_pos hov]
    rw [e2] at hx ⊢
    clear e2
    replace hg' : ∀ w', Fr B w w' → w'.cell? ⟨0, 0, none⟩ = some (.iface 182 (.pointer (some p0))) := fun w' hf => by rw [hf.below.cell hB0]; exact hg
    replace he : Asd (s.err = .nilIface) := Asd.mk he
    replace hs : Asd (Src w bb ao n c cs) := Asd.mk hs
    replace hov := Asd.mk hov
    have hq := neq_same p0
    go_enter Tryz.func19, Tryz.ntmps19
    go_wp2_with (
      go_at_call 222
      refine hx.mono ?_
      rintro e w2 ⟨rfl, k1, k2⟩
      have d1 := hg' _ k2)
    go_ret2
    exact ⟨rfl, k1, k2⟩
  · have e2 : wErr p0 s.nb n = .nilIface := by unfold wErr; rw [if_neg hov]
    rw [e2] at hx ⊢
    clear e2
    replace he : Asd (s.err = .nilIface) := Asd.mk he
    replace hs : Asd (Src w bb ao n c cs) := Asd.mk hs
    replace hov := Asd.mk hov
    go_enter Tryz.func19, Tryz.ntmps19
    go_wp2_with (
      go_at_call 222
      refine hx.mono ?_
      rintro e w2 ⟨rfl, k1, k2⟩)
    go_ret2
    exact ⟨rfl, k1, k2⟩
theorem tw_write_err (B bw bb bc : Nat) (s : WSt) (w : World) (x : Value) (t : TypeId) (v : Value) (h : Wr B bw bb bc s w) (he : s.err = .iface t v) :
    Calls Tryz.prog 19 #[.pointer (some ⟨bw, 0, none⟩), x] w fun e w' => e = .returned (.tuple #[.int .i64 0, .iface t v]) ∧ ∃ k, w' = w.drewN k := by
  have c1 := h.cerr.trans (congrArg some he)
  clear he
  go_enter Tryz.func19, Tryz.ntmps19
  go_wp2_with fail
  go_region
  go_wp2_with fail
  go_ret2
  exact ⟨rfl, 1, rfl⟩
theorem eql_same (p : Addr) (w : World) : (binOp .eql 67 (.iface 182 (.pointer (some p))) (.iface 182 (.pointer (some p)))).run Tryz.prog w = .ok (.bool true) w := by
  obtain ⟨i, h1, h2⟩ := info182
  obtain ⟨j, h3, _⟩ := info184
  exact run_eql_iface_ptr_same (P := Tryz.prog) w (ti := 67) (tp := 182) (te := 184) p Tryz.underlying67 Tryz.underlying182 h1 h2 h3
theorem eql_other {p q : Addr} {w : World} {ca cb : Array Value} {ta tb : TypeId} (hne : p ≠ q) (ha : w.heap[p.block]? = some (.cells ca ta (0, 0))) (hb : w.heap[q.block]? = some (.cells cb tb (0, 0))) : (binOp .eql 67 (.iface 182 (.pointer (some p))) (.iface 182 (.pointer (some q)))).run Tryz.prog w = .ok (.bool false) w := by
  obtain ⟨i, h1, h2⟩ := info182
  obtain ⟨j, h3, h4⟩ := info184
  exact run_eql_iface_ptr_other (P := Tryz.prog) w (ti := 67) (tp := 182) (te := 184) Tryz.underlying67 Tryz.underlying182 h1 h2 h3 h4 hne ha hb
theorem sl102a (n : Nat) (W : World) : (Instr.sliceAt 102 (.pointer (some ⟨n,0,none⟩)) none none none).run Tryz.prog W = .ok (.slice (some ⟨n,0,none⟩) 512 512) W := by
  rw [run_sliceAt_array_all (P := Tryz.prog) (t := 102) (ht := by rw [al102, el102]; exact Tryz.underlying102)]
  simp [al102, el102, so5f, slicedAt, Addr.add]
/-- .. where it is closed. -/
theorem close_closed (B bw bb bc : Nat) (s : WSt) (w : World) (p1 : Addr) (hg : w.cell? ⟨1, 0, none⟩ = some (errV p1)) (h : Wr B bw bb bc s w) (he : s.err = errV p1) :
    Calls Tryz.prog 21 #[.pointer (some ⟨bw, 0, none⟩)] w fun e w' => e = .returned .nilIface ∧ ∃ k, w' = w.drewN k := by
  have c1 := h.cerr.trans (congrArg some he)
  unfold errV at c1 hg
  clear he
  have hq := eql_same p1
  go_enter Tryz.func21, Tryz.ntmps21
  go_wp2_with fail
  go_region
  go_wp2_with fail
  go_ret
  exact ⟨rfl, 1, rfl⟩
/-- .. where there is another error. -/
theorem close_err (B bw bb bc : Nat) (s : WSt) (w : World) (p1 q : Addr) (ca cb : Array Value) (ta tb : TypeId) (hg : w.cell? ⟨1, 0, none⟩ = some (errV p1)) (h : Wr B bw bb bc s w) (he : s.err = errV q) (hne : q ≠ p1)
    (ha : w.heap[q.block]? = some (.cells ca ta (0, 0))) (hb : w.heap[p1.block]? = some (.cells cb tb (0, 0))) :
    Calls Tryz.prog 21 #[.pointer (some ⟨bw, 0, none⟩)] w fun e w' => e = .returned (errV q) ∧ ∃ k, w' = w.drewN k := by
  have c1 := h.cerr.trans (congrArg some he)
  unfold errV at c1 hg ⊢
  clear he
  have hq : (binOp .eql 67 (.iface 182 (.pointer (some q))) (.iface 182 (.pointer (some p1)))).run Tryz.prog w.drew = .ok (.bool false) w.drew := eql_other (w := w.drew) hne ha hb
  clear ha hb
  go_enter Tryz.func21, Tryz.ntmps21
  go_wp2_with fail
  go_region
  go_wp2_with fail
  go_ret
  exact ⟨rfl, 1, rfl⟩
/-- A write of zeros of a new block, the one block that is new. -/
theorem wr_zeros1 {B bw bb bc : Nat} {s : WSt} {w : World} (h : Wr B bw bb bc s w) (hB : B ≤ w.heap.size) (p : Nat) (hp : p ≤ 512) (hlim : s.out.length ≤ 70368744177664) :
    Calls Tryz.prog 216 #[.pointer (some ⟨bb, 0, none⟩), .slice (some ⟨w.heap.size, 0, none⟩) p 512] (w.alloc (.cells Tryz.zeroCells102 102 (0, 0))).drew fun e w' => e = .returned (.tuple #[.int .i64 p, .nilIface]) ∧ Wr B bw bb bc (s.wr (List.replicate p 0)) w' ∧ Fr B w w' := by
  have hb : Below w.heap.size w ((w.alloc (.cells Tryz.zeroCells102 102 (0, 0))).drewN 1) :=
    ((Below.refl w.heap.size w).alloc (Nat.le_refl _) _).trans ⟨rfl, rfl, rfl, Nat.le_refl _, fun _ _ => rfl⟩
  have hs : B ≤ ((w.alloc (.cells Tryz.zeroCells102 102 (0, 0))).drewN 1).heap.size := by show B ≤ (w.heap.push (.cells Tryz.zeroCells102 102 (0, 0))).size; simp; omega
  have hz : ((w.alloc (.cells Tryz.zeroCells102 102 (0, 0))).drewN 1).heap[w.heap.size]? = some (.cells Tryz.zeroCells102 102 (0, 0)) := by show (w.heap.push (.cells Tryz.zeroCells102 102 (0, 0)))[w.heap.size]? = _; exact Array.getElem?_push_size
  have hbb := h.blt
  refine (wr_write (h.below hb) hs (List.replicate p 0) ⟨w.heap.size, 0, none⟩ p 512 (by simp) (by show w.heap.size ≠ bb; omega) (zc_src _ _ p (0, 0) hp hz) (by omega)).mono ?_
  rintro e w' ⟨rfl, h1, h2⟩
  exact ⟨rfl, h1, (Fr.of_below hb hB).trans h2⟩
def WSt.er (s : WSt) (v : Value) : WSt := { s with err := v }
theorem WSt.wr_wr (s : WSt) (a b : List UInt8) : (s.wr a).wr b = s.wr (a ++ b) := by simp [WSt.wr]
set_option maxRecDepth 100000 in
set_option maxHeartbeats 1000000 in
/-- .. an open Writer behind a whole file. -/
theorem close_ok (B bw bb bc : Nat) (s : WSt) (w : World) (p : Nat) (p1 : Addr) (hg : w.cell? ⟨1, 0, none⟩ = some (errV p1)) (hB1 : 1 < B) (h : Wr B bw bb bc s w) (hB : B ≤ w.heap.size) (he : s.err = .nilIface) (hnb : s.nb ≤ 0) (hp : s.pad = (p : Int)) (hp2 : p ≤ 512) (hlim : s.out.length ≤ 35184372088832) :
    Calls Tryz.prog 21 #[.pointer (some ⟨bw, 0, none⟩)] w fun e w' => e = .returned .nilIface ∧ Wr B bw bb bc ((((s.wr (List.replicate p 0)).pd 0).wr (List.replicate 1024 0)).er (errV p1)) w' ∧ Fr B w w' := by
  have c1 := h.cerr.trans (congrArg some he)
  have hfl := fun k => flush_ok B bw bb bc s (w.drewN k) p (h.drewN k) hB he hnb hp hp2 (by omega)
  have gg : ∀ w2, Fr B w w2 → w2.cell? ⟨1, 0, none⟩ = some (.iface 182 (.pointer (some p1))) := fun w2 hf => by rw [hf.below.cell hB1]; exact hg
  unfold errV at hg
  have q1 : (binOp .eql 67 .nilIface (.iface 182 (.pointer (some p1)))).run Tryz.prog w.drew = .ok (.bool false) w.drew := run_eql_iface_nil_left (P := Tryz.prog) w.drew 182 _ Tryz.underlying67
  have sl := sl102a
  have mb := m_buf bb
  replace hp := Asd.mk hp
  replace he := Asd.mk he
  have hs1 : ∃ s1, s1 = (s.wr (List.replicate p 0)).pd 0 := ⟨_, rfl⟩
  obtain ⟨s1, hs1⟩ := hs1
  rw [← hs1] at hfl ⊢
  have he1 : s1.err = .nilIface := by rw [hs1]; exact he.out
  have hl1 : s1.out.length = s.out.length + p := by rw [hs1]; simp [WSt.wr, WSt.pd]
  replace hs1 := Asd.mk hs1
  replace he1 := Asd.mk he1
  replace hl1 := Asd.mk hl1
  go_enter Tryz.func21, Tryz.ntmps21
  go_wp2_with fail
  go_region
  go_wp2_with (
    go_at_call 22
    refine (hfl 1).mono ?_
    rintro e w2 ⟨rfl, k1, k2⟩)
  go_loopw [3, 4] (fun ev iv wr => ∃ k : Nat, k ≤ 2 ∧ ev = .nilIface ∧ iv = .int .i64 k ∧ Wr B bw bb bc (s1.wr (List.replicate (512 * k) 0)) wr ∧ Fr B w wr) (fun _ iv _ => 2 - (intOf iv).toNat)
  case atStart => exact ⟨0, by omega, rfl, rfl, by rw [Nat.mul_zero, List.replicate_zero, WSt.wr_nil]; exact k1, Fr.trans ((Fr.refl B w).drewN 1) k2⟩
  case round =>
    obtain ⟨k, hk, rfl, rfl, k3, k4⟩ := hrel
    by_cases hlt : k < 2
    · have hlt' : (k : Int) < 2 := by omega
      have d4 := k3.cw
      unfold ifW at d4
      have l4 := k3.lt
      have hBr := Nat.le_trans hB k4.size
      have hlr : (s1.wr (List.replicate (512 * k) 0)).out.length ≤ 70368744177664 := by
        have := hl1.out
        simp [WSt.wr]; omega
      go_wp2_with fail
      go_region_with (
        go_at_call 216
        refine (wr_zeros1 k3 hBr 512 (by omega) hlr).mono ?_
        rintro e w3 ⟨rfl, k5, k6⟩)
      all_goals (
        go_wp2_with fail
        go_roundw
        case rel => exact ⟨k + 1, by omega, rfl, by congr 1, by rw [WSt.wr_wr, List.replicate_append_replicate] at k5; rw [show 512 * (k + 1) = 512 * k + 512 by omega]; exact k5, k4.trans k6⟩
        case measure => simp [intOf]; omega)
    · have e : k = 2 := by omega
      subst e
      have d0 := gg _ k4
      have d1 := k3.cerr
      have d3 := k3.fz 535
      go_wp2_with fail
      go_ret
      exact ⟨rfl, k3.setErr (errV p1), k4.trans (k3.frSet (Nat.le_trans hB k4.size) _ _)⟩
set_option maxRecDepth 100000 in
/-- .. an open Writer whose file is not whole. -/
theorem close_miss (B bw bb bc : Nat) (s : WSt) (w : World) (p1 : Addr) (hg : w.cell? ⟨1, 0, none⟩ = some (errV p1)) (hB1 : 1 < B) (h : Wr B bw bb bc s w) (hB : B ≤ w.heap.size) (he : s.err = .nilIface) (hnb : 0 < s.nb) :
    Calls Tryz.prog 21 #[.pointer (some ⟨bw, 0, none⟩)] w fun e w' => ∃ n, B ≤ n ∧ e = .returned (.iface 182 (.pointer (some ⟨n, 0, none⟩))) ∧ Wr B bw bb bc (s.er (errV p1)) w' ∧ Fr B w w' := by
  have c1 := h.cerr.trans (congrArg some he)
  have hfl := flush_miss B bw bb bc s (w.drewN 1) (h.drewN 1) hB he hnb
  have gg : ∀ w2, Fr B w w2 → w2.cell? ⟨1, 0, none⟩ = some (.iface 182 (.pointer (some p1))) := fun w2 hf => by rw [hf.below.cell hB1]; exact hg
  unfold errV at hg
  have q1 : (binOp .eql 67 .nilIface (.iface 182 (.pointer (some p1)))).run Tryz.prog w.drew = .ok (.bool false) w.drew := run_eql_iface_nil_left (P := Tryz.prog) w.drew 182 _ Tryz.underlying67
  replace he := Asd.mk he
  go_enter Tryz.func21, Tryz.ntmps21
  go_wp2_with fail
  go_region
  go_wp2_with (
    go_at_call 22
    refine hfl.mono ?_
    rintro e w2 ⟨n, hn, rfl, k1, k2⟩)
  go_loopw [3, 4] (fun ev iv wr => ev = .iface 182 (.pointer (some ⟨n, 0, none⟩)) ∧ iv = .int .i64 0 ∧ w2 = wr) (fun _ _ _ => 0)
  case atStart => exact ⟨rfl, rfl, rfl⟩
  case round =>
    obtain ⟨rfl, rfl, rfl⟩ := hrel
    have k4 : Fr B w w2 := Fr.trans ((Fr.refl B w).drewN 1) k2
    have d0 := gg _ k4
    have d1 := k1.cerr.trans (congrArg some he.out)
    have d3 := k1.fz 535
    go_wp2_with fail
    go_ret
    exact ⟨n, hn, rfl, k1.setErr (errV p1), k4.trans (k1.frSet (Nat.le_trans hB k4.size) _ _)⟩
noncomputable def zH : List Value := (Tryz.zeroCells104.toList.drop 3).take 20
theorem zc104 : Tryz.zeroCells104 = ([Value.nilIface, Value.int .i64 0, Value.nilIface] ++ zH ++ cells zero512 ++ [Value.nilIface]).toArray := by kernel_rfl
theorem zH_len : zH.length = 20 := by kernel_rfl
/-- NewWriter. -/
theorem newWriter_any (B bb : Nat) (w : World) (hB : B ≤ w.heap.size) (hb : Lib.IsBuffer 62 5 B bb (cells []) w) (hl : bb < w.heap.size) :
    Calls Tryz.prog 16 #[ifW bb] w fun e w' => ∃ bw bc, e = .returned (.pointer (some ⟨bw, 0, none⟩)) ∧ Wr B bw bb bc ⟨[], 0, 0, zH, zero512, .nilIface⟩ w' ∧ Fr B w w' := by
  unfold ifW
  go_enter Tryz.func16, Tryz.ntmps16
  go_wp2_with fail
  go_ret
  obtain ⟨o1, ho1⟩ : ∃ o1, o1 = Obj.cells #[Value.iface 65 (Value.pointer (some { block := bb, off := 0 })), Value.int IntKind.i64 0] 91 (0, 0) := ⟨_, rfl⟩
  obtain ⟨o2, ho2⟩ : ∃ o2, o2 = Obj.cells ((Tryz.zeroCells104.setIfInBounds 0 (Value.iface 65 (Value.pointer (some { block := bb, off := 0 })))).setIfInBounds 2 (Value.iface 89 (Value.pointer (some { block := w.heap.size, off := 0 })))) 104 (0, 0) := ⟨_, rfl⟩
  have hbl : Below w.heap.size w ((w.alloc o1).alloc o2) := ((Below.refl w.heap.size w).alloc (Nat.le_refl _) o1).alloc (by show w.heap.size ≤ (w.heap.push o1).size; simp) o2
  have h1 : ((w.alloc o1).alloc o2).heap[w.heap.size]? = some o1 := by
    show ((w.heap.push o1).push o2)[w.heap.size]? = _
    rw [Array.getElem?_push_lt (by simp), Array.getElem_push_eq]
  have h2 : ((w.alloc o1).alloc o2).heap[w.heap.size + 1]? = some o2 := by
    show ((w.heap.push o1).push o2)[w.heap.size + 1]? = _
    rw [show w.heap.size + 1 = (w.heap.push o1).size by simp]; exact Array.getElem?_push_size
  rw [← ho1, ← ho2]
  refine ⟨w.heap.size + 1, w.heap.size, rfl, ⟨?_, ?_, buf_below hb hbl, zH_len, zero512_len, by omega, hB, by omega, by omega, by omega⟩, Fr.of_below hbl hB⟩
  · rw [h2, ho2, zc104]
    unfold wCells wA ifW ifC
    simp only [List.append_assoc, List.cons_append, List.nil_append, List.setIfInBounds_toArray, List.set_cons_zero, List.set_cons_succ]
  · rw [h1, ho1]
    rfl
theorem ta228 (b : Nat) (W : World) : (Instr.typeAssert (.iface 63 (.pointer (some ⟨b, 0, none⟩))) 88 228 true).run Tryz.prog W = .ok (.tuple #[.nilIface, .bool false]) W :=
  run_typeAssert_lacksB Tryz.underlying228 (by kernel_rfl) (by kernel_rfl) _ _ W
/-- The row that a string's bytes make. -/
theorem bytesRow_src (w : World) (b n : Nat) (d : ByteArray) (cap : Nat) (t : TypeId) (fr : Nat × Nat) (h : w.heap[b]? = some (.cells (bytesRow d cap) t fr)) : ∀ j v, (cells d.data.toList)[j]? = some v → w.cell? ((⟨b, 0, none⟩ : Addr).add j) = some v := by
  intro j v hj
  have e : (⟨b, 0, none⟩ : Addr).add j = ⟨b, j, none⟩ := by unfold Addr.add; split <;> simp_all
  rw [e]
  have hc : (bytesRow d cap).toList = cells d.data.toList ++ List.replicate (cap - d.size) (.int .u8 0) := by
    simp [bytesRow, cells, u8]
  have h' : w.heap[b]? = some (.cells (bytesRow d cap).toList.toArray t fr) := by simpa using h
  refine cell_blk h' ?_
  rw [hc, List.getElem?_append_left (List.getElem?_eq_some_iff.1 hj).1]
  exact hj
set_option maxRecDepth 100000 in
theorem writeString_any (B bw bb bc : Nat) (s : WSt) (w : World) (d : ByteArray) (p0 : Addr) (hg : w.cell? ⟨0, 0, none⟩ = some (errV p0)) (hB0 : 0 < B) (h : Wr B bw bb bc s w) (hB : B ≤ w.heap.size)
    (he : s.err = .nilIface) (hnb : s.nb = d.size) (hd : d.size ≤ 1152921504606846975) (hlim : s.out.length + d.size ≤ 140737488355328) :
    Calls Tryz.prog 151 #[.iface 63 (.pointer (some ⟨bw, 0, none⟩)), .string d] w fun e w' => ∃ v, e = .returned (.tuple #[v, .nilIface]) ∧ Wr B bw bb bc ((s.wr d.data.toList).nbd 0) w' ∧ Fr B w w' := by
  have mt := m_tw bw
  have ta := ta228 bw
  have hcv := run_bytes_of_string (P := Tryz.prog) w 9 25 5 d Tryz.underlying9 Tryz.underlying25 Tryz.underlying5
  obtain ⟨cap, hcap⟩ : ∃ cap, grownCap w d.size 0 5 = cap := ⟨_, rfl⟩
  have hc1 := grownCap_ge w d.size 0 5
  have hc2 := grownCap_le_maxLen w d.size 0 5 (by unfold maxLen; omega)
  rw [hcap] at hcv hc1 hc2
  obtain ⟨o, ho⟩ : ∃ o, o = Obj.cells (bytesRow d cap) 5 ((bytesRow d cap).size, (bytesRow d cap).size + 1) := ⟨_, rfl⟩
  rw [← ho] at hcv
  have hb : Below w.heap.size w (w.drew.alloc o) := by
    have hb0 : Below w.heap.size w (w.drewN 1) := ⟨rfl, rfl, rfl, Nat.le_refl _, fun _ _ => rfl⟩
    exact hb0.alloc (Nat.le_refl _) o
  have hw1 := h.below hb
  have hn1 : (w.drew.alloc o).heap[w.heap.size]? = some o := by show (w.heap.push o)[w.heap.size]? = _; exact Array.getElem?_push_size
  have hbb := h.blt
  have hsrc : Src (w.drew.alloc o) bb (some ⟨w.heap.size, 0, none⟩) d.size cap d.data.toList :=
    ⟨by simp, hc1, hc2, by simp, fun a ha => by
      cases ha
      rw [ho] at hn1
      exact ⟨by show w.heap.size ≠ bb; omega, by rw [ho]; exact bytesRow_src _ _ 0 d cap 5 _ hn1⟩⟩
  have hwr := tw_write_ok B bw bb bc s (w.drew.alloc o) (some ⟨w.heap.size, 0, none⟩) d.size cap d.data.toList p0 (by rw [hb.cell (by show 0 < w.heap.size; omega)]; exact hg) hB0 hw1 (Nat.le_trans hB hb.size) hsrc he (by omega) (by omega) hlim
  have e1 : wNum s.nb d.size = d.size := by unfold wNum; omega
  have e2 : wErr p0 s.nb d.size = .nilIface := by unfold wErr; rw [if_neg (by omega)]
  rw [e1, e2, List.take_of_length_le (by simp), show s.nb - (d.size : Int) = 0 by omega] at hwr
  have hfr : Fr B w (w.drew.alloc o) := Fr.of_below hb hB
  clear hsrc hn1 hw1 hb ho hcap e1 e2
  replace he := Asd.mk he
  replace hnb := Asd.mk hnb
  go_enter Tryz.func151, Tryz.ntmps151
  go_wp2_with (
    go_at_call 19
    refine hwr.mono ?_
    rintro e w2 ⟨rfl, k1, k2⟩)
  go_ret2
  exact ⟨_, rfl, k1, hfr.trans k2⟩
theorem sl102b (n o : Nat) (W : World) : (Instr.sliceAt 102 (.pointer (some ⟨n,o,none⟩)) none none none).run Tryz.prog W = .ok (.slice (some ⟨n,o,none⟩) 512 512) W := by
  rw [run_sliceAt_array_all (P := Tryz.prog) (t := 102) (ht := by rw [al102, el102]; exact Tryz.underlying102)]
  simp [al102, el102, so5f, slicedAt, Addr.add]
/-- A write of the Writer's block. -/
theorem wr_block {B bw bb bc : Nat} {s : WSt} {w : World} (h : Wr B bw bb bc s w) (hB : B ≤ w.heap.size) (hlim : s.out.length ≤ 70368744177664) :
    Calls Tryz.prog 216 #[.pointer (some ⟨bb, 0, none⟩), .slice (some ⟨bw, 23, none⟩) 512 512] w.drew fun e w' => e = .returned (.tuple #[.int .i64 512, .nilIface]) ∧ Wr B bw bb bc (s.wr s.blk) w' ∧ Fr B w w' := by
  have hd := h.drewN 1
  have hr : (w.drewN 1).rangeAt bw 23 (cells s.blk) := range_of_blk hd.hw (wA_len s bb bc h.hl)
  refine (wr_write hd (w := w.drewN 1) hB s.blk ⟨bw, 23, none⟩ 512 512 h.bl h.n1 ?_ (by omega)).mono ?_
  · intro j v hj
    rw [show (⟨bw, 23, none⟩ : Addr).add j = ⟨bw, 23 + j, none⟩ by unfold Addr.add; split <;> simp_all]
    exact hr j v hj
  · rintro e w' ⟨rfl, h1, h2⟩
    exact ⟨rfl, h1, Fr.trans ((Fr.refl B w).drewN 1) h2⟩
/-- A new current file. -/
theorem Wr.newCur {B bw bb bc : Nat} {s : WSt} {w : World} (h : Wr B bw bb bc s w) (hB : B ≤ w.heap.size) (n : Int) :
    Wr B bw bb w.heap.size (s.nbd n) ((w.alloc (.cells #[ifW bb, .int .i64 n] 91 (0, 0))).setCell ⟨bw, 2, none⟩ (ifC w.heap.size)) ∧
    Fr B w ((w.alloc (.cells #[ifW bb, .int .i64 n] 91 (0, 0))).setCell ⟨bw, 2, none⟩ (ifC w.heap.size)) := by
  have ha := h.alloc (.cells #[ifW bb, .int .i64 n] 91 (0, 0))
  have hk : Kp (fun k => k = bw) (w.alloc (.cells #[ifW bb, .int .i64 n] 91 (0, 0))) ((w.alloc (.cells #[ifW bb, .int .i64 n] 91 (0, 0))).setCell ⟨bw, 2, none⟩ (ifC w.heap.size)) := (Kp.refl (fun k => k = bw) _).setCell (p := ⟨bw, 2, none⟩) (.inl rfl) _
  have hn : (w.alloc (.cells #[ifW bb, .int .i64 n] 91 (0, 0))).heap[w.heap.size]? = some (.cells #[ifW bb, .int .i64 n] 91 (0, 0)) := by show (w.heap.push _)[w.heap.size]? = _; exact Array.getElem?_push_size
  have l1 := h.lt
  have l2 := h.blt
  refine ⟨⟨?_, hk.get hn (by omega), buf_kp ha.hb hk (fun k c t fr hk' ho => by subst hk'; rw [ha.hw] at ho; cases ho; exact ⟨by decide, by decide⟩), h.hl, h.bl, h.Bw, hB, h.n1, by omega, by omega⟩, ?_⟩
  · have := set_blk (j := 2) (v := ifC w.heap.size) ha.hw
    rw [this]
    rfl
  · exact ((Fr.refl B w).alloc hB _).trans (ha.frSet (by show B ≤ (w.heap.push _).size; simp; omega) _ _)
/-- The file's size as the Writer takes it; behind a header. -/
def szOf (size : Int) (flag : UInt8) : Int := if hdrOnly flag then 0 else size
def rawSt (s : WSt) (p : Nat) (size : Int) (flag : UInt8) : WSt := ⟨s.out ++ List.replicate p 0 ++ s.blk, bpad (szOf size flag), szOf size flag, s.hdr, s.blk, s.err⟩
set_option maxRecDepth 100000 in
set_option maxHeartbeats 1000000 in
theorem rawHeader_any (B bw bb bc : Nat) (s : WSt) (w : World) (p : Nat) (size : Int) (flag : UInt8) (h : Wr B bw bb bc s w) (hB : B ≤ w.heap.size) (he : s.err = .nilIface) (hnb : s.nb ≤ 0) (hp : s.pad = (p : Int)) (hp2 : p ≤ 512) (hlim : s.out.length ≤ 35184372088832)
    (hsz : -9223372036854775808 ≤ size ∧ size ≤ 9223372036854775807) :
    Calls Tryz.prog 100 #[.pointer (some ⟨bw, 0, none⟩), .pointer (some ⟨bw, 23, none⟩), .int .i64 size, .int .u8 flag.toNat] w fun e w' => e = .returned .nilIface ∧ ∃ bc', Wr B bw bb bc' (rawSt s p size flag) w' ∧ Fr B w w' := by
  have hfl := flush_ok B bw bb bc s w p h hB he hnb hp hp2 (by omega)
  have sl := sl102b
  have mb := m_buf bb
  have hs1 : ∃ s1, s1 = (s.wr (List.replicate p 0)).pd 0 := ⟨_, rfl⟩
  obtain ⟨s1, hs1⟩ := hs1
  rw [← hs1] at hfl
  have hl1 : s1.out.length ≤ 70368744177664 := by rw [hs1]; simp [WSt.wr, WSt.pd]; omega
  replace hp := Asd.mk hp
  replace he := Asd.mk he
  replace hs1 := Asd.mk hs1
  go_enter Tryz.func100, Tryz.ntmps100
  go_upto_region 4 with (
    go_at_call 22
    refine hfl.mono ?_
    rintro e w2 ⟨rfl, k1, k2⟩)
  have d4 := k1.cw
  unfold ifW at d4
  go_cut [10, 11] (fun nv ev wx => nv = .int .i64 512 ∧ ev = .nilIface ∧ Wr B bw bb bc (s1.wr s1.blk) wx ∧ Fr B w2 wx)
  case first =>
    go_region_with (
      go_at_call 216
      refine (wr_block k1 (Nat.le_trans hB k2.size) hl1).mono ?_
      rintro e w3 ⟨rfl, k5, k6⟩)
    all_goals (go_wp2_with fail; go_meet; exact ⟨rfl, rfl, k5, k6⟩)
  case rest =>
    obtain ⟨rfl, rfl, k3, k4⟩ := hcut
    have hBc := Nat.le_trans hB (Nat.le_trans k2.size k4.size)
    have k5 := k3.newCur hBc (szOf size flag)
    have hw : w2.heap.size ≤ wc.heap.size := k4.size
    obtain ⟨k6, k7⟩ := k5
    have k8 : Wr B bw bb wc.heap.size (((s1.wr s1.blk).nbd (szOf size flag)).pd (bpad (szOf size flag))) _ := k6.setPad (bpad (szOf size flag))
    have hBd := Nat.le_trans hBc k7.size
    have k9 := k6.frSet hBd 1 (.int .i64 (bpad (szOf size flag)))
    have kf := (k2.trans k4).trans (k7.trans k9)
    have hst : ((s1.wr s1.blk).nbd (szOf size flag)).pd (bpad (szOf size flag)) = rawSt s p size flag := by rw [hs1.out]; rfl
    rw [hst] at k8
    replace k8 := Asd.mk k8
    clear hst k9 k7
    have c1 := k3.cw
    have c2 := k3.ccurr
    have f2 := k3.fz 2
    have c4 := k3.cpad
    have f4 := k3.fz 1
    have l3 := k3.lt
    unfold ifW at c1
    unfold ifC at c2 k8 kf
    unfold ifW at k8 kf
    rw [World.setCell_alloc_past _ _ _ _ l3, World.setCell_alloc_past _ _ _ _ (by simpa using l3)] at kf
    replace k8 := k8.out
    rw [World.setCell_alloc_past _ _ _ _ l3, World.setCell_alloc_past _ _ _ _ (by simpa using l3)] at k8
    replace k8 := Asd.mk k8
    have hv : hdrOnly flag = true ∨ hdrOnly flag = false := by cases hdrOnly flag <;> simp
    rcases hv with hv | hv
    · have e1 : szOf size flag = 0 := by unfold szOf; rw [hv]; rfl
      rw [e1] at k8 kf
      go_wp2_with (first
        | (go_at_call 91; refine (isHeaderOnlyType_any flag _).mono ?_; rw [hv]; rintro e w' ⟨rfl, rfl⟩)
        | (go_at_call 143; refine (blockPadding_any 0 _).mono ?_; rintro e w' ⟨rfl, rfl⟩))
      go_ret
      exact ⟨rfl, _, k8.out, kf⟩
    · have e1 : szOf size flag = size := by unfold szOf; rw [hv]; rfl
      rw [e1] at k8 kf
      go_wp2_with (first
        | (go_at_call 91; refine (isHeaderOnlyType_any flag _).mono ?_; rw [hv]; rintro e w' ⟨rfl, rfl⟩)
        | (go_at_call 143; refine (blockPadding_any size _).mono ?_; rintro e w' ⟨rfl, rfl⟩))
      go_ret
      exact ⟨rfl, _, k8.out, kf⟩
def WSt.bk (s : WSt) (b : List UInt8) : WSt := { s with blk := b }
/-- A Writer whose block is filled, a formatter beside it; all since w0. -/
structure Tm (G : GlP) (B bw bb bc : Nat) (s : WSt) (bf : Nat) (ev : Value) (w0 w : World) : Prop where
  wr : Wr B bw bb bc s w
  fb : w.heap[bf]? = some (.cells #[ev] 155 (0, 0))
  new : w0.heap.size ≤ bf
  hB : B ≤ w0.heap.size
  fr : Fr B w0 w
  gl : Gl G B w
section
variable {G : GlP} {B bw bb bc : Nat} {s : WSt} {bf : Nat} {ev : Value} {w0 w w' : World}
theorem Tm.nbf (h : Tm G B bw bb bc s bf ev w0 w) : bf ≠ bw := by
  intro e
  have h1 := h.fb
  rw [e, h.wr.hw] at h1
  cases h1
theorem Tm.bfB (h : Tm G B bw bb bc s bf ev w0 w) : B ≤ bf := Nat.le_trans h.hB h.new
theorem Tm.step (h : Tm G B bw bb bc s bf ev w0 w) (blk' : List UInt8) (ev' : Value) (hl : blk'.length = 512) (h1 : w'.heap[bw]? = some (.cells (wA s bb bc ++ cells blk' ++ [s.err]).toArray 104 (0, 0))) (h2 : w'.heap[bf]? = some (.cells #[ev'] 155 (0, 0)))
    (hk : Kp (fun k => k = bw ∨ k = bf) w w') : Tm G B bw bb bc (s.bk blk') bf ev' w0 w' := by
  have hc : bc ≠ bf := by
    intro e
    have h1 := h.fb
    rw [← e, h.wr.hc] at h1
    cases h1
  refine ⟨⟨h1, hk.get h.wr.hc (by have := h.wr.n3; omega), buf_kp h.wr.hb hk ?_, h.wr.hl, hl, h.wr.Bw, h.wr.Bc, h.wr.n1, h.wr.n2, h.wr.n3⟩, h2, h.new, h.hB, ⟨h.fr.below.trans (hk.to_below (Nat.le_trans h.hB h.fr.size) ?_), ?_⟩, h.gl.kp hk ?_⟩
  · rintro k c t fr (rfl | rfl) ho
    · rw [h.wr.hw] at ho; cases ho; exact ⟨by decide, by decide⟩
    · rw [h.fb] at ho; cases ho; exact ⟨by decide, by decide⟩
  · rintro k (rfl | rfl)
    · exact h.wr.Bw
    · exact h.bfB
  · intro k o ho hn
    have h3 := h.fr.kept k o ho hn
    refine hk.get h3 ?_
    rintro (rfl | rfl)
    · rw [h.wr.hw] at h3
      cases h3
      exact hn ⟨_, _, .inr (.inr (.inr rfl))⟩
    · have := blk_lt ho
      have := h.new
      omega
  · rintro k (rfl | rfl)
    · exact h.wr.Bw
    · exact h.bfB
theorem Tm.drewN (h : Tm G B bw bb bc s bf ev w0 w) (n : Nat) : Tm G B bw bb bc s bf ev w0 (w.drewN n) := ⟨h.wr.drewN n, h.fb, h.new, h.hB, h.fr.drewN n, h.gl.below ⟨rfl, rfl, rfl, Nat.le_refl _, fun _ _ => rfl⟩⟩
theorem Tm.below (h : Tm G B bw bb bc s bf ev w0 w) (hb : Below w.heap.size w w') : Tm G B bw bb bc s bf ev w0 w' :=
  ⟨h.wr.below hb, blk_below h.fb hb, h.new, h.hB, h.fr.trans (Fr.of_below hb (Nat.le_trans h.hB h.fr.size)), h.gl.below (hb.mono (Nat.le_trans h.hB h.fr.size))⟩
/-- The formatter's first step: a new block. -/
theorem Tm.start (h : Wr B bw bb bc s w0) (hB : B ≤ w0.heap.size) (hg : Gl G B w0) : Tm G B bw bb bc s w0.heap.size .nilIface w0 (w0.alloc (.cells #[.nilIface] 155 (0, 0))) :=
  ⟨h.alloc _, by show (w0.heap.push _)[w0.heap.size]? = _; exact Array.getElem?_push_size, Nat.le_refl _, hB, (Fr.refl B w0).alloc hB _, hg.below (((Below.refl w0.heap.size w0).alloc (Nat.le_refl _) _).mono hB)⟩
theorem Tm.fS (h : Tm G B bw bb bc s bf ev w0 w) (off n c : Nat) (str : ByteArray) (hn : off + n ≤ 512) (hn1 : 1 ≤ n) (hc : n ≤ c) (hsz : str.size ≤ 140737488351232) :
    Calls Tryz.prog 96 #[.pointer (some ⟨bf, 0, none⟩), .slice (some ⟨bw, 23 + off, none⟩) n c, .string str] w fun e w' => e = .returned (.tuple #[]) ∧
      Tm G B bw bb bc (s.bk (putAt s.blk off (fmtS (fld s.blk off n) str.data.toList))) bf (if n < str.size then errV G.p4 else ev) w0 w' := by
  refine (fmtS_fld bw 23 (wA s bb bc) s.blk [s.err] 104 w h.wr.hw (wA_len _ _ _ h.wr.hl) (by omega) h.wr.bl bf off n c str ev G.p4 hn hn1 hc h.gl.c4 h.fb h.nbf hsz).mono ?_
  rintro e w' ⟨rfl, h1, h2, h3⟩
  exact ⟨rfl, h.step _ _ (by rw [putAt_len _ _ _ (by rw [fmtS_len, fld_len _ _ _ (by rw [h.wr.bl]; exact hn), h.wr.bl]; exact hn), h.wr.bl]) h1 h2 h3⟩
theorem octS_len' (n : Nat) (x : Int) (off : Nat) (blk : List UInt8) (hl : blk.length = 512) (hn : off + n ≤ 512) : (putAt blk off (fmtS (fld blk off n) (octS n x))).length = 512 := by
  rw [putAt_len _ _ _ (by rw [fmtS_len, fld_len _ _ _ (by rw [hl]; exact hn), hl]; exact hn), hl]
theorem Tm.fO (n : Nat) (hfit : ∀ (x : Int) (w : World), Calls Tryz.prog 66 #[.int .i64 n, .int .i64 x] w fun e w' => e = .returned (.bool (fitO n x)) ∧ w = w') (hn2 : 3 ≤ n) (hn3 : n ≤ 12)
    (h : Tm G B bw bb bc s bf ev w0 w) (off c : Nat) (x : Int) (hn : off + n ≤ 512) (hc : n ≤ c) :
    Calls Tryz.prog 97 #[.pointer (some ⟨bf, 0, none⟩), .slice (some ⟨bw, 23 + off, none⟩) n c, .int .i64 x] w fun e w' => e = .returned (.tuple #[]) ∧
      Tm G B bw bb bc (s.bk (putAt s.blk off (fmtS (fld s.blk off n) (octS n x)))) bf (if fitO n x then ev else errV G.p4) w0 w' := by
  refine (fmtO_fld bw 23 (wA s bb bc) s.blk [s.err] 104 w h.wr.hw (wA_len _ _ _ h.wr.hl) (by omega) h.wr.bl n hfit hn2 hn3 bf off c x ev G B h.gl h.wr.Bw h.bfB hn hc h.fb h.nbf).mono ?_
  rintro e w' ⟨rfl, h1, h2, h3⟩
  exact ⟨rfl, h.step _ _ (octS_len' n x off s.blk h.wr.bl hn) h1 h2 h3⟩
theorem Tm.fN (n : Nat) (hfit : ∀ (x : Int) (w : World), Calls Tryz.prog 66 #[.int .i64 n, .int .i64 x] w fun e w' => e = .returned (.bool (fitO n x)) ∧ w = w')
    (hfit2 : ∀ (x : Int) (w : World), Calls Tryz.prog 65 #[.int .i64 n, .int .i64 x] w fun e w' => e = .returned (.bool (fitB n x)) ∧ w = w') (hn2 : 3 ≤ n) (hn3 : n ≤ 12)
    (h : Tm G B bw bb bc s bf ev w0 w) (off c : Nat) (x : Int) (hn : off + n ≤ 512) (hc : n ≤ c) (hxr : -9223372036854775808 ≤ x ∧ x ≤ 9223372036854775807) :
    Calls Tryz.prog 111 #[.pointer (some ⟨bf, 0, none⟩), .slice (some ⟨bw, 23 + off, none⟩) n c, .int .i64 x] w fun e w' => e = .returned (.tuple #[]) ∧
      Tm G B bw bb bc (s.bk (putAt s.blk off (numS n (fld s.blk off n) x))) bf (if numOk n x then ev else errV G.p4) w0 w' := by
  refine (fmtN_fld bw 23 (wA s bb bc) s.blk [s.err] 104 w h.wr.hw (wA_len _ _ _ h.wr.hl) (by omega) h.wr.bl n hfit hfit2 hn2 hn3 bf off c x ev G B h.gl h.wr.Bw h.bfB hn hc h.fb h.nbf hxr).mono ?_
  rintro e w' ⟨rfl, h1, h2, h3⟩
  have hl2 : (numS n (fld s.blk off n) x).length = n := numS_len n _ x (fld_len _ _ _ (by rw [h.wr.bl]; exact hn))
  exact ⟨rfl, h.step _ _ (by rw [putAt_len _ _ _ (by rw [hl2, h.wr.bl]; exact hn), h.wr.bl]) h1 h2 h3⟩
theorem Tm.reset (h : Tm G B bw bb bc s bf ev w0 w) :
    Calls Tryz.prog 130 #[.pointer (some ⟨bw, 23, none⟩)] w fun e w' => e = .returned (.tuple #[]) ∧ Tm G B bw bb bc (s.bk zero512) bf ev w0 w' := by
  refine (reset_any bw 23 (wA s bb bc) s.blk [s.err] 104 w h.wr.hw (wA_len _ _ _ h.wr.hl) h.wr.bl).mono ?_
  rintro e w' ⟨rfl, h1, h2⟩
  exact ⟨rfl, h.step _ _ zero512_len h1 (h2.get h.fb h.nbf) (h2.mono fun _ hk => .inl hk)⟩
theorem Tm.setF2 (h : Tm G B bw bb bc s bf ev w0 w) :
    Calls Tryz.prog 99 #[.pointer (some ⟨bw, 23, none⟩), .int .i64 2] w fun e w' => e = .returned (.tuple #[]) ∧ Tm G B bw bb bc (s.bk (setFmtU s.blk)) bf ev w0 w' := by
  refine (setFormat_2 bw 23 (wA s bb bc) s.blk [s.err] 104 G B w h.gl h.wr.Bw h.wr.hw (wA_len _ _ _ h.wr.hl) (by omega) h.wr.bl).mono ?_
  rintro e w' ⟨rfl, h1, h2⟩
  exact ⟨rfl, h.step _ _ (withSum_len _ (by rw [putAt_len _ _ _ (by rw [putAt_len _ _ _ (by rw [h.wr.bl]; decide), h.wr.bl]; decide), putAt_len _ _ _ (by rw [h.wr.bl]; decide), h.wr.bl])) h1 (h2.get h.fb h.nbf) (h2.mono fun _ hk => .inl hk)⟩
theorem Tm.setF4 (h : Tm G B bw bb bc s bf ev w0 w) :
    Calls Tryz.prog 99 #[.pointer (some ⟨bw, 23, none⟩), .int .i64 4] w fun e w' => e = .returned (.tuple #[]) ∧ Tm G B bw bb bc (s.bk (setFmtU s.blk)) bf ev w0 w' := by
  refine (setFormat_4 bw 23 (wA s bb bc) s.blk [s.err] 104 G B w h.gl h.wr.Bw h.wr.hw (wA_len _ _ _ h.wr.hl) (by omega) h.wr.bl).mono ?_
  rintro e w' ⟨rfl, h1, h2⟩
  exact ⟨rfl, h.step _ _ (withSum_len _ (by rw [putAt_len _ _ _ (by rw [putAt_len _ _ _ (by rw [h.wr.bl]; decide), h.wr.bl]; decide), putAt_len _ _ _ (by rw [h.wr.bl]; decide), h.wr.bl])) h1 (h2.get h.fb h.nbf) (h2.mono fun _ hk => .inl hk)⟩
theorem Tm.setF8 (h : Tm G B bw bb bc s bf ev w0 w) :
    Calls Tryz.prog 99 #[.pointer (some ⟨bw, 23, none⟩), .int .i64 8] w fun e w' => e = .returned (.tuple #[]) ∧ Tm G B bw bb bc (s.bk (setFmtG s.blk)) bf ev w0 w' := by
  refine (setFormat_8 bw 23 (wA s bb bc) s.blk [s.err] 104 G B w h.gl h.wr.Bw h.wr.hw (wA_len _ _ _ h.wr.hl) (by omega) h.wr.bl).mono ?_
  rintro e w' ⟨rfl, h1, h2⟩
  exact ⟨rfl, h.step _ _ (withSum_len _ (by rw [putAt_len _ _ _ (by rw [putAt_len _ _ _ (by rw [h.wr.bl]; decide), h.wr.bl]; decide), putAt_len _ _ _ (by rw [h.wr.bl]; decide), h.wr.bl])) h1 (h2.get h.fb h.nbf) (h2.mono fun _ hk => .inl hk)⟩
/-- The type's byte. -/
theorem Tm.typ (h : Tm G B bw bb bc s bf ev w0 w) (v : UInt8) : Tm G B bw bb bc (s.bk (putAt s.blk 156 [v])) bf ev w0 (w.setCell ⟨bw, 23 + 156, none⟩ (.int .u8 v.toNat)) := by
  have hk : Kp (fun k => k = bw ∨ k = bf) w (w.setCell ⟨bw, 23 + 156, none⟩ (.int .u8 v.toNat)) := (Kp.refl (fun k => k = bw ∨ k = bf) w).setCell (p := ⟨bw, 23 + 156, none⟩) (.inl (.inl rfl)) _
  refine h.step _ _ (by rw [putAt_len _ _ _ (by rw [h.wr.bl]; simp), h.wr.bl]) ?_ ?_ hk
  · rw [← putAt_one (wA s bb bc) s.blk [s.err] 156 v (by rw [h.wr.bl]; decide), wA_len _ _ _ h.wr.hl]
    exact set_blk h.wr.hw
  · have hk2 : Kp (fun k => k = bw) w (w.setCell ⟨bw, 23 + 156, none⟩ (.int .u8 v.toNat)) := (Kp.refl (fun k => k = bw) w).setCell (p := ⟨bw, 23 + 156, none⟩) (.inl rfl) _
    exact hk2.get h.fb h.nbf
end
/-- The name as writeRawFile takes it. -/
def rawName (name : ByteArray) : ByteArray := trimR (if 100 < (toAsc name).size then (toAsc name).extract 0 100 else toAsc name) 47
/-- The fields of writeRawFile's block; the block. -/
def rawB1 (name : ByteArray) (flag : UInt8) : List UInt8 := putAt (putAt zero512 156 [flag]) 0 (fmtS (fld (putAt zero512 156 [flag]) 0 100) (rawName name).data.toList)
def putO (n off : Nat) (x : Int) (b : List UInt8) : List UInt8 := putAt b off (fmtS (fld b off n) (octS n x))
def rawB (name : ByteArray) (size : Int) (flag : UInt8) : List UInt8 :=
  putO 12 136 0 (putO 12 124 size (putO 8 116 0 (putO 8 108 0 (putO 8 100 0 (rawB1 name flag)))))
def rawBlk (g : Bool) (name : ByteArray) (size : Int) (flag : UInt8) : List UInt8 := if g then setFmtG (rawB name size flag) else setFmtU (rawB name size flag)
/-- The Writer behind a raw file. -/
def rawFileSt (s : WSt) (p : Nat) (g : Bool) (name data : ByteArray) (flag : UInt8) : WSt :=
  ⟨s.out ++ List.replicate p 0 ++ rawBlk g name data.size flag ++ data.data.toList, bpad data.size, 0, s.hdr, rawBlk g name data.size flag, s.err⟩
/-- A string's field. -/
def putS (n off : Nat) (x : List UInt8) (b : List UInt8) : List UInt8 := putAt b off (fmtS (fld b off n) x)
section
variable {G : GlP} {B bw bb bc : Nat} {s : WSt} {bf : Nat} {ev : Value} {w0 w : World} {b0 : List UInt8}
theorem Tm.oct (h : Tm G B bw bb bc (s.bk b0) bf ev w0 w) (n off c : Nat) (x : Int) (hfit : ∀ (x : Int) (w : World), Calls Tryz.prog 66 #[.int .i64 n, .int .i64 x] w fun e w' => e = .returned (.bool (fitO n x)) ∧ w = w') (hn2 : 3 ≤ n) (hn3 : n ≤ 12)
    (hn : off + n ≤ 512) (hc : n ≤ c) (hx : fitO n x = true) :
    Calls Tryz.prog 97 #[.pointer (some ⟨bf, 0, none⟩), .slice (some ⟨bw, 23 + off, none⟩) n c, .int .i64 x] w fun e w' => e = .returned (.tuple #[]) ∧ Tm G B bw bb bc (s.bk (putO n off x b0)) bf ev w0 w' := by
  have := h.fO n hfit hn2 hn3 off c x hn hc
  rw [hx] at this
  exact this
theorem Tm.str (h : Tm G B bw bb bc (s.bk b0) bf ev w0 w) (n off c : Nat) (x : ByteArray) (hn : off + n ≤ 512) (hn1 : 1 ≤ n) (hc : n ≤ c) (hx : x.size ≤ n) :
    Calls Tryz.prog 96 #[.pointer (some ⟨bf, 0, none⟩), .slice (some ⟨bw, 23 + off, none⟩) n c, .string x] w fun e w' => e = .returned (.tuple #[]) ∧ Tm G B bw bb bc (s.bk (putS n off x.data.toList b0)) bf ev w0 w' := by
  have := h.fS off n c x hn hn1 hc (by omega)
  rw [if_neg (by omega)] at this
  exact this
theorem Wr.reset (h : Wr B bw bb bc s w) (hB : B ≤ w.heap.size) : Calls Tryz.prog 130 #[.pointer (some ⟨bw, 23, none⟩)] w fun e w' => e = .returned (.tuple #[]) ∧ Wr B bw bb bc (s.bk zero512) w' ∧ Fr B w w' := by
  refine (reset_any bw 23 (wA s bb bc) s.blk [s.err] 104 w h.hw (wA_len _ _ _ h.hl) h.bl).mono ?_
  rintro e w' ⟨rfl, h1, hk⟩
  refine ⟨rfl, ⟨h1, hk.get h.hc (by have := h.n3; omega), buf_kp h.hb hk ?_, h.hl, zero512_len, h.Bw, h.Bc, h.n1, h.n2, h.n3⟩, Fr.of_kp hk hB ?_ ?_⟩
  · rintro k c t fr rfl ho
    rw [h.hw] at ho; cases ho; exact ⟨by decide, by decide⟩
  · rintro k rfl; exact h.Bw
  · rintro k o rfl ho
    rw [h.hw] at ho; cases ho
    exact ⟨_, _, .inr (.inr (.inr rfl))⟩
end
theorem Wr.cblk {B bw bb bc : Nat} {s : WSt} {w : World} (h : Wr B bw bb bc s w) {j : Nat} {c : UInt8} (hc : s.blk[j]? = some c) : w.cell? ⟨bw, 23 + j, none⟩ = some (.int .u8 c.toNat) := by
  have hr : w.rangeAt bw 23 (cells s.blk) := range_of_blk h.hw (wA_len s bb bc h.hl)
  exact hr j _ (by rw [cells_get, hc]; rfl)
theorem rawName_size (name : ByteArray) : (rawName name).size ≤ 100 := by
  unfold rawName
  rw [trimR_size]
  refine Nat.le_trans (trimN_le _ _ _) ?_
  split
  · rw [ByteArray.size_extract]; omega
  · omega
theorem fit8_0 : fitO 8 0 = true := by decide
theorem fit12_0 : fitO 12 0 = true := by decide
theorem fit12_size (n : Nat) (h : n ≤ 1073741824) : fitO 12 n = true := by
  unfold fitO
  rw [Bool.and_eq_true, decide_eq_true_eq, decide_eq_true_eq]
  have : (8 : Int) ^ (12 - 1) = 8589934592 := by decide
  rw [this]
  omega
theorem rawBlk_false (name : ByteArray) (size : Int) (flag : UInt8) : rawBlk false name size flag = setFmtU (putO 12 136 0 (putO 12 124 size (putO 8 116 0 (putO 8 108 0 (putO 8 100 0 (putS 100 0 (rawName name).data.toList (putAt zero512 156 [flag]))))))) := by
  unfold rawBlk rawB rawB1 putS
  rw [if_neg (by decide)]
theorem rawBlk_true (name : ByteArray) (size : Int) (flag : UInt8) : rawBlk true name size flag = setFmtG (putO 12 136 0 (putO 12 124 size (putO 8 116 0 (putO 8 108 0 (putO 8 100 0 (putS 100 0 (rawName name).data.toList (putAt zero512 156 [flag]))))))) := by
  unfold rawBlk rawB rawB1 putS
  rw [if_pos rfl]
section
variable {G : GlP} {B bw bb bc : Nat} {s : WSt} {bf : Nat} {ev : Value} {w0 w : World} {b0 : List UInt8}
theorem Tm.setB2 (h : Tm G B bw bb bc (s.bk b0) bf ev w0 w) :
    Calls Tryz.prog 99 #[.pointer (some ⟨bw, 23, none⟩), .int .i64 2] w fun e w' => e = .returned (.tuple #[]) ∧ Tm G B bw bb bc (s.bk (setFmtU b0)) bf ev w0 w' := h.setF2
theorem Tm.setB4 (h : Tm G B bw bb bc (s.bk b0) bf ev w0 w) :
    Calls Tryz.prog 99 #[.pointer (some ⟨bw, 23, none⟩), .int .i64 4] w fun e w' => e = .returned (.tuple #[]) ∧ Tm G B bw bb bc (s.bk (setFmtU b0)) bf ev w0 w' := h.setF4
theorem Tm.setB8 (h : Tm G B bw bb bc (s.bk b0) bf ev w0 w) :
    Calls Tryz.prog 99 #[.pointer (some ⟨bw, 23, none⟩), .int .i64 8] w fun e w' => e = .returned (.tuple #[]) ∧ Tm G B bw bb bc (s.bk (setFmtG b0)) bf ev w0 w' := h.setF8
end
theorem rawHeader_bk (B bw bb bc : Nat) (s : WSt) (b : List UInt8) (w : World) (p : Nat) (size : Int) (flag : UInt8) (h : Wr B bw bb bc (s.bk b) w) (hB : B ≤ w.heap.size) (he : s.err = .nilIface) (hnb : s.nb ≤ 0) (hp : s.pad = (p : Int)) (hp2 : p ≤ 512) (hlim : s.out.length ≤ 35184372088832)
    (hsz : -9223372036854775808 ≤ size ∧ size ≤ 9223372036854775807) :
    Calls Tryz.prog 100 #[.pointer (some ⟨bw, 0, none⟩), .pointer (some ⟨bw, 23, none⟩), .int .i64 size, .int .u8 flag.toNat] w fun e w' => e = .returned .nilIface ∧ ∃ bc', Wr B bw bb bc' (rawSt (s.bk b) p size flag) w' ∧ Fr B w w' := by
  have h1 : (s.bk b).err = s.err := rfl
  have h2 : (s.bk b).nb = s.nb := rfl
  have h3 : (s.bk b).pad = s.pad := rfl
  have h4 : (s.bk b).out = s.out := rfl
  exact rawHeader_any B bw bb bc (s.bk b) w p size flag h hB (h1.trans he) (by rw [h2]; exact hnb) (h3.trans hp) hp2 (by rw [h4]; exact hlim) hsz
theorem writeString_raw (B bw bb bc : Nat) (s : WSt) (b : List UInt8) (p : Nat) (flag : UInt8) (w : World) (d : ByteArray) (p0 : Addr) (hg : w.cell? ⟨0, 0, none⟩ = some (errV p0)) (hB0 : 0 < B) (h : Wr B bw bb bc (rawSt (s.bk b) p d.size flag) w) (hB : B ≤ w.heap.size)
    (he : s.err = .nilIface) (hz : szOf (d.size : Int) flag = d.size) (hd : d.size ≤ 1073741824) (hp2 : p ≤ 512) (hl : b.length = 512) (hlim : s.out.length ≤ 17592186044416) :
    Calls Tryz.prog 151 #[.iface 63 (.pointer (some ⟨bw, 0, none⟩)), .string d] w fun e w' => ∃ v, e = .returned (.tuple #[v, .nilIface]) ∧ Wr B bw bb bc (((rawSt (s.bk b) p d.size flag).wr d.data.toList).nbd 0) w' ∧ Fr B w w' := by
  have h1 : (rawSt (s.bk b) p d.size flag).err = s.err := rfl
  have h2 : (rawSt (s.bk b) p d.size flag).nb = szOf d.size flag := rfl
  have h4 : (rawSt (s.bk b) p d.size flag).out = s.out ++ List.replicate p 0 ++ b := rfl
  refine writeString_any B bw bb bc _ w d p0 hg hB0 h hB (h1.trans he) (h2.trans hz) (by omega) ?_
  rw [h4, List.length_append, List.length_append, List.length_replicate, hl]
  omega
theorem rawFileSt_eq (s : WSt) (p : Nat) (g : Bool) (name data : ByteArray) (flag : UInt8) (blk : List UInt8) (hb : blk = rawBlk g name data.size flag) (hz : szOf (data.size : Int) flag = data.size) : ((rawSt (s.bk blk) p data.size flag).wr data.data.toList).nbd 0 = rawFileSt s p g name data flag := by
  subst hb
  unfold rawSt WSt.wr WSt.nbd rawFileSt WSt.bk
  simp only [hz]
theorem rawFile_fin {B bw bb bc : Nat} {w : World} {s : WSt} {p : Nat} {g : Bool} {name data : ByteArray} {flag : UInt8} {blk : List UInt8} (k : Wr B bw bb bc (((rawSt (s.bk blk) p data.size flag).wr data.data.toList).nbd 0) w) (hb : blk = rawBlk g name data.size flag) (hz : szOf (data.size : Int) flag = data.size) : Wr B bw bb bc (rawFileSt s p g name data flag) w := by
  rw [← rawFileSt_eq s p g name data flag blk hb hz]
  exact k
theorem z156 : zero512[156]? = some 0 := by decide
set_option maxRecDepth 100000 in
set_option maxHeartbeats 4000000 in
theorem rawFile_4 (G : GlP) (B bw bb bc : Nat) (s : WSt) (w : World) (p : Nat) (name data : ByteArray) (flag : UInt8) (hgl : Gl G B w) (h : Wr B bw bb bc s w) (he : s.err = .nilIface) (hnb : s.nb ≤ 0) (hp : s.pad = (p : Int)) (hp2 : p ≤ 512) (hlim : s.out.length ≤ 17592186044416)
    (hns : name.size ≤ 140737488351232) (hds : data.size ≤ 1073741824) (hfl : hdrOnly flag = false) :
    Calls Tryz.prog 108 #[.pointer (some ⟨bw, 0, none⟩), .string name, .string data, .int .u8 flag.toNat, .int .i64 4] w fun e w' => e = .returned .nilIface ∧ ∃ bc', Wr B bw bb bc' (rawFileSt s p false name data flag) w' ∧ Fr B w w' := by
  have hB := hgl.size
  have hB0 : 0 < B := by have := hgl.hB; omega
  have hna := rawName_size name
  have hx := Asd.mk (fit12_size data.size hds)
  have hrs : Asd (∀ bl, szOf (data.size : Int) flag = data.size ∧ (rawSt (s.bk bl) p data.size flag).nb = (data.size : Int)) := Asd.mk (fun bl => ⟨by unfold szOf; rw [hfl]; rfl, by unfold rawSt szOf; rw [hfl]; rfl⟩)
  replace hp := Asd.mk hp
  replace he := Asd.mk he
  by_cases hlong : 100 < (toAsc name).size
  · have hr : trimR ((toAsc name).extract 0 100) 47 = rawName name := by unfold rawName; rw [if_pos hlong]
    have hl2 : (100 : Int) < (toAsc name).size := by omega
    go_enter Tryz.func108, Tryz.ntmps108
    go_wp2_with (first
      | (go_at_call 130
         refine (h.reset hB).mono ?_
         rintro e w1 ⟨rfl, h1, f1⟩)
      | (go_at_call 110
         refine (toASCII_any name _ hns).mono ?_
         rintro e w2 ⟨rfl, f2⟩)
      | (go_at_call 127
         refine (zzTrimRight_any _ 47 _ (by rw [ByteArray.size_extract]; omega)).mono ?_
         rintro e w3 ⟨rfl, n, hw3⟩
         have hh : Wr B bw bb bc (s.bk zero512) w3 := by rw [hw3]; exact (h1.below f2).drewN n
         have hf3 : Fr B w w3 := by rw [hw3]; exact (f1.trans (Fr.of_below f2 (Nat.le_trans hB f1.size))).drewN n
         replace hw3 := Asd.mk hw3
         have hB3 := Nat.le_trans hB hf3.size
         have t0 := Tm.start hh hB3 (hf3.gl hgl)
         have l3 := hh.lt
         have c3 := hh.cblk z156
         have f3 := hh.fz 179
         have t1 : Tm G B bw bb bc (s.bk (putAt zero512 156 [flag])) w3.heap.size .nilIface w3 ((w3.setCell ⟨bw, 179, none⟩ (.int .u8 flag.toNat)).alloc (.cells #[.nilIface] 155 (0, 0))) := by
           rw [← World.setCell_alloc_past _ _ _ _ l3]
           exact t0.typ flag)
      | (go_at_call 73; refine (acc73 _ _).mono ?_; rintro e w' ⟨rfl, rfl⟩)
      | (go_at_call 131; refine (acc131 _ _ _).mono ?_; rintro e w' ⟨rfl, rfl⟩)
      | (go_at_call 76; refine (acc76 _ _ _).mono ?_; rintro e w' ⟨rfl, rfl⟩)
      | (go_at_call 80; refine (acc80 _ _ _).mono ?_; rintro e w' ⟨rfl, rfl⟩)
      | (go_at_call 81; refine (acc81 _ _ _).mono ?_; rintro e w' ⟨rfl, rfl⟩)
      | (go_at_call 82; refine (acc82 _ _ _).mono ?_; rintro e w' ⟨rfl, rfl⟩)
      | (go_at_call 83; refine (acc83 _ _ _).mono ?_; rintro e w' ⟨rfl, rfl⟩)
      | (go_at_call 86; refine (acc86 _ _ _).mono ?_; rintro e w' ⟨rfl, rfl⟩)
      | (go_at_call 96
         refine (t1.str 100 0 512 (rawName name) (by omega) (by omega) (by omega) hna).mono ?_
         rintro e w4 ⟨rfl, t2⟩)
      | (go_at_call 97
         refine (t2.oct 8 100 412 0 fitsInOctal_8 (by omega) (by omega) (by omega) (by omega) fit8_0).mono ?_
         rintro e w5 ⟨rfl, t3⟩
         clear t2)
      | (go_at_call 97
         refine (t3.oct 8 108 404 0 fitsInOctal_8 (by omega) (by omega) (by omega) (by omega) fit8_0).mono ?_
         rintro e w6 ⟨rfl, t4⟩
         clear t3)
      | (go_at_call 97
         refine (t4.oct 8 116 396 0 fitsInOctal_8 (by omega) (by omega) (by omega) (by omega) fit8_0).mono ?_
         rintro e w7 ⟨rfl, t5⟩
         clear t4)
      | (go_at_call 97
         refine (t5.oct 12 124 388 data.size fitsInOctal_12 (by omega) (by omega) (by omega) (by omega) hx.out).mono ?_
         rintro e w8 ⟨rfl, t6⟩
         clear t5)
      | (go_at_call 97
         refine (t6.oct 12 136 376 0 fitsInOctal_12 (by omega) (by omega) (by omega) (by omega) fit12_0).mono ?_
         rintro e w9 ⟨rfl, t7⟩
         clear t6)
      | (go_at_call 99
         refine (t7.setB4).mono ?_
         rintro e w10 ⟨rfl, t8⟩
         have c8 : w10.cell? ⟨w3.heap.size, 0, none⟩ = some .nilIface := cell_blk t8.fb rfl)
      | (go_at_call 100
         refine (rawHeader_bk B bw bb bc s _ _ p data.size flag t8.wr (Nat.le_trans hB3 t8.fr.size) he.out hnb hp.out hp2 (by omega) (by omega)).mono ?_
         rintro e w11 ⟨rfl, bc', k1, k2⟩
         have kf := hf3.trans (t8.fr.trans k2))
      | (go_at_call 151
         refine (writeString_raw B bw bb bc' s _ p flag _ data G.p0 ((kf.gl hgl).c0) hB0 k1 (Nat.le_trans hB kf.size) he.out (hrs.out zero512).1 hds hp2 t8.wr.bl hlim).mono ?_
         rintro e w12 ⟨v, rfl, k3, k4⟩))
    go_ret
    exact ⟨rfl, bc', rawFile_fin k3 (rawBlk_false name data.size flag).symm (hrs.out zero512).1, kf.trans k4⟩
  · have hr : trimR (toAsc name) 47 = rawName name := by unfold rawName; rw [if_neg hlong]
    have hl2 : ¬ (100 : Int) < (toAsc name).size := by omega
    go_enter Tryz.func108, Tryz.ntmps108
    go_wp2_with (first
      | (go_at_call 130
         refine (h.reset hB).mono ?_
         rintro e w1 ⟨rfl, h1, f1⟩)
      | (go_at_call 110
         refine (toASCII_any name _ hns).mono ?_
         rintro e w2 ⟨rfl, f2⟩)
      | (go_at_call 127
         refine (zzTrimRight_any _ 47 _ (by omega)).mono ?_
         rintro e w3 ⟨rfl, n, hw3⟩
         have hh : Wr B bw bb bc (s.bk zero512) w3 := by rw [hw3]; exact (h1.below f2).drewN n
         have hf3 : Fr B w w3 := by rw [hw3]; exact (f1.trans (Fr.of_below f2 (Nat.le_trans hB f1.size))).drewN n
         replace hw3 := Asd.mk hw3
         have hB3 := Nat.le_trans hB hf3.size
         have t0 := Tm.start hh hB3 (hf3.gl hgl)
         have l3 := hh.lt
         have c3 := hh.cblk z156
         have f3 := hh.fz 179
         have t1 : Tm G B bw bb bc (s.bk (putAt zero512 156 [flag])) w3.heap.size .nilIface w3 ((w3.setCell ⟨bw, 179, none⟩ (.int .u8 flag.toNat)).alloc (.cells #[.nilIface] 155 (0, 0))) := by
           rw [← World.setCell_alloc_past _ _ _ _ l3]
           exact t0.typ flag)
      | (go_at_call 73; refine (acc73 _ _).mono ?_; rintro e w' ⟨rfl, rfl⟩)
      | (go_at_call 131; refine (acc131 _ _ _).mono ?_; rintro e w' ⟨rfl, rfl⟩)
      | (go_at_call 76; refine (acc76 _ _ _).mono ?_; rintro e w' ⟨rfl, rfl⟩)
      | (go_at_call 80; refine (acc80 _ _ _).mono ?_; rintro e w' ⟨rfl, rfl⟩)
      | (go_at_call 81; refine (acc81 _ _ _).mono ?_; rintro e w' ⟨rfl, rfl⟩)
      | (go_at_call 82; refine (acc82 _ _ _).mono ?_; rintro e w' ⟨rfl, rfl⟩)
      | (go_at_call 83; refine (acc83 _ _ _).mono ?_; rintro e w' ⟨rfl, rfl⟩)
      | (go_at_call 86; refine (acc86 _ _ _).mono ?_; rintro e w' ⟨rfl, rfl⟩)
      | (go_at_call 96
         refine (t1.str 100 0 512 (rawName name) (by omega) (by omega) (by omega) hna).mono ?_
         rintro e w4 ⟨rfl, t2⟩)
      | (go_at_call 97
         refine (t2.oct 8 100 412 0 fitsInOctal_8 (by omega) (by omega) (by omega) (by omega) fit8_0).mono ?_
         rintro e w5 ⟨rfl, t3⟩
         clear t2)
      | (go_at_call 97
         refine (t3.oct 8 108 404 0 fitsInOctal_8 (by omega) (by omega) (by omega) (by omega) fit8_0).mono ?_
         rintro e w6 ⟨rfl, t4⟩
         clear t3)
      | (go_at_call 97
         refine (t4.oct 8 116 396 0 fitsInOctal_8 (by omega) (by omega) (by omega) (by omega) fit8_0).mono ?_
         rintro e w7 ⟨rfl, t5⟩
         clear t4)
      | (go_at_call 97
         refine (t5.oct 12 124 388 data.size fitsInOctal_12 (by omega) (by omega) (by omega) (by omega) hx.out).mono ?_
         rintro e w8 ⟨rfl, t6⟩
         clear t5)
      | (go_at_call 97
         refine (t6.oct 12 136 376 0 fitsInOctal_12 (by omega) (by omega) (by omega) (by omega) fit12_0).mono ?_
         rintro e w9 ⟨rfl, t7⟩
         clear t6)
      | (go_at_call 99
         refine (t7.setB4).mono ?_
         rintro e w10 ⟨rfl, t8⟩
         have c8 : w10.cell? ⟨w3.heap.size, 0, none⟩ = some .nilIface := cell_blk t8.fb rfl)
      | (go_at_call 100
         refine (rawHeader_bk B bw bb bc s _ _ p data.size flag t8.wr (Nat.le_trans hB3 t8.fr.size) he.out hnb hp.out hp2 (by omega) (by omega)).mono ?_
         rintro e w11 ⟨rfl, bc', k1, k2⟩
         have kf := hf3.trans (t8.fr.trans k2))
      | (go_at_call 151
         refine (writeString_raw B bw bb bc' s _ p flag _ data G.p0 ((kf.gl hgl).c0) hB0 k1 (Nat.le_trans hB kf.size) he.out (hrs.out zero512).1 hds hp2 t8.wr.bl hlim).mono ?_
         rintro e w12 ⟨v, rfl, k3, k4⟩))
    go_ret
    exact ⟨rfl, bc', rawFile_fin k3 (rawBlk_false name data.size flag).symm (hrs.out zero512).1, kf.trans k4⟩
set_option maxRecDepth 100000 in
set_option maxHeartbeats 4000000 in
theorem rawFile_8 (G : GlP) (B bw bb bc : Nat) (s : WSt) (w : World) (p : Nat) (name data : ByteArray) (flag : UInt8) (hgl : Gl G B w) (h : Wr B bw bb bc s w) (he : s.err = .nilIface) (hnb : s.nb ≤ 0) (hp : s.pad = (p : Int)) (hp2 : p ≤ 512) (hlim : s.out.length ≤ 17592186044416)
    (hns : name.size ≤ 140737488351232) (hds : data.size ≤ 1073741824) (hfl : hdrOnly flag = false) :
    Calls Tryz.prog 108 #[.pointer (some ⟨bw, 0, none⟩), .string name, .string data, .int .u8 flag.toNat, .int .i64 8] w fun e w' => e = .returned .nilIface ∧ ∃ bc', Wr B bw bb bc' (rawFileSt s p true name data flag) w' ∧ Fr B w w' := by
  have hB := hgl.size
  have hB0 : 0 < B := by have := hgl.hB; omega
  have hna := rawName_size name
  have hx := Asd.mk (fit12_size data.size hds)
  have hrs : Asd (∀ bl, szOf (data.size : Int) flag = data.size ∧ (rawSt (s.bk bl) p data.size flag).nb = (data.size : Int)) := Asd.mk (fun bl => ⟨by unfold szOf; rw [hfl]; rfl, by unfold rawSt szOf; rw [hfl]; rfl⟩)
  replace hp := Asd.mk hp
  replace he := Asd.mk he
  by_cases hlong : 100 < (toAsc name).size
  · have hr : trimR ((toAsc name).extract 0 100) 47 = rawName name := by unfold rawName; rw [if_pos hlong]
    have hl2 : (100 : Int) < (toAsc name).size := by omega
    go_enter Tryz.func108, Tryz.ntmps108
    go_wp2_with (first
      | (go_at_call 130
         refine (h.reset hB).mono ?_
         rintro e w1 ⟨rfl, h1, f1⟩)
      | (go_at_call 110
         refine (toASCII_any name _ hns).mono ?_
         rintro e w2 ⟨rfl, f2⟩)
      | (go_at_call 127
         refine (zzTrimRight_any _ 47 _ (by rw [ByteArray.size_extract]; omega)).mono ?_
         rintro e w3 ⟨rfl, n, hw3⟩
         have hh : Wr B bw bb bc (s.bk zero512) w3 := by rw [hw3]; exact (h1.below f2).drewN n
         have hf3 : Fr B w w3 := by rw [hw3]; exact (f1.trans (Fr.of_below f2 (Nat.le_trans hB f1.size))).drewN n
         replace hw3 := Asd.mk hw3
         have hB3 := Nat.le_trans hB hf3.size
         have t0 := Tm.start hh hB3 (hf3.gl hgl)
         have l3 := hh.lt
         have c3 := hh.cblk z156
         have f3 := hh.fz 179
         have t1 : Tm G B bw bb bc (s.bk (putAt zero512 156 [flag])) w3.heap.size .nilIface w3 ((w3.setCell ⟨bw, 179, none⟩ (.int .u8 flag.toNat)).alloc (.cells #[.nilIface] 155 (0, 0))) := by
           rw [← World.setCell_alloc_past _ _ _ _ l3]
           exact t0.typ flag)
      | (go_at_call 73; refine (acc73 _ _).mono ?_; rintro e w' ⟨rfl, rfl⟩)
      | (go_at_call 131; refine (acc131 _ _ _).mono ?_; rintro e w' ⟨rfl, rfl⟩)
      | (go_at_call 76; refine (acc76 _ _ _).mono ?_; rintro e w' ⟨rfl, rfl⟩)
      | (go_at_call 80; refine (acc80 _ _ _).mono ?_; rintro e w' ⟨rfl, rfl⟩)
      | (go_at_call 81; refine (acc81 _ _ _).mono ?_; rintro e w' ⟨rfl, rfl⟩)
      | (go_at_call 82; refine (acc82 _ _ _).mono ?_; rintro e w' ⟨rfl, rfl⟩)
      | (go_at_call 83; refine (acc83 _ _ _).mono ?_; rintro e w' ⟨rfl, rfl⟩)
      | (go_at_call 86; refine (acc86 _ _ _).mono ?_; rintro e w' ⟨rfl, rfl⟩)
      | (go_at_call 96
         refine (t1.str 100 0 512 (rawName name) (by omega) (by omega) (by omega) hna).mono ?_
         rintro e w4 ⟨rfl, t2⟩)
      | (go_at_call 97
         refine (t2.oct 8 100 412 0 fitsInOctal_8 (by omega) (by omega) (by omega) (by omega) fit8_0).mono ?_
         rintro e w5 ⟨rfl, t3⟩
         clear t2)
      | (go_at_call 97
         refine (t3.oct 8 108 404 0 fitsInOctal_8 (by omega) (by omega) (by omega) (by omega) fit8_0).mono ?_
         rintro e w6 ⟨rfl, t4⟩
         clear t3)
      | (go_at_call 97
         refine (t4.oct 8 116 396 0 fitsInOctal_8 (by omega) (by omega) (by omega) (by omega) fit8_0).mono ?_
         rintro e w7 ⟨rfl, t5⟩
         clear t4)
      | (go_at_call 97
         refine (t5.oct 12 124 388 data.size fitsInOctal_12 (by omega) (by omega) (by omega) (by omega) hx.out).mono ?_
         rintro e w8 ⟨rfl, t6⟩
         clear t5)
      | (go_at_call 97
         refine (t6.oct 12 136 376 0 fitsInOctal_12 (by omega) (by omega) (by omega) (by omega) fit12_0).mono ?_
         rintro e w9 ⟨rfl, t7⟩
         clear t6)
      | (go_at_call 99
         refine (t7.setB8).mono ?_
         rintro e w10 ⟨rfl, t8⟩
         have c8 : w10.cell? ⟨w3.heap.size, 0, none⟩ = some .nilIface := cell_blk t8.fb rfl)
      | (go_at_call 100
         refine (rawHeader_bk B bw bb bc s _ _ p data.size flag t8.wr (Nat.le_trans hB3 t8.fr.size) he.out hnb hp.out hp2 (by omega) (by omega)).mono ?_
         rintro e w11 ⟨rfl, bc', k1, k2⟩
         have kf := hf3.trans (t8.fr.trans k2))
      | (go_at_call 151
         refine (writeString_raw B bw bb bc' s _ p flag _ data G.p0 ((kf.gl hgl).c0) hB0 k1 (Nat.le_trans hB kf.size) he.out (hrs.out zero512).1 hds hp2 t8.wr.bl hlim).mono ?_
         rintro e w12 ⟨v, rfl, k3, k4⟩))
    go_ret
    exact ⟨rfl, bc', rawFile_fin k3 (rawBlk_true name data.size flag).symm (hrs.out zero512).1, kf.trans k4⟩
  · have hr : trimR (toAsc name) 47 = rawName name := by unfold rawName; rw [if_neg hlong]
    have hl2 : ¬ (100 : Int) < (toAsc name).size := by omega
    go_enter Tryz.func108, Tryz.ntmps108
    go_wp2_with (first
      | (go_at_call 130
         refine (h.reset hB).mono ?_
         rintro e w1 ⟨rfl, h1, f1⟩)
      | (go_at_call 110
         refine (toASCII_any name _ hns).mono ?_
         rintro e w2 ⟨rfl, f2⟩)
      | (go_at_call 127
         refine (zzTrimRight_any _ 47 _ (by omega)).mono ?_
         rintro e w3 ⟨rfl, n, hw3⟩
         have hh : Wr B bw bb bc (s.bk zero512) w3 := by rw [hw3]; exact (h1.below f2).drewN n
         have hf3 : Fr B w w3 := by rw [hw3]; exact (f1.trans (Fr.of_below f2 (Nat.le_trans hB f1.size))).drewN n
         replace hw3 := Asd.mk hw3
         have hB3 := Nat.le_trans hB hf3.size
         have t0 := Tm.start hh hB3 (hf3.gl hgl)
         have l3 := hh.lt
         have c3 := hh.cblk z156
         have f3 := hh.fz 179
         have t1 : Tm G B bw bb bc (s.bk (putAt zero512 156 [flag])) w3.heap.size .nilIface w3 ((w3.setCell ⟨bw, 179, none⟩ (.int .u8 flag.toNat)).alloc (.cells #[.nilIface] 155 (0, 0))) := by
           rw [← World.setCell_alloc_past _ _ _ _ l3]
           exact t0.typ flag)
      | (go_at_call 73; refine (acc73 _ _).mono ?_; rintro e w' ⟨rfl, rfl⟩)
      | (go_at_call 131; refine (acc131 _ _ _).mono ?_; rintro e w' ⟨rfl, rfl⟩)
      | (go_at_call 76; refine (acc76 _ _ _).mono ?_; rintro e w' ⟨rfl, rfl⟩)
      | (go_at_call 80; refine (acc80 _ _ _).mono ?_; rintro e w' ⟨rfl, rfl⟩)
      | (go_at_call 81; refine (acc81 _ _ _).mono ?_; rintro e w' ⟨rfl, rfl⟩)
      | (go_at_call 82; refine (acc82 _ _ _).mono ?_; rintro e w' ⟨rfl, rfl⟩)
      | (go_at_call 83; refine (acc83 _ _ _).mono ?_; rintro e w' ⟨rfl, rfl⟩)
      | (go_at_call 86; refine (acc86 _ _ _).mono ?_; rintro e w' ⟨rfl, rfl⟩)
      | (go_at_call 96
         refine (t1.str 100 0 512 (rawName name) (by omega) (by omega) (by omega) hna).mono ?_
         rintro e w4 ⟨rfl, t2⟩)
      | (go_at_call 97
         refine (t2.oct 8 100 412 0 fitsInOctal_8 (by omega) (by omega) (by omega) (by omega) fit8_0).mono ?_
         rintro e w5 ⟨rfl, t3⟩
         clear t2)
      | (go_at_call 97
         refine (t3.oct 8 108 404 0 fitsInOctal_8 (by omega) (by omega) (by omega) (by omega) fit8_0).mono ?_
         rintro e w6 ⟨rfl, t4⟩
         clear t3)
      | (go_at_call 97
         refine (t4.oct 8 116 396 0 fitsInOctal_8 (by omega) (by omega) (by omega) (by omega) fit8_0).mono ?_
         rintro e w7 ⟨rfl, t5⟩
         clear t4)
      | (go_at_call 97
         refine (t5.oct 12 124 388 data.size fitsInOctal_12 (by omega) (by omega) (by omega) (by omega) hx.out).mono ?_
         rintro e w8 ⟨rfl, t6⟩
         clear t5)
      | (go_at_call 97
         refine (t6.oct 12 136 376 0 fitsInOctal_12 (by omega) (by omega) (by omega) (by omega) fit12_0).mono ?_
         rintro e w9 ⟨rfl, t7⟩
         clear t6)
      | (go_at_call 99
         refine (t7.setB8).mono ?_
         rintro e w10 ⟨rfl, t8⟩
         have c8 : w10.cell? ⟨w3.heap.size, 0, none⟩ = some .nilIface := cell_blk t8.fb rfl)
      | (go_at_call 100
         refine (rawHeader_bk B bw bb bc s _ _ p data.size flag t8.wr (Nat.le_trans hB3 t8.fr.size) he.out hnb hp.out hp2 (by omega) (by omega)).mono ?_
         rintro e w11 ⟨rfl, bc', k1, k2⟩
         have kf := hf3.trans (t8.fr.trans k2))
      | (go_at_call 151
         refine (writeString_raw B bw bb bc' s _ p flag _ data G.p0 ((kf.gl hgl).c0) hB0 k1 (Nat.le_trans hB kf.size) he.out (hrs.out zero512).1 hds hp2 t8.wr.bl hlim).mono ?_
         rintro e w12 ⟨v, rfl, k3, k4⟩))
    go_ret
    exact ⟨rfl, bc', rawFile_fin k3 (rawBlk_true name data.size flag).symm (hrs.out zero512).1, kf.trans k4⟩
end Go.Proofs.YtpkilegnokajmaaGreatDoor
