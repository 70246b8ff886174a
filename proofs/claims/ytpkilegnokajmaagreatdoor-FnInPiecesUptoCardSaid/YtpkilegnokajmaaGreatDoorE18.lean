/- writePAXHeader: the records; the whole. writePAXHeader: the whole. -/
import Derived.Test.YtpkilegnokajmaaGreatDoorA07
import Derived.Test.YtpkilegnokajmaaGreatDoorE16
import Derived.Test.YtpkilegnokajmaaGreatDoorA18
import Derived.Test.YtpkilegnokajmaaGreatDoorA20
import Derived.Lib.CleanLen
import Derived.BigQuiet
set_option linter.unusedVariables false
set_option linter.unusedSimpArgs false
set_option linter.unnecessarySimpa false
set_option linter.unusedSectionVars false
namespace Go.Proofs.YtpkilegnokajmaaGreatDoor
open Go.RowKit Go.Maps
/-- The records of a header, in the order of their keys. -/
def recL (D : DataW Unit) (ks : List (List UInt8)) : List UInt8 := (ks.map fun k => (recB ⟨k.toArray⟩ ⟨(sget D k).toArray⟩).data.toList).flatten
def paxData (D : DataW Unit) : List UInt8 := recL D (keysOf D)
theorem recL_step (D : DataW Unit) (K : List (List UInt8)) (i : Nat) (k : List UInt8) (h : K[i]? = some k) : recL D (K.take (i + 1)) = recL D (K.take i) ++ (recB ⟨k.toArray⟩ ⟨(sget D k).toArray⟩).data.toList := by
  unfold recL
  rw [List.take_add_one, h]
  simp
theorem recL_le (D : DataW Unit) (K : List (List UInt8)) (i : Nat) : (recL D (K.take i)).length ≤ (recL D K).length := by
  conv => rhs; rw [← List.take_append_drop i K]
  unfold recL
  rw [List.map_append, List.flatten_append, List.length_append]
  omega
theorem keysOf_has {w : World} {b n : Nat} {D : DataW Unit} (h : SM w b n D) {k : List UInt8} (hk : k ∈ keysOf D) : Maps.has D (.string k) = true ∧ k.length ≤ maxLen := by
  have h1 : k ∈ strKeys D := (List.mergeSort_perm _ _).mem_iff.1 hk
  refine ⟨?_, Go.strKeys_le h Tryz.underlying9 k h1⟩
  obtain ⟨es, rfl, hko⟩ := World.ownsMap.keysOf h
  obtain ⟨p, hp, rfl⟩ := List.mem_map.1 h1
  obtain ⟨v, hv⟩ := hko p hp
  obtain ⟨x, _, hx, _⟩ := Maps.keyOf_str Tryz.underlying9 hv
  rw [has_eq, List.any_eq_true]
  exact ⟨p, hp, by rw [hx]; simp [Lit.sameKey, strOf]⟩
theorem bldAt_below {T e : TypeId} {B b : Nat} {p : Value} {bs : List Value} {W W' : World} (h : Lib.BuilderAtF T e B b p bs W) (hb : Below W.heap.size W W') : Lib.BuilderAtF T e B b p bs W' := by
  have hlt := h.lt
  obtain ⟨hB, v, hv, hown, hne⟩ := h
  exact ⟨hB, v, (hb.block b hlt).trans hv, hown.kept (row := none) ⟨hb.os, hb.tape, hb.output, hb.size, fun k hk _ => hb.block k hk⟩ (Classical.em _), hne⟩
theorem bld_below {T e : TypeId} {B b : Nat} {bs : List Value} {W W' : World} (h : Lib.IsBuilderF T e B b bs W) (hb : Below W.heap.size W W') : Lib.IsBuilderF T e B b bs W' :=
  h.elim (fun x => .inl (bldAt_below x hb)) (fun x => .inr (bldAt_below x hb))
/-- The builder, the keys and what was there, in the loop over the keys. -/
structure PI (W0 : World) (D : DataW Unit) (ao : Option Addr) (i : Nat) (w : World) : Prop where
  bld : Lib.IsBuilderF 162 5 W0.heap.size W0.heap.size (Lib.byteCells (recL D ((keysOf D).take i))) w
  low : Below W0.heap.size W0 w
  keys : keysOf D ≠ [] → ∃ g, W0.heap.size < g ∧ ao = some ⟨g, 0, none⟩ ∧ ∃ cur fz, w.heap[g]? = some (.cells cur 9 fz) ∧ ∀ (j : Nat) k, (keysOf D)[j]? = some k → cur[j]? = some (Go.Proofs.encStr k)
section
variable {W0 w w1 : World} {D : DataW Unit} {ao : Option Addr} {i : Nat}
theorem PI.below (h : PI W0 D ao i w) (hb : Below w.heap.size w w1) : PI W0 D ao i w1 :=
  ⟨bld_below h.bld hb, h.low.trans (hb.mono h.low.size), fun hne => by
    obtain ⟨g, h1, h2, cur, fz, h3, h4⟩ := h.keys hne
    exact ⟨g, h1, h2, cur, fz, blk_below h3 hb, h4⟩⟩
theorem PI.put (h : PI W0 D ao i w) {k : List UInt8} (hk : (keysOf D)[i]? = some k) {p : Value} (hp : p = .pointer (some ⟨W0.heap.size, 0, none⟩))
    (h1 : Lib.BuilderAtF 162 5 W0.heap.size W0.heap.size p (Lib.byteCells (recL D ((keysOf D).take i)) ++ Lib.strCells (recB ⟨k.toArray⟩ ⟨(sget D k).toArray⟩)) w1) (h2 : Below W0.heap.size w w1) (h3 : Lib.OthersKept 5 (some W0.heap.size) w w1) : PI W0 D ao (i + 1) w1 :=
  ⟨.inr (by rw [recL_step D _ i k hk, Lib.byteCells_append]; rw [hp] at h1; exact h1), h.low.trans h2, fun hne => by
    obtain ⟨g, k1, k2, cur, fz, k3, k4⟩ := h.keys hne
    exact ⟨g, k1, k2, cur, fz, h3 g _ k3 (by simp; omega) (by intro c fz' he; cases he), k4⟩⟩
theorem PI.start {W : World} (hW : W = W0.alloc (.cells #[.pointer none, .slice none 0 0] 162 (0, 0))) (hb : Below W.heap.size W w)
    (hk : keysOf D ≠ [] → ∃ g, W.heap.size ≤ g ∧ ao = some ⟨g, 0, none⟩ ∧ ∃ cur fz, w.heap[g]? = some (.cells cur 9 fz) ∧ ∀ (j : Nat) k, (keysOf D)[j]? = some k → cur[j]? = some (Go.Proofs.encStr k)) : PI W0 D ao 0 w := by
  have hs : W.heap.size = W0.heap.size + 1 := by rw [hW]; simp
  refine ⟨?_, ?_, fun hne => ?_⟩
  · have h1 : Lib.IsBuilderF 162 5 W0.heap.size W0.heap.size [] W := by rw [hW]; exact Lib.IsBuilderF.of (Lib.fresh_isBuilder 162 5 W0)
    exact bld_below h1 hb
  · have h2 : Below W0.heap.size W0 W := by rw [hW]; exact (Below.refl _ _).alloc (Nat.le_refl _) _
    exact h2.trans (hb.mono (by omega))
  · obtain ⟨g, k1, k2, k3⟩ := hk hne
    exact ⟨g, by omega, k2, k3⟩
end
def paxNeeds (H : Hd) (D : DataW Unit) : Bool := decide (H.tf = 103) || decide (0 < Maps.size D)
def globName : ByteArray := ⟨#[71, 108, 111, 98, 97, 108, 72, 101, 97, 100, 46, 48, 46, 48]⟩
def paxDir : ByteArray := ⟨#[80, 97, 120, 72, 101, 97, 100, 101, 114, 115, 46, 48]⟩
def paxName (H : Hd) : ByteArray := if H.tf = 103 then (if H.name.toList.isEmpty then globName else H.name) else ⟨(Lib.Pa.joinL [(Lib.Pa.split H.name.data.toList).1, paxDir.data.toList, (Lib.Pa.split H.name.data.toList).2]).toArray⟩
def paxFlag (H : Hd) : UInt8 := if H.tf = 103 then 103 else 120
/-- The Writer behind the records. -/
def paxSt1 (s : WSt) (p : Nat) (H : Hd) (D : DataW Unit) : WSt := if paxNeeds H D then rawFileSt s p false (paxName H) ⟨(paxData D).toArray⟩ (paxFlag H) else s
def paxPad (p : Nat) (H : Hd) (D : DataW Unit) : Nat := if paxNeeds H D then (bpad (paxData D).length).toNat else p
def paxStAll (s : WSt) (p : Nat) (H : Hd) (D : DataW Unit) : WSt := if H.tf = 103 then paxSt1 s p H D else paxSt2 (paxSt1 s p H D) (paxPad p H D) H
def PaxPost (G : GlP) (B bw bb bc : Nat) (s : WSt) (p : Nat) (H : Hd) (D : DataW Unit) (w : World) (e : Ending) (w' : World) : Prop :=
  ((paxNeeds H D = true ∧ 1048576 < (paxData D).length) ∧ e = .returned (errV G.p4) ∧ Wr B bw bb bc s w' ∧ Fr B w w') ∨
  (¬ (paxNeeds H D = true ∧ 1048576 < (paxData D).length) ∧ e = .returned .nilIface ∧ ∃ bc', Wr B bw bb bc' (paxStAll s p H D) w' ∧ Fr B w w')
set_option maxRecDepth 100000 in
set_option maxHeartbeats 4000000 in
theorem pax_none (G : GlP) (B bw bb bc : Nat) (s : WSt) (w : World) (p : Nat) (H : Hd) (D : DataW Unit) (m n : Nat) (hgl : Gl G B w) (h : Wr B bw bb bc s w) (he : s.err = .nilIface) (hnb : s.nb ≤ 0) (hp : s.pad = (p : Int)) (hp2 : p ≤ 512) (hlim : s.out.length ≤ 17592186044416)
    (hs : s.hdr = H.cells) (ok : H.Ok) (hm : SM w m n D) (h103 : H.tf ≠ 103) (hz : Maps.size D = 0) :
    Calls Tryz.prog 38 #[.pointer (some ⟨bw, 0, none⟩), .pointer (some ⟨bw, 3, none⟩), .map (some m)] w (PaxPost G B bw bb bc s p H D w) := by
  have hfin := Asd.mk (fun (W : World) (h1 : W = w.drew) (Post : Ending → World → Prop) hpost => pax_fin G B bw bb bc s W p H (by rw [h1]; exact hgl.below (Below.drew (Below.refl _ _))) (by rw [h1]; exact h.below (Below.drew (Below.refl _ _))) he hnb hp hp2 hlim hs ok Post hpost)
  have hne : Asd (paxNeeds H D = false) := ⟨by unfold paxNeeds; rw [decide_eq_false h103, hz]; rfl⟩
  have c4 : w.cell? ⟨bw, 4, none⟩ = some (.string H.name) := h.chdr (j := 1) (by rw [hs]; rfl)
  have c6 : w.cell? ⟨bw, 6, none⟩ = some (.int .i64 H.size) := h.chdr (j := 3) (by rw [hs]; rfl)
  have c3 : w.cell? ⟨bw, 3, none⟩ = some (.int .u8 H.tf.toNat) := h.chdr (j := 0) (by rw [hs]; rfl)
  have hm2 : SM w.drew m n D := hm.below (Below.drew (Below.refl _ _))
  have hl := World.ownsMap.len hm2 Tryz.underlying97
  rw [hz] at hl
  clear hm2
  have f103 : ((H.tf.toNat : Int) == 103) = false := by
    rw [beq_eq_false_iff_ne]
    intro e
    exact h103 ((tf_nat H.tf 103 (by omega)).2 (by omega))
  have h103' := Asd.mk h103
  clear h103
  replace hz := Asd.mk hz
  replace hs := Asd.mk hs
  replace he := Asd.mk he
  replace hp := Asd.mk hp
  replace ok := Asd.mk ok
  go_enter Tryz.func38, Tryz.ntmps38
  show Code.wp Tryz.prog (code38 0) _ _ _
  rw [code38_0]
  conv => arg 2; arg 1; whnf
  conv => arg 2; arg 2; arg 1; whnf
  conv => arg 2; arg 2; arg 2; arg 1; whnf
  conv => arg 2; arg 2; arg 2; arg 2; arg 1; whnf
  conv => arg 2; arg 2; arg 2; arg 2; arg 2; arg 1; whnf
  obtain ⟨Q', hQ⟩ : ∃ Q', Asd (bodyPost Tryz.prog Tryz.f38 (PaxPost G B bw bb bc s p H D w) = Q') := ⟨_, ⟨rfl⟩⟩
  rw [hQ.out]
  go_wp2_with fail
  go_region
  all_goals (
    go_wp2_with fail
    rw [← hQ.out]
    refine hfin.out _ rfl _ ?_ _ _ _ _ _ _ _ _ _ _ _ _ _ _ _ _ _ _ _ _ _ _ _ _ _ _ _ _ _ _ _ _ _ _ _ _ _ _ _ _ _ _ _ _ _ _ _ _ _ _ _ _ _ _ _ _ _ _ _ _ _ _ _ _ _ _ _ _ _ _ _ _ _ _ _ _ _ _ _ _ _ _ _ _ _ _ _ _ _ _ _ _ _ _ _ _ _ _ _ _ _ _ _ _ _ _ _ _ _ _ _ _ _ _ _ _
    rintro w' ⟨bc', h1, h2⟩
    have e1 : paxStAll s p H D = paxSt2 s p H := (by unfold paxStAll paxSt1 paxPad; rw [if_neg h103'.out, hne.out]; rfl)
    exact .inr ⟨by rw [hne.out]; simp, rfl, bc', by rw [e1]; exact h1, ((Fr.refl B w).drewN 1).trans h2⟩)

theorem splitPath_size (s : ByteArray) : (⟨(Lib.Pa.split s.data.toList).1.toArray⟩ : ByteArray).size + (⟨(Lib.Pa.split s.data.toList).2.toArray⟩ : ByteArray).size = s.size := by
  unfold Lib.Pa.split
  show (List.take _ _).toArray.size + (List.drop _ _).toArray.size = s.data.size
  simp
  omega
theorem lens_three (a b c : ByteArray) : Lib.Pa.lens ([a, b, c].map (·.data.toList)) = a.size + b.size + c.size := by
  unfold Lib.Pa.lens
  simp
  show a.data.size + (b.data.size + c.data.size) = a.data.size + b.data.size + c.data.size
  omega
theorem three_cells (w : World) (a b c : ByteArray) : ∀ (j : Nat) x, [a, b, c][j]? = some x → (w.alloc (.cells #[.string a, .string b, .string c] 9 (0, 0))).cell? ⟨w.heap.size, 0 + j, none⟩ = some (.string x) := by
  intro j x hx
  have hb : (w.alloc (.cells #[.string a, .string b, .string c] 9 (0, 0))).heap[w.heap.size]? = some (.cells #[.string a, .string b, .string c] 9 (0, 0)) := heap_alloc_new w _
  rw [Lib.cell_of_heap hb]
  match j, hx with
  | 0, hx => simp at hx; subst hx; rfl
  | 1, hx => simp at hx; subst hx; rfl
  | 2, hx => simp at hx; subst hx; rfl
theorem meas_dec (K i : Nat) (h : i < K) : K - (intOf (Value.int .i64 ((i : Int) + 1))).toNat < K - (intOf (Value.int .i64 (i : Int))).toNat := by
  show K - ((i : Int) + 1).toNat < K - (i : Int).toNat
  omega
theorem paxName_size (H : Hd) (h : H.name.size ≤ 1073741824) : (paxName H).size ≤ 1073741924 := by
  unfold paxName
  split
  · split
    · show (14 : Nat) ≤ _; omega
    · omega
  · have h1 := Lib.Pa.joinL_length_le [(Lib.Pa.split H.name.data.toList).1, paxDir.data.toList, (Lib.Pa.split H.name.data.toList).2]
    have h2 := splitPath_size H.name
    have h3 : Lib.Pa.lens [(Lib.Pa.split H.name.data.toList).1, paxDir.data.toList, (Lib.Pa.split H.name.data.toList).2] = H.name.size + 12 := by
      rw [← h2]
      unfold Lib.Pa.lens
      have : paxDir.data.toList.length = 12 := rfl
      simp only [List.map_cons, List.map_nil, List.sum_cons, List.sum_nil, this]
      show _ = (List.toArray _).size + (List.toArray _).size + 12
      simp only [List.size_toArray]
      omega
    show (List.toArray _).size ≤ _
    simp only [List.size_toArray]
    rw [h3] at h1
    simp only [List.length_cons, List.length_nil] at h1
    omega
theorem take_all (K : List (List UInt8)) (i : Nat) (h : K.length ≤ i) : K.take i = K := List.take_of_length_le h
set_option maxRecDepth 100000 in
set_option maxHeartbeats 8000000 in
theorem pax_recs (G : GlP) (B bw bb bc : Nat) (s : WSt) (w : World) (p : Nat) (H : Hd) (D : DataW Unit) (m n : Nat) (hgl : Gl G B w) (h : Wr B bw bb bc s w) (he : s.err = .nilIface) (hnb : s.nb ≤ 0) (hp : s.pad = (p : Int)) (hp2 : p ≤ 512) (hlim : s.out.length ≤ 8796093022208)
    (hs : s.hdr = H.cells) (ok : H.Ok) (hm : SM w m n D) (hn : n ≤ 1073741824) (hall : AllRec D) (hDs : Small D) (hlen : (paxData D).length ≤ 1073741824) (hnd : paxNeeds H D = true) :
    Calls Tryz.prog 38 #[.pointer (some ⟨bw, 0, none⟩), .pointer (some ⟨bw, 3, none⟩), .map (some m)] w (PaxPost G B bw bb bc s p H D w) := by
  have hB := hgl.size
  have hnm := ok.name
  have c4 : w.cell? ⟨bw, 4, none⟩ = some (.string H.name) := h.chdr (j := 1) (by rw [hs]; rfl)
  have c6 : w.cell? ⟨bw, 6, none⟩ = some (.int .i64 H.size) := h.chdr (j := 3) (by rw [hs]; rfl)
  have c3 : w.cell? ⟨bw, 3, none⟩ = some (.int .u8 H.tf.toNat) := h.chdr (j := 0) (by rw [hs]; rfl)
  obtain ⟨g, hg⟩ : ∃ g, Asd (decide (H.tf = 103) = g) := ⟨_, ⟨rfl⟩⟩
  obtain ⟨sz, hsz⟩ : ∃ sz, Asd (Maps.size D = sz) := ⟨_, ⟨rfl⟩⟩
  have f103 : Asd (((H.tf.toNat : Int) == 103) = g) := by
    refine ⟨?_⟩
    rw [← hg.out]
    by_cases e : H.tf = 103
    · rw [e]; rfl
    · rw [decide_eq_false e, beq_eq_false_iff_ne]
      intro e2
      exact e ((tf_nat H.tf 103 (by omega)).2 (by omega))
  have hnd2 : Asd ((g || decide (0 < sz)) = true) := ⟨by rw [← hg.out, ← hsz.out]; exact hnd⟩
  replace hnd := Asd.mk hnd
  replace hs := Asd.mk hs
  replace he := Asd.mk he
  replace hp := Asd.mk hp
  replace ok := Asd.mk ok
  replace hall := Asd.mk hall
  go_enter Tryz.func38, Tryz.ntmps38
  show Code.wp Tryz.prog (code38 0) _ _ _
  rw [code38_0]
  conv => arg 2; arg 1; whnf
  conv => arg 2; arg 2; arg 1; whnf
  conv => arg 2; arg 2; arg 2; arg 1; whnf
  conv => arg 2; arg 2; arg 2; arg 2; arg 1; whnf
  conv => arg 2; arg 2; arg 2; arg 2; arg 2; arg 1; whnf
  obtain ⟨Q', hQ⟩ : ∃ Q', Asd (bodyPost Tryz.prog Tryz.f38 (PaxPost G B bw bb bc s p H D w) = Q') := ⟨_, ⟨rfl⟩⟩
  rw [hQ.out]
  go_wp2_with fail
  go_quiet (fail)
  have bd : Below w.heap.size w (w.drewN nq) := ⟨rfl, rfl, rfl, Nat.le_refl _, fun _ _ => rfl⟩
  have hm2 : SM (w.drewN nq) m n D := hm.below bd
  have h2 : Wr B bw bb bc s (w.drewN nq) := h.below bd
  have hgl2 : Gl G B (w.drewN nq) := hgl.below (bd.mono hB)
  have q2 : Fr B w (w.drewN nq) := (Fr.refl B w).drewN nq
  obtain ⟨W0, hW0⟩ : ∃ W0, Asd (W0 = w.drewN nq) := ⟨_, ⟨rfl⟩⟩
  rw [← hW0.out] at hm2 h2 hgl2 q2
  rw [← hW0.out]
  clear bd
  have c3b : W0.cell? ⟨bw, 3, none⟩ = some (.int .u8 H.tf.toNat) := h2.chdr (j := 0) (by rw [hs.out]; rfl)
  clear c3 c4 c6 h hm
  replace hgl := Asd.mk hgl
  have hl := World.ownsMap.len hm2 Tryz.underlying97
  rw [hsz.out] at hl
  have e1 := f103.out
  go_upto_region 4 with fail
  clear e1
  go_cut [44] from 39 to 44 (fun s44 wx => s44 = .bool true ∧ W0 = wx)
  case first =>
    cases g
    · have e2 : decide (0 < sz) = true := by have := hnd2.out; simpa using this
      have e3 : ((0 : Int) < sz) := by simp at e2; omega
      go_wp2_with fail
      go_meet
      case rel => exact ⟨rfl, rfl⟩
    · rcases Nat.eq_zero_or_pos sz with e2 | e2
      · have e3 : ¬ ((0 : Int) < sz) := by omega
        go_wp2_with fail
        go_meet
        case rel => exact ⟨rfl, rfl⟩
      · have e3 : ((0 : Int) < sz) := by omega
        go_wp2_with fail
        go_meet
        case rel => exact ⟨rfl, rfl⟩
  case rest =>
  obtain ⟨rfl, rfl⟩ := hcut
  clear hl c3b
  go_upto_region 6 with fail
  have hBW : B ≤ W0.heap.size := Nat.le_trans hB q2.size
  obtain ⟨W1, hW1⟩ : ∃ W1, Asd (W1 = W0.alloc (.cells #[.pointer none, .slice none 0 0] 162 (0, 0))) := ⟨_, ⟨rfl⟩⟩
  rw [← hW1.out]
  have b1 : Below W0.heap.size W0 W1 := by rw [hW1.out]; exact (Below.refl _ _).alloc (Nat.le_refl _) _
  have hm3 : SM W1 m n D := hm2.below b1
  have hs1 : Asd (W1.heap.size = W0.heap.size + 1) := ⟨by rw [hW1.out]; simp⟩
  go_wp2_with (first
    | (go_at_call 102; refine (keys_call m _).mono ?_; rintro e w1 ⟨rfl, rfl⟩)
    | (go_at_call 101; refine (sorted_call m n D _ hm3 hn).mono ?_; rintro e w5 ⟨ao, c, rfl, hc1, hc2, hb2, hk2⟩))
  have hpi : PI W0 D ao 0 w5 := PI.start hW1.out hb2 hk2
  clear hk2 hb2
  replace hW1 := Asd.mk hW1.out
  clear hm3
  replace hW0 := Asd.mk hW0.out
  have hpd : (recL D (keysOf D)).length = (paxData D).length := rfl
  replace hpd := Asd.mk hpd
  have hm2 := Asd.mk hm2
  have h2 := Asd.mk h2
  have hgl2 := Asd.mk hgl2
  go_loopw [6, 12, 13, 14, 49] (fun s6 _ _ _ s49 wr => s6 = .nilIface ∧ ∃ i : Nat, s49 = .int .i64 i ∧ i ≤ (keysOf D).length ∧ PI W0 D ao i wr) (fun _ _ _ _ s49 _ => (keysOf D).length - (intOf s49).toNat)
  case atStart => exact ⟨rfl, 0, rfl, Nat.zero_le _, hpi⟩
  case round =>
    obtain ⟨rfl, i, rfl, hi, hPI⟩ := hrel
    by_cases hlt : i < (keysOf D).length
    · obtain ⟨k, hk⟩ : ∃ k, (keysOf D)[i]? = some k := ⟨_, List.getElem?_eq_getElem hlt⟩
      have hne : keysOf D ≠ [] := by intro e; rw [e] at hlt; cases hlt
      obtain ⟨gk, hgk, rfl, cur, fz, hcur, hkeys⟩ := hPI.keys hne
      have ck : wr.cell? ⟨gk, i, none⟩ = some (.string ⟨k.toArray⟩) := by rw [Lib.cell_of_heap hcur]; exact hkeys i k hk
      clear hkeys hcur hne
      obtain ⟨hhas, hkl⟩ := keysOf_has hm2.out (List.mem_of_getElem? hk)
      have hget := getS_some hhas
      obtain ⟨hk1, hv1⟩ := hDs _ _ hget
      obtain ⟨v, hlk, hv2, hv3⟩ := (hm2.out.below hPI.low).look1 ⟨k.toArray⟩ (by show k.toArray.size ≤ _; simp; exact hkl)
      have hv : v = ⟨(sget D k).toArray⟩ := ba_ext (by rw [hv2])
      rw [hv] at hlk
      clear hv2 hv3 hv hhas hkl
      have hgr : Gl G B wr := hgl2.out.below (hPI.low.mono hBW)
      have hrec : Asd (vRec ⟨k.toArray⟩ ⟨(sget D k).toArray⟩ = true) := ⟨hall.out _ _ (by simpa using hget)⟩
      have hst : Asd ((Lib.byteCells (recL D ((keysOf D).take i))).length + (recB ⟨k.toArray⟩ ⟨(sget D k).toArray⟩).size ≤ 140737488355328) := by
        refine ⟨?_⟩
        have h1 := recL_le D (keysOf D) (i + 1)
        rw [recL_step D _ i k hk, List.length_append, hpd.out] at h1
        rw [Lib.byteCells_length]
        have h2 : (recB ⟨k.toArray⟩ ⟨(sget D k).toArray⟩).data.toList.length = (recB ⟨k.toArray⟩ ⟨(sget D k).toArray⟩).size := rfl
        omega
      have hget := Asd.mk hget
      have hk := Asd.mk hk
      have hlti : (i : Int) < (keysOf D).length := by omega
      have hw : Asd (wrap64 ((i : Int) + 1) = (i : Int) + 1) := ⟨by unfold wrap64; unfold maxLen at hc2; omega⟩
      have zk : (⟨k.toArray⟩ : ByteArray).size ≤ 1073741824 := by show k.toArray.size ≤ _; simp; exact hk1
      have zv : (⟨(sget D k).toArray⟩ : ByteArray).size ≤ 1073741824 := by show (sget D k).toArray.size ≤ _; simp; exact hv1
      go_wp2_with (first
        | (go_at_call 103; refine (fmtRec_any hgr _ _ zk zv hrec.out).mono ?_; rintro e w6 ⟨rfl, f6⟩; have hP6 := hPI.below f6)
        | (go_at_call 104; refine (ws_any W0.heap.size W0.heap.size _ _ _ hP6.bld hst.out hP6.low.size).mono ?_; rintro e w7 ⟨rfl, k7, l7, o7⟩; have hP7 := hP6.put hk.out rfl k7 l7 o7))
      go_roundw
      case rel => exact ⟨rfl, i + 1, by rw [hw.out]; rfl, hlt, hP7⟩
      case measure =>
        rw [hw.out]
        exact meas_dec _ _ hlt
    · have hbl : Lib.IsBuilderF 162 5 W0.heap.size W0.heap.size (Lib.byteCells (paxData D)) wr := by have := hPI.bld; rw [take_all _ _ (by omega)] at this; exact this
      have hrl := hPI.low
      have hge : ¬ ((i : Int) < (keysOf D).length) := by omega
      clear hPI hpi hlt
      go_upto_if 67 with fail
      clear hge
      have hsn := splitPath_size H.name
      obtain ⟨A1, hA1⟩ : ∃ A, Asd (A = (⟨(Lib.Pa.split H.name.data.toList).1.toArray⟩ : ByteArray)) := ⟨_, ⟨rfl⟩⟩
      obtain ⟨A2, hA2⟩ : ∃ A, Asd (A = (⟨(Lib.Pa.split H.name.data.toList).2.toArray⟩ : ByteArray)) := ⟨_, ⟨rfl⟩⟩
      rw [← hA1.out, ← hA2.out] at hsn
      go_cut [15, 16, 17, 18] from 68 to 79 (fun s15 s16 _ _ wx => s15 = .string (paxName H) ∧ s16 = .int .u8 (paxFlag H).toNat ∧ Below wr.heap.size wr wx)
      case first =>
        cases g
        · have h103 : H.tf ≠ 103 := of_decide_eq_false hg.out
          have eN : Asd (paxName H = ⟨(Lib.Pa.joinL ([A1, paxDir, A2].map (·.data.toList))).toArray⟩) := ⟨by unfold paxName; rw [if_neg h103, hA1.out, hA2.out]; rfl⟩
          have eF : Asd (paxFlag H = 120) := ⟨by unfold paxFlag; rw [if_neg h103]⟩
          clear h103
          go_wp2_with (first
            | (go_at_call 105; refine (Tryz.path_Split H.name _ (by omega)).mono ?_; rw [← hA1.out, ← hA2.out]; rintro e w6 ⟨rfl, nq2, hw6⟩; have f6 : Below wr.heap.size wr w6 := (by rw [hw6]; exact ⟨rfl, rfl, rfl, Nat.le_refl _, fun _ _ => rfl⟩); clear hw6)
            | (go_at_call 106; refine (Tryz.path_Join w6.heap.size 0 3 [A1, paxDir, A2] _ (three_cells w6 A1 paxDir A2) (by simp) (by rw [lens_three]; have : paxDir.size = 12 := rfl; simp only [List.length_cons, List.length_nil]; omega)).mono ?_; rw [← eN.out]; rintro e w8 ⟨rfl, f8⟩))
          go_meet
          case rel => exact ⟨rfl, by rw [eF.out]; rfl, f6.trans (((Below.refl w6.heap.size w6).alloc (Nat.le_refl _) _).mono f6.size |>.trans (f8.mono (by have := f6.size; simp; omega)))⟩
        · have h103 : H.tf = 103 := of_decide_eq_true hg.out
          have eF : Asd (paxFlag H = 103) := ⟨by unfold paxFlag; rw [if_pos h103]⟩
          rcases (Bool.eq_false_or_eq_true (H.name.toList.isEmpty)) with hem | hem
          · have eN : Asd (paxName H = globName) := ⟨by unfold paxName; rw [if_pos h103, hem]; rfl⟩
            clear h103
            go_wp2_with fail
            go_meet
            case rel => exact ⟨by rw [eN.out]; rfl, by rw [eF.out]; rfl, Below.refl _ _⟩
          · have eN : Asd (paxName H = H.name) := ⟨by unfold paxName; rw [if_pos h103, hem]; rfl⟩
            clear h103
            go_wp2_with fail
            go_meet
            case rel => exact ⟨by rw [eN.out], by rw [eF.out]; rfl, Below.refl _ _⟩
      case rest =>
      obtain ⟨rfl, rfl, f9⟩ := hcut
      have hb9 : Lib.IsBuilderF 162 5 W0.heap.size W0.heap.size (Lib.byteCells (paxData D)) wc := bld_below hbl f9
      have l9 : Below W0.heap.size W0 wc := hrl.trans (f9.mono hrl.size)
      clear hbl hrl f9 hsn hA1 hA2
      have hpn : (paxName H).size ≤ 1073741924 := paxName_size H hnm
      have hpf : Asd (hdrOnly (paxFlag H) = false) := ⟨by unfold paxFlag; split <;> rfl⟩
      obtain ⟨X, hX⟩ : ∃ X, Asd (X = (⟨(paxData D).toArray⟩ : ByteArray)) := ⟨_, ⟨rfl⟩⟩
      have hXs : Asd ((paxData D).length = X.size) := ⟨by rw [hX.out]; show _ = (paxData D).toArray.size; simp⟩
      rw [hXs.out] at hlen
      obtain ⟨PN, hPN⟩ : ∃ PN, Asd (PN = paxName H) := ⟨_, ⟨rfl⟩⟩
      obtain ⟨PF, hPF⟩ : ∃ PF, Asd (PF = paxFlag H) := ⟨_, ⟨rfl⟩⟩
      rw [← hPN.out] at hpn
      rw [← hPN.out, ← hPF.out]
      rw [← hPF.out] at hpf
      by_cases hbig : 1048576 < X.size
      · have hbi : ((1048576 : Int) < X.size) := by omega
        go_wp2_with (go_at_call 107; refine (Tryz.Builder_String_any_k W0.heap.size W0.heap.size (paxData D) _ hb9 l9.size).mono ?_; rw [← hX.out]; rintro e w10 ⟨rfl, _, l10, _⟩; have lA := l9.trans l10; have hc4 := (hgl2.out.below (lA.mono hBW)).c4)
        rw [← hQ.out]
        go_ret
        exact .inl ⟨⟨hnd.out, by rw [hXs.out]; exact hbig⟩, rfl, h2.out.below lA, q2.trans (Fr.of_below lA hBW)⟩
      · have hbi : ¬ ((1048576 : Int) < X.size) := by omega
        have eP : Asd (paxSt1 s p H D = rawFileSt s p false PN X PF) := ⟨by unfold paxSt1; rw [hnd.out, hPN.out, hX.out, hPF.out]; rfl⟩
        have eB : Asd ((paxPad p H D : Int) = bpad X.size) := ⟨by unfold paxPad; rw [hnd.out, hXs.out]; show ((bpad _).toNat : Int) = _; have := bpad_range X.size; omega⟩
        have hno : Asd (¬ (paxNeeds H D = true ∧ 1048576 < (paxData D).length)) := ⟨by rw [hXs.out]; intro h; exact hbig h.2⟩
        have hraw := Asd.mk (fun (W : World) (hg : Gl G B W) (hw : Wr B bw bb bc s W) => rawFile_4 G B bw bb bc s W p PN X PF hg hw he.out hnb hp.out hp2 (by omega) (by omega) hlen hpf.out)
        cases g
        · have h103 : Asd (H.tf ≠ 103) := ⟨of_decide_eq_false hg.out⟩
          go_wp2_with (first
            | (go_at_call 107; refine (Tryz.Builder_String_any_k W0.heap.size W0.heap.size (paxData D) _ hb9 l9.size).mono ?_; rw [← hX.out]; rintro e w10 ⟨rfl, _, l10, _⟩; have lA := l9.trans l10; have hgA := hgl2.out.below (lA.mono hBW); have hwA := h2.out.below lA)
            | (go_at_call 108; refine (hraw.out _ hgA hwA).mono ?_; rintro e w11 ⟨rfl, bc', h11, q11⟩))
          have qA : Fr B w w11 := (q2.trans (Fr.of_below lA hBW)).trans q11
          rw [← eP.out] at h11
          have hol : (paxSt1 s p H D).out.length ≤ 17592186044416 := by rw [eP.out, rawFileSt_len]; omega
          have hpd1 : (paxSt1 s p H D).pad = (paxPad p H D : Int) := by rw [eB.out, eP.out]; rfl
          have her1 : (paxSt1 s p H D).err = .nilIface := by rw [eP.out]; exact he.out
          have hnb1 : (paxSt1 s p H D).nb ≤ 0 := by rw [eP.out]; exact Int.le_refl 0
          have hhd1 : (paxSt1 s p H D).hdr = H.cells := by rw [eP.out]; exact hs.out
          rw [← hQ.out]
          refine pax_fin G B bw bb bc' (paxSt1 s p H D) w11 (paxPad p H D) H (qA.gl hgl.out) h11 her1 hnb1 hpd1 (by have := bpad_range X.size; have := eB.out; omega) hol hhd1 ok.out _ ?_ _ _ _ _ _ _ _ _ _ _ _ _ _ _ _ _ _ _ _ _ _ _ _ _ _ _ _ _ _ _ _ _ _ _ _ _ _ _ _ _ _ _ _ _ _ _ _ _ _ _ _ _ _ _ _ _ _ _ _ _ _ _ _ _ _ _ _ _ _ _ _ _ _ _ _ _ _ _ _ _ _ _ _ _ _ _ _ _ _ _ _ _ _ _ _ _ _ _ _ _ _ _ _ _ _ _ _ _ _ _ _ _ _ _ _ _
          rintro w' ⟨bc2, h12, q12⟩
          have e1 : paxStAll s p H D = paxSt2 (paxSt1 s p H D) (paxPad p H D) H := by unfold paxStAll; rw [if_neg h103.out]
          exact .inr ⟨hno.out, rfl, bc2, by rw [e1]; exact h12, qA.trans q12⟩
        · have h103 : Asd (H.tf = 103) := ⟨of_decide_eq_true hg.out⟩
          go_wp2_with (first
            | (go_at_call 107; refine (Tryz.Builder_String_any_k W0.heap.size W0.heap.size (paxData D) _ hb9 l9.size).mono ?_; rw [← hX.out]; rintro e w10 ⟨rfl, _, l10, _⟩; have lA := l9.trans l10; have hgA := hgl2.out.below (lA.mono hBW); have hwA := h2.out.below lA)
            | (go_at_call 108; refine (hraw.out _ hgA hwA).mono ?_; rintro e w11 ⟨rfl, bc', h11, q11⟩))
          have qA : Fr B w w11 := (q2.trans (Fr.of_below lA hBW)).trans q11
          rw [← eP.out] at h11
          rw [← hQ.out]
          go_ret
          have e1 : paxStAll s p H D = paxSt1 s p H D := by unfold paxStAll; rw [if_pos h103.out]
          exact .inr ⟨hno.out, rfl, bc', by rw [e1]; exact h11, qA⟩
theorem pax_any (G : GlP) (B bw bb bc : Nat) (s : WSt) (w : World) (p : Nat) (H : Hd) (D : DataW Unit) (m n : Nat) (hgl : Gl G B w) (h : Wr B bw bb bc s w) (he : s.err = .nilIface) (hnb : s.nb ≤ 0) (hp : s.pad = (p : Int)) (hp2 : p ≤ 512) (hlim : s.out.length ≤ 8796093022208)
    (hs : s.hdr = H.cells) (ok : H.Ok) (hm : SM w m n D) (hn : n ≤ 1073741824) (hall : AllRec D) (hDs : Small D) (hlen : (paxData D).length ≤ 1073741824) :
    Calls Tryz.prog 38 #[.pointer (some ⟨bw, 0, none⟩), .pointer (some ⟨bw, 3, none⟩), .map (some m)] w (PaxPost G B bw bb bc s p H D w) := by
  cases hnd : paxNeeds H D with
  | true => exact pax_recs G B bw bb bc s w p H D m n hgl h he hnb hp hp2 hlim hs ok hm hn hall hDs hlen hnd
  | false =>
    unfold paxNeeds at hnd
    simp only [Bool.or_eq_false_iff, decide_eq_false_iff_not] at hnd
    exact pax_none G B bw bb bc s w p H D m n hgl h he hnb hp hp2 (by omega) hs ok hm hnd.1 (by omega)
end Go.Proofs.YtpkilegnokajmaaGreatDoor
