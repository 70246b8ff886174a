/- What the listed variables hold, for the walks. The argument as it came in. -/
import Derived.Test.YtpkilegnokajmaaGreatDoorE26
import Derived.LaidLaws
import Derived.LaidMore
import Derived.MakeChecks
import Derived.Lib.LaidTab
import Derived.ProofKit
import Derived.Stop.LaidErr
import Derived.OpenShut
import Derived.Deep.Slices
import Derived.Deep.SlicePairs
set_option linter.unusedVariables false
set_option linter.unusedSimpArgs false
set_option linter.unnecessarySimpa false
set_option linter.unusedSectionVars false
namespace Go.Proofs.YtpkilegnokajmaaGreatDoor
open Go.ChangeShapes Go.WideShapes Go.ChangeAt Go.WideMaps Go.WideElems Go.RowKit Go.Maps
theorem gN0 : Tryz.prog.globalNamed "tapearchives/pub/gotar.ErrWriteTooLong" = some 0 := by kernel_rfl
theorem gN1 : Tryz.prog.globalNamed "tapearchives/pub/gotar.ErrWriteAfterClose" = some 1 := by kernel_rfl
theorem gN2 : Tryz.prog.globalNamed "io.EOF" = some 2 := by kernel_rfl
theorem gN3 : Tryz.prog.globalNamed "tapearchives/pub/gotar.ErrHeader" = some 3 := by kernel_rfl
theorem gN4 : Tryz.prog.globalNamed "tapearchives/pub/gotar.ErrFieldTooLong" = some 4 := by kernel_rfl
theorem gN5 : Tryz.prog.globalNamed "io.ErrUnexpectedEOF" = some 5 := by kernel_rfl
theorem gN6 : Tryz.prog.globalNamed "tapearchives/pub/gotar.ErrInsecurePath" = some 6 := by kernel_rfl
theorem gN7 : Tryz.prog.globalNamed "tapearchives/pub/gotar.basicKeys" = some 7 := by kernel_rfl
theorem gN9 : Tryz.prog.globalNamed "internal/strconv.uint64pow10" = some 9 := by kernel_rfl
theorem gN10 : Tryz.prog.globalNamed "math/bits.deBruijn32tab" = some 10 := by kernel_rfl
theorem gN11 : Tryz.prog.globalNamed "math/bits.deBruijn64tab" = some 11 := by kernel_rfl
theorem gT0 : (Tryz.prog.globals[0]?).map (·.type) = some 67 := by kernel_rfl
theorem gT1 : (Tryz.prog.globals[1]?).map (·.type) = some 67 := by kernel_rfl
theorem gT2 : (Tryz.prog.globals[2]?).map (·.type) = some 67 := by kernel_rfl
theorem gT3 : (Tryz.prog.globals[3]?).map (·.type) = some 67 := by kernel_rfl
theorem gT4 : (Tryz.prog.globals[4]?).map (·.type) = some 67 := by kernel_rfl
theorem gT5 : (Tryz.prog.globals[5]?).map (·.type) = some 67 := by kernel_rfl
theorem gT6 : (Tryz.prog.globals[6]?).map (·.type) = some 67 := by kernel_rfl
theorem star182 : "*" ++ "errors.errorString" = "*errors.errorString" := by decide
theorem row182 (u : TypeId) (h : Tryz.prog.typeName? 3 u = some "*errors.errorString") : u = 182 :=
  typeName_ptr_named (nm := "errors.errorString") (by rw [star182]; kernel_rfl) (by kernel_rfl) (by decide) u (by rw [star182]; exact h)
theorem gT7 : (Tryz.prog.globals[7]?).map (·.type) = some 153 := by kernel_rfl
theorem gT9 : (Tryz.prog.globals[9]?).map (·.type) = some 234 := by kernel_rfl
theorem gT11 : (Tryz.prog.globals[11]?).map (·.type) = some 258 := by kernel_rfl
def tab64 : List Int := [0, 1, 56, 2, 57, 49, 28, 3, 61, 58, 42, 50, 38, 29, 17, 4, 62, 47, 59, 36, 45, 43, 51, 22, 53, 39, 33, 30, 24, 18, 12, 5, 63, 55, 48, 27, 60, 41, 37, 16, 46, 35, 44, 21, 52, 32, 23, 11, 54, 26, 40, 15, 34, 20, 31, 10, 25, 14, 19, 9, 13, 8, 7, 6]
theorem cells184 : Tryz.prog.cellsOf 184 = 1 := by kernel_rfl
theorem cells9 : Tryz.prog.cellsOf 9 = 1 := by kernel_rfl
section
variable {W : World}
set_option maxRecDepth 100000 in
theorem sent2 {n : String} {text : List UInt8} {r : List (String × DataW Unit)} {g : Nat} (h : laidMet Tryz.prog ((n, .iface "*errors.errorString" (.ptr (.agg [.lit (.string text)]))) :: r) W)
    (hg : Tryz.prog.globalNamed n = some g) (ht : (Tryz.prog.globals[g]?).map (·.type) = some 67) :
    ∃ a s, W.cell? ⟨g, 0, none⟩ = some (errV a) ∧ W.cell? a = some (.string s) ∧ s.data.toList = text ∧ a.block < W.heap.size ∧ ∃ c t, W.heap[a.block]? = some (.cells c t (0, 0)) := by
  obtain ⟨ps, ⟨g0, t0, cs0, f0, p0, q0, hg0, ht0, hv0, hd0, _, e0⟩, _, hrows⟩ := h
  obtain rfl := Option.some.inj (hg.symm.trans hg0)
  obtain rfl := Option.some.inj (ht.symm.trans ht0)
  subst e0
  obtain ⟨l0⟩ := cs0
  have ok0 : ∀ u v, l0 = [.iface u v] → Value.okWide Tryz.prog W .any 0 u v := fun u v e => by
    subst e
    exact (hrows g 0 (by simp [MemPlace.row])).2 u v (by simpa using World.var?_cell hg0 hv0 0)
  obtain ⟨a0, s0, rfl, hc0, hs0, hz0, rfl⟩ := errorString_of_trod Tryz.underlying67 row182 Tryz.underlying182 Tryz.underlying184 rfl rfl Tryz.underlying9 cells184 cells9 hd0 ok0
  obtain ⟨c, t, hb⟩ := (hrows a0.block a0.off (by simp [MemPlace.row])).1
  exact ⟨a0, s0, by simpa [errV] using World.var?_cell hg0 hv0 0, hc0, hs0, blk_lt hb, c, t, hb⟩
theorem ne_of_text {a b : Addr} {s t : ByteArray} (ha : W.cell? a = some (.string s)) (hb : W.cell? b = some (.string t)) (hne : s.data.toList ≠ t.data.toList) : a ≠ b := by
  rintro rfl
  rw [ha] at hb
  injection hb with hb
  injection hb with hb
  exact hne (by rw [hb])
set_option maxRecDepth 100000 in
theorem of_laid (h : laidMetH Tryz.prog Rows.fnScriptUptoRow.laid W) (hsz : 16 ≤ W.heap.size) : ∃ G, Gl G W.heap.size W ∧ Es G W.heap.size W := by
  rw [MakeChecks.laidMetH_plain _ _ _ (by kernel_rfl)] at h
  have h1 := laidMet.tail h
  have h2 := laidMet.tail h1
  have h3 := laidMet.tail h2
  have h4 := laidMet.tail h3
  have h5 := laidMet.tail h4
  have h6 := laidMet.tail h5
  have h7 := laidMet.tail h6
  have h8 := laidMet.tail h7
  have h9 := laidMet.tail h8
  have h10 := laidMet.tail h9
  obtain ⟨a2, s2, c2, d2, e2, l2, k2⟩ := sent2 h3 gN2 gT2
  obtain ⟨a5, s5, c5, d5, e5, l5, k5⟩ := sent2 h4 gN5 gT5
  obtain ⟨a3, s3, c3, d3, e3, l3, k3⟩ := sent2 h5 gN3 gT3
  obtain ⟨a0, s0, c0, d0, e0, l0, k0⟩ := sent2 h6 gN0 gT0
  obtain ⟨a4, s4, c4, d4, e4, l4, k4⟩ := sent2 h7 gN4 gT4
  obtain ⟨a1, s1, c1, d1, e1, l1, k1⟩ := sent2 h8 gN1 gT1
  obtain ⟨a6, s6, c6, d6, e6, l6, k6⟩ := sent2 h9 gN6 gT6
  have hp := Lib.tabIs_of_head (k := .u64) (zs := Lib.pow10Tab) gN9 gT9 Tryz.underlying234 Tryz.underlying94 (by kernel_rfl) (by kernel_rfl) h2
  have h64 := Lib.tabIs_of_head (k := .u8) (zs := tab64) gN11 gT11 Tryz.underlying258 Tryz.underlying5 (by kernel_rfl) (by kernel_rfl) h1
  have t7 : W.cell? ⟨11, 7, none⟩ = some (.int .u8 3) := h64.cell gN11 7 (by decide)
  obtain ⟨ps, ⟨g, t, cs, f, p, q, hg, ht, hv, hd, _, e9'⟩, _, _⟩ := h10
  obtain rfl := Option.some.inj (gN7.symm.trans hg)
  obtain rfl := Option.some.inj (gT7.symm.trans ht)
  rcases WideElems.open_map Tryz.underlying153 hd with ⟨_, hx⟩ | ⟨bm, es, clock, m, _, hcs, hb, _, F, hx⟩
  · simp [Rows.laid_tapearchives_pub_gotar_basicKeys] at hx
  simp only [Prod.mk.injEq] at hx
  have hom := World.ownsMap_of_fit (R := plainElem (H := Unit) Tryz.prog 4) hb F (fun x _ z hz => by obtain ⟨b, hb1, rfl⟩ := elemAt_bool Tryz.underlying4 hz; rw [hb1]; exact plainElem_bool Tryz.underlying4 b)
  have hlen : es.size = 10 := by
    have h1 := hx.1
    unfold Rows.laid_tapearchives_pub_gotar_basicKeys at h1
    injection h1 with h1
    have h2 := congrArg List.length h1
    rw [DataW.length_sorted] at h2
    simp at h2
    omega
  rw [← hx.1, hlen] at hom
  have hcell : W.cell? ⟨7, 0, none⟩ = some (.map (some bm)) := by
    have := World.var?_cell hg hv 0
    rw [Array.eq_one_of_toList hcs] at this
    simpa using this
  refine ⟨⟨a0, a1, a2, a3, a4, a5, a6, bm⟩, ⟨hsz, Nat.le_refl _, c0, c1, c2, c3, c4, c5, c6, t7, hp, hcell, ?_, hom⟩, ⟨⟨l0, k0⟩, ⟨l1, k1⟩, ⟨l2, k2⟩, ⟨l3, k3⟩, ⟨l4, k4⟩, ⟨l5, k5⟩, ⟨l6, k6⟩, ?_, ?_, ?_, ?_, ?_, ?_, ?_, ?_, ?_, ?_, ?_, ?_, ?_, ?_, ?_, ?_, ?_, ?_, ?_, ?_, ?_⟩⟩
  · exact (Array.getElem?_eq_some_iff.1 hb).1
  · exact ne_of_text d0 d1 (by rw [e0, e1]; decide)
  · exact ne_of_text d0 d2 (by rw [e0, e2]; decide)
  · exact ne_of_text d0 d3 (by rw [e0, e3]; decide)
  · exact ne_of_text d0 d4 (by rw [e0, e4]; decide)
  · exact ne_of_text d0 d5 (by rw [e0, e5]; decide)
  · exact ne_of_text d0 d6 (by rw [e0, e6]; decide)
  · exact ne_of_text d1 d2 (by rw [e1, e2]; decide)
  · exact ne_of_text d1 d3 (by rw [e1, e3]; decide)
  · exact ne_of_text d1 d4 (by rw [e1, e4]; decide)
  · exact ne_of_text d1 d5 (by rw [e1, e5]; decide)
  · exact ne_of_text d1 d6 (by rw [e1, e6]; decide)
  · exact ne_of_text d2 d3 (by rw [e2, e3]; decide)
  · exact ne_of_text d2 d4 (by rw [e2, e4]; decide)
  · exact ne_of_text d2 d5 (by rw [e2, e5]; decide)
  · exact ne_of_text d2 d6 (by rw [e2, e6]; decide)
  · exact ne_of_text d3 d4 (by rw [e3, e4]; decide)
  · exact ne_of_text d3 d5 (by rw [e3, e5]; decide)
  · exact ne_of_text d3 d6 (by rw [e3, e6]; decide)
  · exact ne_of_text d4 d5 (by rw [e4, e5]; decide)
  · exact ne_of_text d4 d6 (by rw [e4, e6]; decide)
  · exact ne_of_text d5 d6 (by rw [e5, e6]; decide)
end
end Go.Proofs.YtpkilegnokajmaaGreatDoor
namespace Go.Proofs.YtpkilegnokajmaaGreatDoor
open Go.ChangeShapes Go.WideShapes Go.ChangeAt Go.RowKit
section
variable {H : Type} {enc : TypeId × Value → H} {w : World} {base : Nat} {sp : Nat → Bool} {held : Bool} {fuel : Nat} {cs : List Value} {x : DataW H × List MemPlace}
theorem cellsOf29 : Tryz.prog.cellsOf 29 = 2 := by kernel_rfl
theorem cellsOf2 : Tryz.prog.cellsOf 2 = 1 := by kernel_rfl
set_option maxRecDepth 100000 in
theorem open_time (h : DataW.trod enc Tryz.prog w base sp held fuel 29 cs = some x) : ∃ s n, cs = [.int .i64 s, .int .i64 n] ∧ i64R s ∧ i64R n := by
  obtain ⟨xs, n, _, hx, hl, hxs, hf⟩ := DataW.trod_struct Tryz.underlying29 h
  rw [cellsOf29] at hl
  have h0 := hf 0 _ rfl
  have h1 := hf 1 _ rfl
  match xs, hxs, h0, h1 with
  | [x0, x1], _, h0, h1 =>
    match cs, hl, h0, h1 with
    | [c0, c1], _, h0, h1 =>
      simp [cellsOf2] at h0 h1
      obtain ⟨a, e1, _, w1⟩ := DataW.trod_int Tryz.underlying2 h0
      obtain ⟨b, e2, _, w2⟩ := DataW.trod_int Tryz.underlying2 h1
      simp only [List.cons.injEq, and_true] at e1 e2
      subst e1 e2
      exact ⟨a, b, rfl, bounds_i64 w1, bounds_i64 w2⟩
theorem bulk_mem {d : DataW H} : ∀ {l : List (DataW H)}, d ∈ l → Rows.uptoBulk d ≤ Rows.uptoBulkAll l
  | x :: r, h => by
    simp only [Rows.uptoBulkAll]
    rcases List.mem_cons.1 h with rfl | h
    · omega
    · have := bulk_mem h; omega
theorem bulk_str (l : List UInt8) : Rows.uptoBulk (DataW.lit (H := H) (.string l)) = l.length + 1 := by simp [Rows.uptoBulk]
theorem bulk_pos (d : DataW H) : 1 ≤ Rows.uptoBulk d := by
  cases d with
  | lit l => cases l <;> simp [Rows.uptoBulk]
  | _ => simp [Rows.uptoBulk]
theorem bulk_len : ∀ l : List (DataW H), l.length ≤ Rows.uptoBulkAll l
  | [] => Nat.zero_le _
  | x :: r => by have := bulk_pos x; have := bulk_len r; simp only [Rows.uptoBulkAll, List.length_cons]; omega
theorem tot_bulk (f : Nat → ByteArray × ByteArray) (g : Nat → DataW H) : ∀ l : List Nat, (∀ i ∈ l, (f i).1.size + (f i).2.size + 24 ≤ 24 * Rows.uptoBulk (g i)) → totR (l.map f) ≤ 24 * Rows.uptoBulkAll (l.map g)
  | [], _ => Nat.zero_le _
  | i :: l, h => by
    have h1 := h i (List.mem_cons_self ..)
    have h2 := tot_bulk f g l (fun j hj => h j (List.mem_cons_of_mem _ hj))
    rw [List.map_cons, List.map_cons, totR_cons]
    simp only [Rows.uptoBulkAll]
    omega
theorem spot_of {a : Addr} {k : Nat} {v : Value} (h : w.cell? (a.add (0 * k)) = some v) : a.spot = none ∧ a.block < w.heap.size := by
  rw [Nat.zero_mul] at h
  have e : a.add 0 = a := rfl
  rw [e] at h
  unfold World.cell? at h
  split at h
  · next c t f hb =>
    refine ⟨?_, (Array.getElem?_eq_some_iff.1 hb).1⟩
    cases hs : a.spot with
    | none => rfl
    | some s => rw [hs] at h; simp at h
  · cases h
theorem add_none (b o k : Nat) : (⟨b, o, none⟩ : Addr).add k = ⟨b, o + k, none⟩ := by unfold Addr.add; split <;> simp_all
theorem cells115 : Tryz.prog.cellsOf 115 = 2 := by kernel_rfl
theorem cells9' : Tryz.prog.cellsOf 9 = 1 := by kernel_rfl
set_option maxRecDepth 100000 in
theorem open_recs (h : DataW.trod enc Tryz.prog w base sp held fuel 30 cs = some x) : ∃ a n c rs, cs = [.slice a n c] ∧ RecI w.heap.size w a n rs ∧ n ≤ c ∧ c ≤ maxLen ∧ totR rs ≤ 24 * Rows.uptoBulk x.1 ∧ ∀ kv ∈ rs, kv.1.size ≤ Rows.uptoBulk x.1 ∧ kv.2.size ≤ Rows.uptoBulk x.1 := by
  rcases Go.Deep.open_slice_pairs Tryz.underlying30 Tryz.underlying115 cells115 rfl rfl cells9' cells9' h with ⟨rfl, rfl⟩ | ⟨a, len, cap, m, n, V0, V1, D0, D1, P0, P1, rfl, hb, hl, hm, hmm, rfl, hx⟩
  · exact ⟨none, 0, 0, [], rfl, ⟨rfl, .inl rfl⟩, Nat.le_refl _, by unfold maxLen; omega, Nat.zero_le _, fun kv h => by cases h⟩
  · have hlm : len ≤ m := by rw [hmm]; split <;> omega
    have each : ∀ i, i < len → ∃ q : ByteArray × ByteArray, w.cell? (a.add (i * 2)) = some (.string q.1) ∧ w.cell? (a.add (i * 2 + 1)) = some (.string q.2) ∧ D0 i = .lit (.string q.1.data.toList) ∧ D1 i = .lit (.string q.2.data.toList) := by
      intro i hi
      obtain ⟨h1, h2, h3, h4⟩ := hx i (by omega)
      obtain ⟨k, e1, e2, _⟩ := DataW.trod_string Tryz.underlying9 h3
      obtain ⟨v, e3, e4, _⟩ := DataW.trod_string Tryz.underlying9 h4
      simp only [List.cons.injEq, and_true] at e1 e3
      rw [e1] at h1
      rw [e3] at h2
      simp only [Prod.mk.injEq] at e2 e4
      exact ⟨(k, v), h1, h2, e2.1, e4.1⟩
    obtain ⟨q, hq⟩ := Go.Deep.choose_lt each
    have hsz : ∀ s : ByteArray, s.data.toList.length = s.size := fun s => by rw [Array.length_toList]; rfl
    have hel : ∀ i, i < len → Rows.uptoBulk (DataW.agg [D0 i, D1 i]) = (q i).1.size + (q i).2.size + 3 := by
      intro i hi
      obtain ⟨_, _, e1, e2⟩ := hq i hi
      rw [e1, e2]
      simp only [Rows.uptoBulk, Rows.uptoBulkAll, hsz]
      omega
    have hall : Rows.uptoBulkAll ((List.range len).map fun i => DataW.agg [D0 i, D1 i]) + 1 ≤ Rows.uptoBulk (DataW.slice ((List.range len).map fun i => DataW.agg [D0 i, D1 i]) ((List.range (m - len)).map fun j => DataW.agg [D0 (len + j), D1 (len + j)])) := by
      simp only [Rows.uptoBulk]; omega
    refine ⟨some a, len, cap, (List.range len).map q, rfl, ⟨by simp, ?_⟩, hl, hm, ?_, ?_⟩
    · by_cases h0 : len = 0
      · exact .inl h0
      · obtain ⟨hs, hlt⟩ := spot_of (hq 0 (by omega)).1
        obtain ⟨b, o, spt⟩ := a
        simp only at hs
        subst hs
        refine .inr ⟨b, o, rfl, hlt, fun j kv hj => ?_⟩
        have hjl : j < len := by have := (List.getElem?_eq_some_iff.1 hj).1; simpa using this
        have e : kv = q j := by
          rw [List.getElem?_map, List.getElem?_range hjl] at hj
          exact (Option.some.inj hj).symm
        subst e
        obtain ⟨h1, h2, _, _⟩ := hq j hjl
        rw [add_none] at h1 h2
        exact ⟨h1, h2⟩
    · have := tot_bulk q (fun i => DataW.agg [D0 i, D1 i]) (List.range len) (fun i hi => by rw [hel i (List.mem_range.1 hi)]; omega)
      show _ ≤ 24 * Rows.uptoBulk (DataW.slice _ _)
      omega
    · intro kv hkv
      obtain ⟨i, hi, rfl⟩ := List.mem_map.1 hkv
      have h1 := hel i (List.mem_range.1 hi)
      have h2 := bulk_mem (d := DataW.agg [D0 i, D1 i]) (l := (List.range len).map fun i => DataW.agg [D0 i, D1 i]) (List.mem_map.2 ⟨i, hi, rfl⟩)
      show _ ≤ Rows.uptoBulk (DataW.slice _ _) ∧ _ ≤ Rows.uptoBulk (DataW.slice _ _)
      omega
theorem cells5' : Tryz.prog.cellsOf 5 = 1 := by kernel_rfl
set_option maxRecDepth 100000 in
theorem open_dat (h : DataW.trod enc Tryz.prog w base sp held fuel 25 cs = some x) (hbk : Rows.uptoBulk x.1 ≤ 1048576) : ∃ da dn dc data, cs = [.slice da dn dc] ∧ DatI w.heap.size w da dn dc data := by
  rcases Go.Deep.open_slice1 Tryz.underlying25 cells5' h with ⟨rfl, rfl⟩ | ⟨a, len, cap, m, n, V, D, Pl, rfl, hb, hl, hm, hmm, rfl, hx⟩
  · exact ⟨none, 0, 0, [], rfl, ⟨rfl, Nat.le_refl _, by unfold maxLen; omega, by omega, fun _ => ⟨rfl, rfl⟩, fun a h => by cases h⟩⟩
  · have hlm : len ≤ m := by rw [hmm]; split <;> omega
    have each : ∀ i, i < len → ∃ q : UInt8, w.cell? (a.add i) = some (u8 q) := by
      intro i hi
      obtain ⟨h1, h2⟩ := hx i (by omega)
      obtain ⟨k, e1, _, wf⟩ := DataW.trod_int Tryz.underlying5 h2
      simp only [List.cons.injEq, and_true] at e1
      have hk := bounds_u8 wf
      refine ⟨UInt8.ofNat k.toNat, ?_⟩
      rw [h1, e1]
      unfold u8
      have : ((UInt8.ofNat k.toNat).toNat : Int) = k := by
        rw [UInt8.toNat_ofNat']
        omega
      rw [this]
    obtain ⟨q, hq⟩ := Go.Deep.choose_lt each
    have hbk2 : len + 1 ≤ 1048576 := by
      have h1 : Rows.uptoBulk (DataW.slice ((List.range len).map D) ((List.range (m - len)).map fun j => D (len + j))) ≤ 1048576 := hbk
      simp only [Rows.uptoBulk] at h1
      have h2 := bulk_len ((List.range len).map D)
      simp at h2
      omega
    refine ⟨some a, len, cap, (List.range len).map q, rfl, ⟨by simp, hl, hm, by omega, (fun h => by cases h), fun a' ha => ?_⟩⟩
    cases ha
    by_cases h0 : len = 0
    · refine ⟨.inl h0, fun j u hj => ?_⟩
      rw [h0] at hj
      cases hj
    · obtain ⟨hs, hlt⟩ := spot_of (k := 0) (hq 0 (by omega))
      refine ⟨.inr hlt, fun j u hj => ?_⟩
      have hjl : j < len := by have := (List.getElem?_eq_some_iff.1 hj).1; simpa [cells] using this
      have e : u = u8 (q j) := by
        unfold cells at hj
        rw [List.getElem?_map, List.getElem?_map, List.getElem?_range hjl] at hj
        exact (Option.some.inj hj).symm
      rw [e]
      exact hq j hjl
theorem cells32 : Tryz.prog.cellsOf 32 = 21 := by kernel_rfl
theorem cellsOf3 : Tryz.prog.cellsOf 3 = 1 := by kernel_rfl
theorem cellsOf4 : Tryz.prog.cellsOf 4 = 1 := by kernel_rfl
theorem cellsOf30 : Tryz.prog.cellsOf 30 = 1 := by kernel_rfl
set_option maxRecDepth 100000 in
set_option maxHeartbeats 2000000 in
theorem open_hdr (h : DataW.trod enc Tryz.prog w base sp held fuel 32 cs = some x) (hbk : Rows.uptoBulk x.1 ≤ 1048576) : ∃ hh a n c rs, cs = InH.cells hh ∧ HdI w.heap.size w hh a n c rs := by
  obtain ⟨xs, n, _, hx, hl, hxs, hf⟩ := DataW.trod_struct Tryz.underlying32 h
  rw [cells32] at hl
  have h0 := hf 0 _ rfl
  have h1 := hf 1 _ rfl
  have h2 := hf 2 _ rfl
  have h3 := hf 3 _ rfl
  have h4 := hf 4 _ rfl
  have h5 := hf 5 _ rfl
  have h6 := hf 6 _ rfl
  have h7 := hf 7 _ rfl
  have h8 := hf 8 _ rfl
  have h9 := hf 9 _ rfl
  have h10 := hf 10 _ rfl
  have h11 := hf 11 _ rfl
  have h12 := hf 12 _ rfl
  have h13 := hf 13 _ rfl
  have h14 := hf 14 _ rfl
  have h15 := hf 15 _ rfl
  have h16 := hf 16 _ rfl
  have h17 := hf 17 _ rfl
  clear hf
  match xs, hxs, hx, h0, h1, h2, h3, h4, h5, h6, h7, h8, h9, h10, h11, h12, h13, h14, h15, h16, h17 with
  | [x0, x1, x2, x3, x4, x5, x6, x7, x8, x9, x10, x11, x12, x13, x14, x15, x16, x17], _, hx, h0, h1, h2, h3, h4, h5, h6, h7, h8, h9, h10, h11, h12, h13, h14, h15, h16, h17 =>
    match cs, hl, h0, h1, h2, h3, h4, h5, h6, h7, h8, h9, h10, h11, h12, h13, h14, h15, h16, h17 with
    | [c0, c1, c2, c3, c4, c5, c6, c7, c8, c9, c10, c11, c12, c13, c14, c15, c16, c17, c18, c19, c20], _, h0, h1, h2, h3, h4, h5, h6, h7, h8, h9, h10, h11, h12, h13, h14, h15, h16, h17 =>
      simp [cells5', cells9', cellsOf2, cellsOf3, cellsOf4, cellsOf29, cellsOf30] at h0 h1 h2 h3 h4 h5 h6 h7 h8 h9 h10 h11 h12 h13 h14 h15 h16 h17
      obtain ⟨a0, e0, _, w0⟩ := DataW.trod_int Tryz.underlying5 h0
      obtain ⟨a1, e1, b1, _⟩ := DataW.trod_string Tryz.underlying9 h1
      obtain ⟨a2, e2, b2, _⟩ := DataW.trod_string Tryz.underlying9 h2
      obtain ⟨a3, e3, _, w3⟩ := DataW.trod_int Tryz.underlying2 h3
      obtain ⟨a4, e4, _, w4⟩ := DataW.trod_int Tryz.underlying2 h4
      obtain ⟨a5, e5, _, w5⟩ := DataW.trod_int Tryz.underlying3 h5
      obtain ⟨a6, e6, _, w6⟩ := DataW.trod_int Tryz.underlying3 h6
      obtain ⟨a7, e7, b7, _⟩ := DataW.trod_string Tryz.underlying9 h7
      obtain ⟨a8, e8, b8, _⟩ := DataW.trod_string Tryz.underlying9 h8
      obtain ⟨a9, t9, e9, v9, w9⟩ := open_time h9
      obtain ⟨a10, e10, _⟩ := DataW.trod_bool Tryz.underlying4 h10
      obtain ⟨a11, t11, e11, v11, w11⟩ := open_time h11
      obtain ⟨a12, e12, _⟩ := DataW.trod_bool Tryz.underlying4 h12
      obtain ⟨a13, t13, e13, v13, w13⟩ := open_time h13
      obtain ⟨a14, e14, _, w14⟩ := DataW.trod_int Tryz.underlying2 h14
      obtain ⟨a15, e15, _, w15⟩ := DataW.trod_int Tryz.underlying2 h15
      obtain ⟨ra, rn, rc, rs, e16, hrec, hc1, hc2, htot, hszs⟩ := open_recs h16
      obtain ⟨a17, e17, _, w17⟩ := DataW.trod_int Tryz.underlying3 h17
      have hall : ∀ d ∈ [x0.1, x1.1, x2.1, x3.1, x4.1, x5.1, x6.1, x7.1, x8.1, x9.1, x10.1, x11.1, x12.1, x13.1, x14.1, x15.1, x16.1, x17.1], Rows.uptoBulk d ≤ 1048575 := by
        intro d hd
        have h1 := bulk_mem hd
        rw [hx] at hbk
        have h2 : Rows.uptoBulk (DataW.agg [x0.1, x1.1, x2.1, x3.1, x4.1, x5.1, x6.1, x7.1, x8.1, x9.1, x10.1, x11.1, x12.1, x13.1, x14.1, x15.1, x16.1, x17.1]) ≤ 1048576 := hbk
        simp only [Rows.uptoBulk] at h2
        omega
      have s1 := hall x1.1 (by simp)
      have s2 := hall x2.1 (by simp)
      have s7 := hall x7.1 (by simp)
      have s8 := hall x8.1 (by simp)
      have s16 := hall x16.1 (by simp)
      rw [b1] at s1
      rw [b2] at s2
      rw [b7] at s7
      rw [b8] at s8
      simp only [bulk_str, Array.length_toList] at s1 s2 s7 s8
      have z : ∀ s : ByteArray, s.data.size = s.size := fun _ => rfl
      rw [z] at s1 s2 s7 s8
      simp only [List.cons.injEq, and_true] at e0 e1 e2 e3 e4 e5 e6 e7 e8 e9 e10 e11 e12 e13 e14 e15 e16 e17
      obtain ⟨e9, e9'⟩ := e9
      obtain ⟨e11, e11'⟩ := e11
      obtain ⟨e13, e13'⟩ := e13
      subst e0 e1 e2 e3 e4 e5 e6 e7 e8 e9 e10 e11 e12 e13 e14 e15 e16 e17 e9' e11' e13'
      have hk := bounds_u8 w0
      refine ⟨⟨UInt8.ofNat a0.toNat, a1, a2, a3, a4, a5, a6, a7, a8, a9, t9, a10, a11, t11, a12, a13, t13, a14, a15, .slice ra rn rc, a17⟩, ra, rn, rc, rs, ?_, ⟨rfl, hrec, ⟨hc1, hc2⟩, (by show a1.size ≤ _; omega), (by show a2.size ≤ _; omega), (by show a7.size ≤ _; omega), (by show a8.size ≤ _; omega), (by omega), fun kv hkv => by have := hszs kv hkv; omega, ⟨bounds_i64 w3, bounds_i64 w4, bounds_i64 w5, bounds_i64 w6, bounds_i64 w14, bounds_i64 w15, bounds_i64 w17⟩, ⟨v9, w9, v11, w11, v13, w13⟩⟩⟩
      unfold InH.cells
      have : ((UInt8.ofNat a0.toNat).toNat : Int) = a0 := by
        rw [UInt8.toNat_ofNat']
        omega
      simp only [this]
theorem cells34 : Tryz.prog.cellsOf 34 = 23 := by kernel_rfl
theorem cells25 : Tryz.prog.cellsOf 25 = 1 := by kernel_rfl
set_option maxRecDepth 100000 in
set_option maxHeartbeats 2000000 in
theorem open_op (h : DataW.trod enc Tryz.prog w base sp held fuel 34 cs = some x) (hbk : Rows.uptoBulk x.1 ≤ 1048576) : ∃ o : OpI, cs = o.cells ∧ OpOk w.heap.size w o := by
  obtain ⟨xs, n, _, hx, hl, hxs, hf⟩ := DataW.trod_struct Tryz.underlying34 h
  rw [cells34] at hl
  have h0 := hf 0 _ rfl
  have h1 := hf 1 _ rfl
  have h2 := hf 2 _ rfl
  clear hf
  match xs, hxs, hx, h0, h1, h2 with
  | [x0, x1, x2], _, hx, h0, h1, h2 =>
    have hall : ∀ d ∈ [x0.1, x1.1, x2.1], Rows.uptoBulk d ≤ 1048575 := by
      intro d hd
      have h1 := bulk_mem hd
      rw [hx] at hbk
      have h2 : Rows.uptoBulk (DataW.agg [x0.1, x1.1, x2.1]) ≤ 1048576 := hbk
      simp only [Rows.uptoBulk] at h2
      omega
    have s1 := hall x1.1 (by simp)
    have s2 := hall x2.1 (by simp)
    match cs, hl, h0, h1, h2 with
    | [c0, c1, c2, c3, c4, c5, c6, c7, c8, c9, c10, c11, c12, c13, c14, c15, c16, c17, c18, c19, c20, c21, c22], _, h0, h1, h2 =>
      simp [cells5', cellsOf3, cells32, cells25] at h0 h1 h2
      obtain ⟨a0, e0, _, _⟩ := DataW.trod_int Tryz.underlying3 h0
      obtain ⟨hh, a, n, c, rs, e1, hd⟩ := open_hdr h1 (by omega)
      obtain ⟨da, dn, dc, data, e2, dt⟩ := open_dat h2 (by omega)
      refine ⟨⟨a0, hh, a, n, c, rs, da, dn, dc, data⟩, ?_, ⟨hd, dt⟩⟩
      simp only [List.cons.injEq, and_true] at e0 e2
      unfold OpI.cells
      rw [← e1, e0, e2]
      rfl
instance : Inhabited OpI := ⟨⟨0, ⟨0, ⟨#[]⟩, ⟨#[]⟩, 0, 0, 0, 0, ⟨#[]⟩, ⟨#[]⟩, 0, 0, false, 0, 0, false, 0, 0, 0, 0, .slice none 0 0, 0⟩, none, 0, 0, [], none, 0, 0, []⟩⟩
set_option maxRecDepth 100000 in
theorem open_ops (h : DataW.trod enc Tryz.prog w base sp held fuel 22 cs = some x) (hbk : Rows.uptoBulk x.1 ≤ 1048576) : ∃ oa n c xs, cs = [.slice oa n c] ∧ OpsI w.heap.size w oa n c xs := by
  rcases Go.Deep.open_slice Tryz.underlying22 h with ⟨rfl, rfl⟩ | ⟨a, len, cap, m, n, D, Pl, rfl, hb, hl, hm, hmm, rfl, hx⟩
  · exact ⟨none, 0, 0, [], rfl, ⟨rfl, ⟨Nat.le_refl _, by unfold maxLen; omega⟩, by omega, .inl rfl, fun x h => by cases h⟩⟩
  · have hlm : len ≤ m := by rw [hmm]; split <;> omega
    rw [cells34] at hx
    have hbk1 : Rows.uptoBulk (DataW.slice ((List.range len).map D) ((List.range (m - len)).map fun j => D (len + j))) ≤ 1048576 := hbk
    simp only [Rows.uptoBulk] at hbk1
    have hlen := bulk_len ((List.range len).map D)
    simp at hlen
    have each : ∀ i, i < len → ∃ q : OpI, (∀ j v, q.cells[j]? = some v → w.cell? ((a.add (i * 23)).add j) = some v) ∧ OpOk w.heap.size w q := by
      intro i hi
      obtain ⟨cs', h1, h2⟩ := hx i (by omega)
      obtain ⟨_, hlen, hcell⟩ := World.cells?_some h1
      have hb1 := bulk_mem (d := D i) (l := (List.range len).map D) (List.mem_map.2 ⟨i, List.mem_range.2 hi, rfl⟩)
      obtain ⟨q, e, ok⟩ := open_op h2 (by show Rows.uptoBulk (D i) ≤ _; omega)
      refine ⟨q, fun j v hj => ?_, ok⟩
      rw [← e] at hj
      have hjl := (List.getElem?_eq_some_iff.1 hj).1
      rw [hcell j (by omega)]
      exact hj
    obtain ⟨q, hq⟩ := Go.Deep.choose_lt each
    refine ⟨some a, len, cap, (List.range len).map q, rfl, ⟨by simp, ⟨hl, hm⟩, by omega, ?_, ?_⟩⟩
    · by_cases h0 : len = 0
      · exact .inl h0
      · obtain ⟨hs, hlt⟩ := spot_of (k := 0) (a := a) (v := .int .i64 (q 0).kind) (by have h7 := (hq 0 (by omega)).1 0 _ rfl; rw [Nat.zero_mul] at h7; exact h7)
        obtain ⟨b, o, spt⟩ := a
        simp only at hs
        subst hs
        refine .inr ⟨b, o, rfl, hlt, fun j x hj => ?_⟩
        have hjl : j < len := by have := (List.getElem?_eq_some_iff.1 hj).1; simpa using this
        have e : x = q j := by
          rw [List.getElem?_map, List.getElem?_range hjl] at hj
          exact (Option.some.inj hj).symm
        subst e
        intro i v hv
        have := (hq j hjl).1 i v hv
        rw [add_none, add_none] at this
        exact this
    · intro x hx
      obtain ⟨i, hi, rfl⟩ := List.mem_map.1 hx
      exact (hq i (List.mem_range.1 hi)).2
end
end Go.Proofs.YtpkilegnokajmaaGreatDoor
