/- For every list of files, every list of cuts and either flush, laws.FnInPieces returns true and its arguments read afterwards as before (the tied card FnInPiecesUptoCardSaid). Conditions: the arguments hold together at most 1048576 values and letters (the second form's own); the listed package variables hold what the program's text lays (tied). Here: the arguments as they came in, the row, the card. The row and the card of laws.FnInPieces. -/
import Derived.Test.YtpkilegnokajmaaGreatDoorE27
import Derived.Test.YtpkilegnokajmaaGreatDoorE30
import Derived.Test.YtpkilegnokajmaaGreatDoorA29
import Derived.Test.YtpkilegnokajmaaGreatDoorCards
import Derived.Test.YtpkilegnokajmaaGreatDoorTie
import Derived.WalkKit
import Derived.ProofKit
import Derived.OpenShut
import Derived.Deep.DeepHandedRow
import Derived.Deep.DeepWitnessRowRef
import Derived.LaidMore
import Derived.LaidHandle
set_option linter.unusedVariables false
set_option linter.unusedSimpArgs false
set_option linter.unnecessarySimpa false
set_option linter.unusedSectionVars false
namespace Go.Proofs.YtpkilegnokajmaaGreatDoor
open Go.ChangeShapes Go.WideShapes Go.ChangeAt Go.RowKit
section
variable {H : Type} {enc : TypeId × Value → H} {w : World} {base : Nat} {sp : Nat → Bool} {held : Bool} {fuel : Nat} {cs : List Value} {x : DataW H × List MemPlace}
theorem bulk_len4 : ∀ l : List (DataW H), (∀ d ∈ l, 4 ≤ Rows.uptoBulk d) → 4 * l.length ≤ Rows.uptoBulkAll l
  | [], _ => Nat.zero_le _
  | d :: l, h => by
    have h1 := h d (List.mem_cons_self ..)
    have h2 := bulk_len4 l (fun e he => h e (List.mem_cons_of_mem _ he))
    simp only [List.length_cons, Rows.uptoBulkAll]
    omega
theorem cells52 : Tryz.prog.cellsOf 52 = 23 := by kernel_rfl
set_option maxRecDepth 100000 in
set_option maxHeartbeats 2000000 in
theorem open_file (h : DataW.trod enc Tryz.prog w base sp held fuel 52 cs = some x) (hbk : Rows.uptoBulk x.1 ≤ 1048576) : ∃ o : FileI, cs = o.cells ∧ FileIn w.heap.size w o ∧ 4 ≤ Rows.uptoBulk x.1 := by
  obtain ⟨xs, n, _, hx, hl, hxs, hf⟩ := DataW.trod_struct Tryz.underlying52 h
  rw [cells52] at hl
  have h0 := hf 0 _ rfl
  have h1 := hf 1 _ rfl
  have h2 := hf 2 _ rfl
  clear hf
  match xs, hxs, hx, h0, h1, h2 with
  | [x0, x1, x2], _, hx, h0, h1, h2 =>
    have hall : ∀ d ∈ [x0.1, x1.1, x2.1], Rows.uptoBulk d ≤ 1048575 := by
      intro d hd
      have h1 := bulk_mem hd
      rw [hx] at hbk
      have h2 : Rows.uptoBulk (DataW.agg [x0.1, x1.1, x2.1]) ≤ 1048576 := hbk
      simp only [Rows.uptoBulk] at h2
      omega
    have s0 := hall x0.1 (by simp)
    have s1 := hall x1.1 (by simp)
    have h4 : 4 ≤ Rows.uptoBulk x.1 := by
      rw [hx]
      have p0 := bulk_pos x0.1
      have p1 := bulk_pos x1.1
      have p2 := bulk_pos x2.1
      show 4 ≤ Rows.uptoBulk (DataW.agg [x0.1, x1.1, x2.1])
      simp only [Rows.uptoBulk, Rows.uptoBulkAll]
      omega
    match cs, hl, h0, h1, h2 with
    | [c0, c1, c2, c3, c4, c5, c6, c7, c8, c9, c10, c11, c12, c13, c14, c15, c16, c17, c18, c19, c20, c21, c22], _, h0, h1, h2 =>
      simp [cells5', cellsOf3, cells32, cells25] at h0 h1 h2
      obtain ⟨hh, a, n, c, rs, e1, hd⟩ := open_hdr h0 (by omega)
      obtain ⟨da, dn, dc, data, e2, dt⟩ := open_dat h1 (by omega)
      obtain ⟨a0, e0, _, _⟩ := DataW.trod_int Tryz.underlying3 h2
      refine ⟨⟨hh, a, n, c, rs, da, dn, dc, data, a0⟩, ?_, ⟨hd, dt⟩, h4⟩
      simp only [List.cons.injEq, and_true] at e0 e2
      unfold FileI.cells
      rw [← e1, e0, e2]
      rfl
instance : Inhabited FileI := ⟨⟨zInH, none, 0, 0, [], none, 0, 0, [], 0⟩⟩
set_option maxRecDepth 100000 in
theorem open_files (h : DataW.trod enc Tryz.prog w base sp held fuel 45 cs = some x) (hbk : Rows.uptoBulk x.1 ≤ 1048576) : ∃ oa n c xs, cs = [.slice oa n c] ∧ FilesI w.heap.size w oa n c xs ∧ 4 * n ≤ Rows.uptoBulk x.1 := by
  rcases Go.Deep.open_slice Tryz.underlying45 h with ⟨rfl, rfl⟩ | ⟨a, len, cap, m, n, D, Pl, rfl, hb, hl, hm, hmm, rfl, hx⟩
  · exact ⟨none, 0, 0, [], rfl, ⟨rfl, ⟨Nat.le_refl _, by unfold maxLen; omega⟩, by omega, .inl rfl, (fun x h => by cases h)⟩, by omega⟩
  · have hlm : len ≤ m := by rw [hmm]; split <;> omega
    rw [cells52] at hx
    have hbk1 : Rows.uptoBulk (DataW.slice ((List.range len).map D) ((List.range (m - len)).map fun j => D (len + j))) ≤ 1048576 := hbk
    simp only [Rows.uptoBulk] at hbk1
    have hlen := bulk_len ((List.range len).map D)
    simp at hlen
    have each : ∀ i, i < len → ∃ q : FileI, (∀ j v, q.cells[j]? = some v → w.cell? ((a.add (i * 23)).add j) = some v) ∧ FileIn w.heap.size w q ∧ 4 ≤ Rows.uptoBulk (D i) := by
      intro i hi
      obtain ⟨cs', h1, h2⟩ := hx i (by omega)
      obtain ⟨_, hlen, hcell⟩ := World.cells?_some h1
      have hb1 := bulk_mem (d := D i) (l := (List.range len).map D) (List.mem_map.2 ⟨i, List.mem_range.2 hi, rfl⟩)
      obtain ⟨q, e, ok, b4⟩ := open_file h2 (by show Rows.uptoBulk (D i) ≤ _; omega)
      refine ⟨q, fun j v hj => ?_, ok, b4⟩
      rw [← e] at hj
      have hjl := (List.getElem?_eq_some_iff.1 hj).1
      rw [hcell j (by omega)]
      exact hj
    obtain ⟨q, hq⟩ := Go.Deep.choose_lt each
    refine ⟨some a, len, cap, (List.range len).map q, rfl, ⟨by simp, ⟨hl, hm⟩, by omega, ?_, ?_⟩, ?_⟩
    · by_cases h0 : len = 0
      · exact .inl h0
      · obtain ⟨hs, hlt⟩ := spot_of (k := 0) (a := a) (v := .int .u8 (q 0).h.tf.toNat) (by have h7 := (hq 0 (by omega)).1 0 _ rfl; rw [Nat.zero_mul] at h7; exact h7)
        obtain ⟨b, o, spt⟩ := a
        simp only at hs
        subst hs
        refine .inr ⟨b, o, rfl, hlt, fun j x hj => ?_⟩
        have hjl : j < len := by have := (List.getElem?_eq_some_iff.1 hj).1; simpa using this
        have e : x = q j := by
          rw [List.getElem?_map, List.getElem?_range hjl] at hj
          exact (Option.some.inj hj).symm
        subst e
        intro i v hv
        have := (hq j hjl).1 i v hv
        rw [add_none, add_none] at this
        exact this
    · intro x hx
      obtain ⟨i, hi, rfl⟩ := List.mem_map.1 hx
      exact (hq i (List.mem_range.1 hi)).2.1
    · show 4 * len ≤ Rows.uptoBulk (DataW.slice ((List.range len).map D) ((List.range (m - len)).map fun j => D (len + j)))
      have h4 := bulk_len4 ((List.range len).map D) (by
        intro d hd
        obtain ⟨i, hi, rfl⟩ := List.mem_map.1 hd
        exact (hq i (List.mem_range.1 hi)).2.2)
      simp only [List.length_map, List.length_range] at h4
      simp only [Rows.uptoBulk]
      omega
set_option maxRecDepth 100000 in
theorem open_cuts (h : DataW.trod enc Tryz.prog w base sp held fuel 46 cs = some x) : ∃ ca cn cc ys, cs = [.slice ca cn cc] ∧ CutsI w.heap.size w ca cn cc ys ∧ cn ≤ Rows.uptoBulk x.1 := by
  rcases Go.Deep.open_slice1 Tryz.underlying46 cellsOf3 h with ⟨rfl, rfl⟩ | ⟨a, len, cap, m, n, V, D, Pl, rfl, hb, hl, hm, hmm, rfl, hx⟩
  · exact ⟨none, 0, 0, [], rfl, ⟨rfl, ⟨Nat.le_refl _, by unfold maxLen; omega⟩, .inl rfl⟩, Nat.zero_le _⟩
  · have hlm : len ≤ m := by rw [hmm]; split <;> omega
    have each : ∀ i, i < len → ∃ q : Int, w.cell? (a.add i) = some (.int .i64 q) ∧ i64R q := by
      intro i hi
      obtain ⟨h1, h2⟩ := hx i (by omega)
      obtain ⟨k, e1, _, wf⟩ := DataW.trod_int Tryz.underlying3 h2
      simp only [List.cons.injEq, and_true] at e1
      exact ⟨k, by rw [h1, e1], bounds_i64 wf⟩
    obtain ⟨q, hq⟩ := Go.Deep.choose_lt each
    refine ⟨some a, len, cap, (List.range len).map q, rfl, ⟨by simp, ⟨hl, hm⟩, ?_⟩, ?_⟩
    · by_cases h0 : len = 0
      · exact .inl h0
      · obtain ⟨hs, hlt⟩ := spot_of (k := 0) (hq 0 (by omega)).1
        obtain ⟨b, o, spt⟩ := a
        simp only at hs
        subst hs
        refine .inr ⟨b, o, rfl, hlt, fun j y hj => ?_⟩
        have hjl : j < len := by have := (List.getElem?_eq_some_iff.1 hj).1; simpa using this
        have e : y = q j := by
          rw [List.getElem?_map, List.getElem?_range hjl] at hj
          exact (Option.some.inj hj).symm
        subst e
        have := hq j hjl
        rw [add_none] at this
        exact this
    · show len ≤ Rows.uptoBulk (DataW.slice ((List.range len).map D) ((List.range (m - len)).map fun j => D (len + j)))
      have h2 := bulk_len ((List.range len).map D)
      simp only [List.length_map, List.length_range] at h2
      simp only [Rows.uptoBulk]
      omega
end
end Go.Proofs.YtpkilegnokajmaaGreatDoor
namespace Go.Proofs.YtpkilegnokajmaaGreatDoor.fnInPieces
open Go.ChangeShapes Go.WideShapes Go.ChangeAt Go.RowKit
theorem laidOut : laidOutB Tryz.prog = true := by kernel_rfl
theorem own : ownKnob Tryz.prog.godebug = none := by kernel_rfl
set_option maxRecDepth 100000 in
theorem slice_of {W : World} {base : Nat} {t e : TypeId} {v : Value} {a : Option Addr} {n c : Nat} (ht : Tryz.prog.underlying t = some (.slice e)) (ok : Value.okWide Tryz.prog W .any base t v) (h : v.cells.toList = [.slice a n c]) : v = .slice a n c := by
  unfold Value.okWide at ok
  simp only [ht] at ok
  unfold Cell.okWide at ok
  cases v <;> simp [Value.cells, Cell.ok, ht] at ok h <;> simp_all
set_option maxRecDepth 100000 in
theorem contract (H : Type) (enc : TypeId × Value → H) (W : World) (base : Nat) (args : Array Value) (ds gs : List (DataW H)) (before : List MemPlace)
    (hval : ∀ (j : Nat) t v, Tryz.f4.params[j]? = some t → args[j]? = some v → Value.okWide Tryz.prog W .any base t v)
    (hW : DataW.Whole enc Tryz.prog Tryz.f4.params.toList Rows.fnInPiecesSpec.vars false W args.toList ds gs before) (hk : Rows.uptoSmall H (ds ++ gs) = true) (hL : laidMetH Tryz.prog Rows.fnInPiecesUptoRow.laid W) (hsz : 16 ≤ W.heap.size) :
    Calls Tryz.prog 4 args W fun e W' => ∃ v, e = .returned v ∧ Rows.fnInPiecesSpec.post enc Tryz.prog Tryz.f4 false true false false W args v W' := by
  have hW' := hW
  obtain ⟨p, q, hA0, hV, rfl, hfz, hnd⟩ := hW
  have hA : DataW.TrodAll enc Tryz.prog W 0 (fun _ => true) true Tryz.f4.params.toList args.toList ds p := hA0
  rw [Tryz.params4] at hA
  obtain ⟨v0, vs0, d0, ds0, p0, q0, hargs, rfl, rfl, h0, r0⟩ := trodAll_cons hA
  obtain ⟨v1, vs1, d1, ds1, p1, q1, rfl, rfl, rfl, h1, r1⟩ := trodAll_cons r0
  obtain ⟨v2, vs2, d2, ds2, p2, q2, rfl, rfl, rfl, h2, r2⟩ := trodAll_cons r1
  obtain ⟨rfl, rfl, rfl⟩ := trodAll_nil r2
  obtain rfl : args = #[v0, v1, v2] := by cases args; simp_all
  obtain ⟨rfl, rfl⟩ := trodVars_none hV
  clear hA0 hA
  simp only [List.append_nil] at hW'
  have hbk : Rows.uptoBulk d0 + (Rows.uptoBulk d1 + Rows.uptoBulk d2) ≤ 1048576 := by
    have h1 : Rows.uptoBulkAll [d0, d1, d2] ≤ 1048576 := by simpa [Rows.uptoSmall] using hk
    simp only [Rows.uptoBulkAll] at h1
    omega
  have hp2 := bulk_pos d2
  have ok0 := hval 0 45 v0 (by rw [Tryz.params4]; rfl) rfl
  have ok1 := hval 1 46 v1 (by rw [Tryz.params4]; rfl) rfl
  have ok2 := hval 2 4 v2 (by rw [Tryz.params4]; rfl) rfl
  obtain ⟨f0, t0⟩ := id h0
  obtain ⟨f1, t1⟩ := id h1
  obtain ⟨oa, n, c, xs, hcs0, hfs, hn⟩ := open_files t0 (by show Rows.uptoBulk d0 ≤ _; omega)
  obtain ⟨ca, cn, cc, ys, hcs1, hcu, hcn⟩ := open_cuts t1
  have hn2 : 4 * n ≤ Rows.uptoBulk d0 := hn
  have hcn2 : cn ≤ Rows.uptoBulk d1 := hcn
  obtain ⟨fl, hfl, _, _⟩ := open_bool Tryz.underlying4 ok2 h2
  have hv0 := slice_of Tryz.underlying45 ok0 hcs0
  have hv1 := slice_of Tryz.underlying46 ok1 hcs1
  obtain ⟨G, hgl, hes⟩ := of_laid (W := W) hL hsz
  have hlt0 : ∀ x ∈ p0, x.block < W.heap.size := fun x hx => hW'.lt x (by simp [hx])
  have hlt1 : ∀ x ∈ p1, x.block < W.heap.size := fun x hx => hW'.lt x (by simp [hx])
  have hlt2 : ∀ x ∈ p2, x.block < W.heap.size := fun x hx => hW'.lt x (by simp [hx])
  have key := fnInPieces_any G W.heap.size oa n c xs ca cn cc ys fl W hgl hes hfs hcu (by omega)
  rw [← hv0, ← hv1, ← hfl] at key
  refine key.mono fun e W' ⟨he, hb⟩ => ?_
  subst he
  have stay : ∀ {t v d p} (sp : Nat → Bool), Tryz.prog.readableRec t = true → t < Tryz.prog.types.size → DataW.Trod enc Tryz.prog W 0 (fun _ => true) true t v d p → (∀ x ∈ p, x.block < W.heap.size) → (∀ x ∈ p, sp x.block = true) → DataW.Trod enc Tryz.prog W' 0 sp true t v d p := fun sp h8 h9 h hl hs => WideElems.Trod_stays laidOut h8 h9 h (fun x hx => hb.same (hl x hx)) (fun x hx => hs x hx)
  refine ⟨_, rfl, post_of_below (pa := p0 ++ (p1 ++ (p2 ++ []))) (pv := []) hW' (fun _ _ _ => trodAll_cons_mk (shut_bool Tryz.underlying4 _) trodAll_mk0) (fun sp hsp => trodAll_cons_mk (stay sp (by kernel_rfl) (of_decide_eq_true (by kernel_rfl)) h0 hlt0 (fun x hx => hsp x (by simp [hx]))) (trodAll_cons_mk (stay sp (by kernel_rfl) (of_decide_eq_true (by kernel_rfl)) h1 hlt1 (fun x hx => hsp x (by simp [hx]))) (trodAll_cons_mk (stay sp (by kernel_rfl) (of_decide_eq_true (by kernel_rfl)) h2 hlt2 (fun x hx => hsp x (by simp [hx]))) trodAll_mk0))) (fun _ _ => rfl) (by simp) hb (ok_one (by kernel_rfl) rfl (okWide_bool_mk Tryz.underlying4 _))⟩
theorem size16 {W : World} (h : World.ShapedOpen Tryz.prog W) : 16 ≤ W.heap.size := by
  obtain ⟨o, _, ho, _⟩ := h.2 16 (of_decide_eq_true (by kernel_rfl)) (of_decide_eq_true (by kernel_rfl))
  have := blk_lt ho
  omega
/-- A world for the witness: what the program's start leaves. -/
theorem laid_met (os : Os) : laidMetH Tryz.prog Rows.fnInPiecesUptoRow.laid ((World.doorLaid Tryz.prog 288 os).forCall (fun _ _ => 0) ⟨#[], #[.slice none 0 0, .slice none 0 0, .bool false], []⟩).memory :=
  laidMetH_of_parts3 (fuel := 8) (laidMet_of_run' 8 (by kernel_rfl) (by kernel_rfl)) (by kernel_rfl) (by kernel_rfl)
theorem reads (os : Os) {H : Type} (enc : TypeId × Value → H) : ∃ places, DataW.whole enc Tryz.prog ((World.doorLaid Tryz.prog 288 os).forCall (fun _ _ => 0) ⟨#[], #[.slice none 0 0, .slice none 0 0, .bool false], []⟩).memory Tryz.f4.params.toList Rows.fnInPiecesSpec.vars false #[Value.slice none 0 0, Value.slice none 0 0, Value.bool false].toList 8 = some ([.nil, .nil, .lit (.bool false)], [], places) :=
  ⟨[], by kernel_rfl⟩
set_option maxRecDepth 100000 in
theorem lifted (os : Os) (started : os.Started) (H : Type) (enc : TypeId × Value → H) (F : Stop.Interp) :
    ReturnsInHanded {} Tryz.checked os 4 .any ((Rows.OpenSpec.upto Rows.fnInPiecesSpec).preRow enc Tryz.prog Tryz.f4 Rows.fnInPiecesUptoRow.domain false Rows.fnInPiecesUptoRow.laid) (((Rows.OpenSpec.upto Rows.fnInPiecesSpec).at F).post enc Tryz.prog Tryz.f4 false true false false) := by
  obtain ⟨places, hx⟩ := reads os enc
  refine returnsInHanded_of_row (C := Tryz.checked) (s := Rows.OpenSpec.upto Rows.fnInPiecesSpec) own started (by kernel_rfl) Tryz.func4
    (witness_row_atRef (enc := enc) (C := Tryz.checked) false (World.doorLaid Tryz.prog 288 os) #[.slice none 0 0, .slice none 0 0, .bool false] rfl (by kernel_rfl) (by kernel_rfl) (by kernel_rfl)
      (OpenSpec.preRow_of_cond 8 hx (by kernel_rfl) (fun k hk => by cases hk; kernel_rfl) (by kernel_rfl) (laid_met os))) ?_
  intro W base args ds gs before hval hW q1 q2 q3 q4 q5 q6
  exact contract H enc W base args ds gs before hval hW (q2 _ rfl) q4 (size16 q5)
theorem said : Rows.FnInPiecesUptoSaid :=
  OpenClaim.holds_of_cond 4 Tryz.f4 rfl rfl rfl rfl rfl rfl rfl ⟨rfl, rfl, rfl, rfl, rfl⟩ rfl rfl rfl rfl rfl (by kernel_rfl) Tryz.func4 (by kernel_rfl)
    (of_decide_eq_true (by kernel_rfl)) (by unfold Func.isWrapper; first | (rw [if_pos (by decide +kernel)]; kernel_rfl) | (rw [if_neg (by decide +kernel)]; exact ⟨rfl, rfl⟩))
    (fun os started H enc _ F => by rw [OpenClaim.pre_eq_preRow]; exact lifted os started H enc F)
theorem plain (f : FuncId) (fn : Func) (hf : Tryz.pinned.checked.prog.funcNamed "tapearchives/laws.FnInPieces" = some f) (hfn : Tryz.pinned.checked.prog.funcs[f]? = some fn) :
    true = Tryz.pinned.checked.prog.looks [] ∧ ∀ (j : Nat) t, fn.params[j]? = some t → Tryz.pinned.checked.prog.wantsStandIn t = false := by
  obtain rfl : f = 4 := Option.some.inj ((show Tryz.prog.funcNamed "tapearchives/laws.FnInPieces" = some 4 by kernel_rfl).symm.trans hf) |>.symm
  obtain rfl : fn = Tryz.f4 := (Option.some.inj (Tryz.func4.symm.trans hfn)).symm
  refine ⟨by kernel_rfl, fun j t ht => ?_⟩
  rw [Tryz.params4] at ht
  have ht2 : t = 45 ∨ t = 46 ∨ t = 4 := by simpa using Array.mem_of_getElem? ht
  rcases ht2 with rfl | rfl | rfl
  · exact (show Tryz.prog.wantsStandIn 45 = false by kernel_rfl)
  · exact (show Tryz.prog.wantsStandIn 46 = false by kernel_rfl)
  · exact (show Tryz.prog.wantsStandIn 4 = false by kernel_rfl)
/-- The card. -/
theorem card : Rows.FnInPiecesUptoCardSaid :=
  Claim7.holds_tied_plain_at .later [] _ _ _ _ said (fun _ h => by cases h) (by kernel_rfl) (fun _ h => by cases h) fnInPiecesUpto_row_tie rfl ⟨rfl, rfl⟩ (by kernel_rfl) rfl plain (by kernel_rfl)
end Go.Proofs.YtpkilegnokajmaaGreatDoor.fnInPieces
