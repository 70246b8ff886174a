/- For every list of calls, laws.FnScript returns true and its argument reads afterwards as before (the tied card FnScriptUptoCardSaid). Conditions: the argument holds at most 1048576 values and letters (the second form's own); the listed package variables hold what the program's text lays (tied). Here: the row and the card. -/
import Derived.Test.YtpkilegnokajmaaGreatDoorA28
import Derived.Test.YtpkilegnokajmaaGreatDoorA29
import Derived.Test.YtpkilegnokajmaaGreatDoorA30
import Derived.Test.YtpkilegnokajmaaGreatDoorCards
import Derived.Test.YtpkilegnokajmaaGreatDoorTie
import Derived.WalkKit
import Derived.ProofKit
import Derived.OpenShut
import Derived.Deep.DeepHandedRow
import Derived.Deep.DeepWitnessRowRef
import Derived.LaidMore
import Derived.LaidHandle
set_option linter.unusedVariables false
set_option linter.unusedSimpArgs false
set_option linter.unnecessarySimpa false
set_option linter.unusedSectionVars false
namespace Go.Proofs.YtpkilegnokajmaaGreatDoor.fnScript
open Go.ChangeShapes Go.WideShapes Go.ChangeAt Go.RowKit
theorem laidOut : laidOutB Tryz.prog = true := by kernel_rfl
theorem own : ownKnob Tryz.prog.godebug = none := by kernel_rfl
set_option maxRecDepth 100000 in
theorem contract (H : Type) (enc : TypeId × Value → H) (W : World) (base : Nat) (args : Array Value) (ds gs : List (DataW H)) (before : List MemPlace)
    (hval : ∀ (j : Nat) t v, Tryz.f3.params[j]? = some t → args[j]? = some v → Value.okWide Tryz.prog W .any base t v)
    (hW : DataW.Whole enc Tryz.prog Tryz.f3.params.toList Rows.fnScriptSpec.vars false W args.toList ds gs before) (hk : Rows.uptoSmall H (ds ++ gs) = true) (hL : laidMetH Tryz.prog Rows.fnScriptUptoRow.laid W) (hsz : 16 ≤ W.heap.size) :
    Calls Tryz.prog 3 args W fun e W' => ∃ v, e = .returned v ∧ Rows.fnScriptSpec.post enc Tryz.prog Tryz.f3 false true false false W args v W' := by
  have hW' := hW
  obtain ⟨p, q, hA0, hV, rfl, hfz, hnd⟩ := hW
  have hA : DataW.TrodAll enc Tryz.prog W 0 (fun _ => true) true Tryz.f3.params.toList args.toList ds p := hA0
  rw [Tryz.params3] at hA
  obtain ⟨v0, vs0, d0, ds0, p0, q0, hargs, rfl, rfl, h0, r0⟩ := trodAll_cons hA
  obtain ⟨rfl, rfl, rfl⟩ := trodAll_nil r0
  obtain rfl : args = #[v0] := by cases args; simp_all
  obtain ⟨rfl, rfl⟩ := trodVars_none hV
  clear hA0 hA
  simp only [List.append_nil] at hW'
  have h0' := h0
  obtain ⟨fuel, ht⟩ := h0'
  have hbk : Rows.uptoBulk d0 ≤ 1048576 := by
    have h1 : Rows.uptoBulkAll [d0] ≤ 1048576 := by simpa [Rows.uptoSmall] using hk
    simp only [Rows.uptoBulkAll] at h1
    omega
  obtain ⟨oa, n, c, xs, hcs, hops⟩ := open_ops ht hbk
  have hv : v0 = .slice oa n c := by
    have ok := hval 0 22 v0 (by rw [Tryz.params3]; rfl) rfl
    unfold Value.okWide at ok
    simp only [Tryz.underlying22] at ok
    unfold Cell.okWide at ok
    cases v0 <;> simp [Value.cells, Cell.ok, Tryz.underlying22] at ok hcs <;> simp_all
  obtain ⟨G, hgl, hes⟩ := of_laid hL hsz
  have hlt : ∀ x ∈ p0, x.block < W.heap.size := fun x hx => by simpa using hW'.lt x hx
  rw [hv]
  refine (fnScript_any G W.heap.size oa n c xs W hgl hes hops).mono fun e W' ⟨he, hb⟩ => ?_
  subst he
  rw [← hv]
  refine ⟨_, rfl, post_of_below (pa := p0 ++ []) (pv := []) hW' (fun _ _ _ => trodAll_cons_mk (shut_bool Tryz.underlying4 _) trodAll_mk0) (fun sp hsp => trodAll_cons_mk (WideElems.Trod_stays laidOut (by kernel_rfl) (of_decide_eq_true (by kernel_rfl)) h0 (fun x hx => hb.same (hlt x hx)) (fun x hx => hsp x hx)) trodAll_mk0) (fun _ _ => rfl) (by simp) hb (ok_one (by kernel_rfl) rfl (okWide_bool_mk Tryz.underlying4 _))⟩
theorem size16 {W : World} (h : World.ShapedOpen Tryz.prog W) : 16 ≤ W.heap.size := by
  obtain ⟨o, _, ho, _⟩ := h.2 16 (of_decide_eq_true (by kernel_rfl)) (of_decide_eq_true (by kernel_rfl))
  have := blk_lt ho
  omega
/-- A world for the witness: what the program's start leaves. -/
theorem laid_met (os : Os) : laidMetH Tryz.prog Rows.fnScriptUptoRow.laid ((World.doorLaid Tryz.prog 288 os).forCall (fun _ _ => 0) ⟨#[], #[.slice none 0 0], []⟩).memory :=
  laidMetH_of_parts3 (fuel := 8) (laidMet_of_run' 8 (by kernel_rfl) (by kernel_rfl)) (by kernel_rfl) (by kernel_rfl)
theorem reads (os : Os) {H : Type} (enc : TypeId × Value → H) : ∃ places, DataW.whole enc Tryz.prog ((World.doorLaid Tryz.prog 288 os).forCall (fun _ _ => 0) ⟨#[], #[.slice none 0 0], []⟩).memory Tryz.f3.params.toList Rows.fnScriptSpec.vars false #[Value.slice none 0 0].toList 8 = some ([.nil], [], places) :=
  ⟨[], by kernel_rfl⟩
set_option maxRecDepth 100000 in
theorem lifted (os : Os) (started : os.Started) (H : Type) (enc : TypeId × Value → H) (F : Stop.Interp) :
    ReturnsInHanded {} Tryz.checked os 3 .any ((Rows.OpenSpec.upto Rows.fnScriptSpec).preRow enc Tryz.prog Tryz.f3 Rows.fnScriptUptoRow.domain false Rows.fnScriptUptoRow.laid) (((Rows.OpenSpec.upto Rows.fnScriptSpec).at F).post enc Tryz.prog Tryz.f3 false true false false) := by
  obtain ⟨places, hx⟩ := reads os enc
  refine returnsInHanded_of_row (C := Tryz.checked) (s := Rows.OpenSpec.upto Rows.fnScriptSpec) own started (by kernel_rfl) Tryz.func3
    (witness_row_atRef (enc := enc) (C := Tryz.checked) false (World.doorLaid Tryz.prog 288 os) #[.slice none 0 0] rfl (by kernel_rfl) (by kernel_rfl) (by kernel_rfl)
      (OpenSpec.preRow_of_cond 8 hx (by kernel_rfl) (fun k hk => by cases hk; kernel_rfl) (by kernel_rfl) (laid_met os))) ?_
  intro W base args ds gs before hval hW q1 q2 q3 q4 q5 q6
  exact contract H enc W base args ds gs before hval hW (q2 _ rfl) q4 (size16 q5)
theorem said : Rows.FnScriptUptoSaid :=
  OpenClaim.holds_of_cond 3 Tryz.f3 rfl rfl rfl rfl rfl rfl rfl ⟨rfl, rfl, rfl, rfl, rfl⟩ rfl rfl rfl rfl rfl (by kernel_rfl) Tryz.func3 (by kernel_rfl)
    (of_decide_eq_true (by kernel_rfl)) (by unfold Func.isWrapper; first | (rw [if_pos (by decide +kernel)]; kernel_rfl) | (rw [if_neg (by decide +kernel)]; exact ⟨rfl, rfl⟩))
    (fun os started H enc _ F => by rw [OpenClaim.pre_eq_preRow]; exact lifted os started H enc F)
theorem plain (f : FuncId) (fn : Func) (hf : Tryz.pinned.checked.prog.funcNamed "tapearchives/laws.FnScript" = some f) (hfn : Tryz.pinned.checked.prog.funcs[f]? = some fn) :
    true = Tryz.pinned.checked.prog.looks [] ∧ ∀ (j : Nat) t, fn.params[j]? = some t → Tryz.pinned.checked.prog.wantsStandIn t = false := by
  obtain rfl : f = 3 := Option.some.inj ((show Tryz.prog.funcNamed "tapearchives/laws.FnScript" = some 3 by kernel_rfl).symm.trans hf) |>.symm
  obtain rfl : fn = Tryz.f3 := (Option.some.inj (Tryz.func3.symm.trans hfn)).symm
  refine ⟨by kernel_rfl, fun j t ht => ?_⟩
  rw [Tryz.params3] at ht
  obtain rfl : t = 22 := by simpa using Array.mem_of_getElem? ht
  exact (show Tryz.prog.wantsStandIn 22 = false by kernel_rfl)
/-- The card. -/
theorem card : Rows.FnScriptUptoCardSaid :=
  Claim7.holds_tied_plain_at .later [] _ _ _ _ said (fun _ h => by cases h) (by kernel_rfl) (fun _ h => by cases h) fnScriptUpto_row_tie rfl ⟨rfl, rfl⟩ (by kernel_rfl) rfl plain (by kernel_rfl)
end Go.Proofs.YtpkilegnokajmaaGreatDoor.fnScript
