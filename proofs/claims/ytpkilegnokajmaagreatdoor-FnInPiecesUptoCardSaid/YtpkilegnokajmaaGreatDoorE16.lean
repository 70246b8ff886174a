/- writePAXHeader: the tail: the header's own block. -/
import Derived.Test.YtpkilegnokajmaaGreatDoorA14
import Derived.Test.YtpkilegnokajmaaGreatDoorE10
import Derived.Test.YtpkilegnokajmaaGreatDoorA16
set_option linter.unusedVariables false
set_option linter.unusedSimpArgs false
set_option linter.unnecessarySimpa false
set_option linter.unusedSectionVars false
namespace Go.Proofs.YtpkilegnokajmaaGreatDoor
open Go.RowKit
noncomputable def code38 (n : Nat) : Code := dropSeq n (Tryz.f38.body.getD .skip)
theorem code38_0 : code38 0 = .seq (headSeq (code38 0)) (.seq (headSeq (code38 1)) (.seq (headSeq (code38 2)) (.seq (headSeq (code38 3)) (.seq (headSeq (code38 4)) (code38 5))))) := by kernel_rfl
def paxBlk (H : Hd) : List UInt8 := setFmtU (tplB fsP putO H)
/-- The Writer behind the header's own block. -/
def paxSt2 (s : WSt) (p : Nat) (H : Hd) : WSt := rawSt (s.bk (paxBlk H)) p H.size H.tf
set_option maxRecDepth 100000 in
set_option maxHeartbeats 4000000 in
theorem pax_fin (G : GlP) (B bw bb bc : Nat) (s : WSt) (w : World) (p : Nat) (H : Hd) (hgl : Gl G B w) (h : Wr B bw bb bc s w) (he : s.err = .nilIface) (hnb : s.nb ≤ 0) (hp : s.pad = (p : Int)) (hp2 : p ≤ 512) (hlim : s.out.length ≤ 17592186044416)
    (hs : s.hdr = H.cells) (ok : H.Ok) (Post : Ending → World → Prop) (hpost : ∀ w', (∃ bc', Wr B bw bb bc' (paxSt2 s p H) w' ∧ Fr B w w') → Post (.returned .nilIface) w') (c2 c3 c4 c5 c6 c7 c8 c9 c10 c11 c12 c13 c14 c15 c16 c17 c18 c19 c20 c21 c22 c23 c24 c25 c26 c27 c28 c29 c30 c31 c32 c33 c34 c35 c36 c37 c38 c39 c40 c41 c42 c43 c44 c45 c46 c47 c48 c49 c50 c51 c52 c53 c54 c55 c56 c57 c58 c59 c60 c61 c62 c63 c64 c65 c66 c67 c68 c69 c70 c71 c72 c73 c74 c75 c76 c77 c78 c79 c80 c81 c82 c83 c84 c85 c86 c87 c88 c89 c90 c91 c92 c93 c94 c95 c96 c97 c98 c99 c100 c101 c102 c103 c104 c105 c106 c107 c108 c109 c110 c111 c112 c113 c114 c115 c116 c117 : Value) :
    Code.wp Tryz.prog (code38 5) (bodyPost Tryz.prog Tryz.f38 Post) ⟨#[.pointer (some ⟨bw, 0, none⟩), .pointer (some ⟨bw, 3, none⟩), c2, c3, c4, c5, c6, c7, c8, c9, c10, c11, c12, c13, c14, c15, c16, c17, c18, c19, c20, c21, c22, c23, c24, c25, c26, c27, c28, c29, c30, c31, c32, c33, c34, c35, c36, c37, c38, c39, c40, c41, c42, c43, c44, c45, c46, c47, c48, c49, c50, c51, c52, c53, c54, c55, c56, c57, c58, c59, c60, c61, c62, c63, c64, c65, c66, c67, c68, c69, c70, c71, c72, c73, c74, c75, c76, c77, c78, c79, c80, c81, c82, c83, c84, c85, c86, c87, c88, c89, c90, c91, c92, c93, c94, c95, c96, c97, c98, c99, c100, c101, c102, c103, c104, c105, c106, c107, c108, c109, c110, c111, c112, c113, c114, c115, c116, c117], []⟩ w := by
  have hc : code38 5 = .seq (headSeq (code38 5)) (dropSeq 1 (code38 5)) := by kernel_rfl
  conv => arg 2; whnf
  have hB := hgl.size
  replace hs := Asd.mk hs
  replace he := Asd.mk he
  replace hp := Asd.mk hp
  replace ok := Asd.mk ok
  replace hpost := Asd.mk hpost
  clear hc
  obtain ⟨Q', hQ⟩ : ∃ Q', Asd (bodyPost Tryz.prog Tryz.f38 Post = Q') := ⟨_, ⟨rfl⟩⟩
  rw [hQ.out]
  have t0 : Tm G B bw bb bc (s.bk s.blk) w.heap.size .nilIface w (w.alloc (.cells #[.nilIface] 155 (0, 0))) := Tm.start h hB hgl
  obtain ⟨X1, hX1⟩ : ∃ X, Asd (X = tplB fsP putO H) := ⟨_, ⟨rfl⟩⟩
  obtain ⟨X3, hX3⟩ : ∃ X, Asd (X = setFmtU X1) := ⟨_, ⟨rfl⟩⟩
  go_wp2_with (first
    | (go_at_call 95
       refine (tpl_P G B bw bb bc s w.heap.size .nilIface w _ H s.blk t0 hs ok.out).mono ?_
       rintro e w3 ⟨rfl, ev, t1⟩
       rw [← hX1.out] at t1)
    | (go_at_call 99
       refine (Tm.setU4 t1).mono ?_
       rintro e w5 ⟨rfl, t3⟩
       rw [← hX3.out] at t3
       have c6 : w5.cell? ⟨bw, 6, none⟩ = some (.int .i64 H.size) := t3.hd hs.out (j := 3) rfl
       have c3 : w5.cell? ⟨bw, 3, none⟩ = some (.int .u8 H.tf.toNat) := t3.hd hs.out (j := 0) rfl))
  refine wp_region_still_tail 10 (by kernel_rfl) (by kernel_rfl) ?_
  simp only [List.take_succ_cons, List.take_zero, List.drop_succ_cons, List.drop_zero]
  repeat still_step
  refine wpStill_nil ?_
  have q3 := t3.drew.fr
  have r1 := rawHeader_any B bw bb bc (s.bk X3) w5.drew p H.size H.tf t3.drew.wr (Nat.le_trans hB q3.size) (by rw [WSt.bk_err]; exact he.out) (by rw [WSt.bk_nb]; exact hnb) (by rw [WSt.bk_pad]; exact hp.out) hp2 (by rw [WSt.bk_out]; omega) ok.out.size
  replace r1 := Asd.mk r1
  go_wp2_with (go_at_call 100; refine r1.out.mono ?_; rintro e w6 ⟨rfl, bc', h6, q6⟩)
  rw [← hQ.out]
  have eS : paxSt2 s p H = rawSt (s.bk X3) p H.size H.tf := by
    unfold paxSt2 paxBlk
    rw [hX3.out, hX1.out]
  go_ret
  exact hpost.out _ ⟨bc', by rw [eS]; exact h6, q3.trans q6⟩
end Go.Proofs.YtpkilegnokajmaaGreatDoor
