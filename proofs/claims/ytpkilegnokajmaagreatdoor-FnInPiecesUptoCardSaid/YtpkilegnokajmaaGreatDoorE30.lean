/- laws.wanted: if it says right, every file is as the statement asks. laws.FnInPieces. -/
import Derived.Test.YtpkilegnokajmaaGreatDoorE29
import Derived.Test.YtpkilegnokajmaaGreatDoorE28
import Derived.Great.BuildSlice
set_option linter.unusedVariables false
set_option linter.unusedSimpArgs false
set_option linter.unnecessarySimpa false
set_option linter.unusedSectionVars false
namespace Go.Proofs.YtpkilegnokajmaaGreatDoor
open Go.RowKit Go.Maps
theorem info_zs {t : TypeId} {z : Value} {n m : Nat} (h : (Tryz.prog.info? t).map (fun i => (i.zero, i.size, i.bytes)) = some (some z, n, m)) : ∃ i, Tryz.prog.info? t = some i ∧ i.zero = some z ∧ i.size = n ∧ i.bytes = m := info_parts3 h
theorem wpList_build_as {ops : Array Oper} {rest : List Oper} {o : Oper} {a : Act} {w : World} {Q : Exit → Act → World → Prop} (hg : o.guard = none) (t : TypeId) (parts : Array (Nat × Operand)) (ho : o.op = .build t parts) (pv : List (Nat × Value)) (hp : (parts.toList.map fun (i, x) => (i, a.eval x)) = pv)
    (cells : Array Value) (hr : ∀ W, (Instr.build t pv.toArray).run Tryz.prog W = .ok (.agg cells) W) (h : wpList Tryz.prog ops Q rest (a.put o.dst (.agg cells)) w) : wpList Tryz.prog ops Q (o :: rest) a w := by
  refine wpList_plain hg fun _ hK => ?_
  have hk := hK _ _ h
  unfold Oper.wp execOp
  have e : (parts.map fun (i, x) => (i, a.eval x)) = pv.toArray := by apply Array.toList_inj.1; rw [Array.toList_map, hp]
  simp only [ho, e, Sem.run_bind, hr, Result.andThen_ok]
  exact hk
theorem wpList_bs_as {ops : Array Oper} {rest : List Oper} {o : Oper} {a : Act} {w : World} {Q : Exit → Act → World → Prop} (hg : o.guard = none) (t e : TypeId) (n : Nat) (parts : Array (Nat × Operand)) (ho : o.op = .buildSlice t n parts) (pv : List (Nat × Value)) (hp : (parts.toList.map fun (i, x) => (i, a.eval x)) = pv)
    (cells : Array Value) (hr : ∀ W, (Instr.buildSlice t n pv.toArray).run Tryz.prog W = .ok (.slice (some ⟨W.heap.size, 0, none⟩) n n) (W.alloc (.cells cells e))) (h : wpList Tryz.prog ops Q rest (a.put o.dst (.slice (some ⟨w.heap.size, 0, none⟩) n n)) (w.alloc (.cells cells e))) : wpList Tryz.prog ops Q (o :: rest) a w := by
  refine wpList_plain hg fun _ hK => ?_
  have hk := hK _ _ h
  unfold Oper.wp execOp
  have e : (parts.map fun (i, x) => (i, a.eval x)) = pv.toArray := by apply Array.toList_inj.1; rw [Array.toList_map, hp]
  simp only [ho, e, Sem.run_bind, hr, Result.andThen_ok]
  exact hk
def spf (h : SpH) (da : Option Addr) (dn dc : Nat) : List Value := h.cells ++ [.slice da dn dc]
def zSpH : SpH := ⟨0, ⟨#[]⟩, ⟨#[]⟩, 0, 0, 0, 0, ⟨#[]⟩, ⟨#[]⟩, 0, 0, false, false, 0, 0, 0, 0, 0, 0, none, 0, 0, 0⟩
theorem info85 : (Tryz.prog.info? 85).map (fun i => (i.zero, i.size, i.bytes)) = some (some (.agg (spf zSpH none 0 0).toArray), 22, 232) := by kernel_rfl
theorem build85 (h : SpH) (da : Option Addr) (dn dc : Nat) (w : World) : (Instr.build 85 #[(0, .agg h.cells.toArray), (1, .slice da dn dc)]).run Tryz.prog w = .ok (.agg (spf h da dn dc).toArray) w := run_build w 85 _ _ (by kernel_rfl)
theorem bs48 (h : SpH) (da : Option Addr) (dn dc : Nat) (w : World) : (Instr.buildSlice 48 1 #[(0, .agg (spf h da dn dc).toArray)]).run Tryz.prog w = .ok (.slice (some ⟨w.heap.size, 0, none⟩) 1 1) (w.alloc (.cells (spf h da dn dc).toArray 85)) := by
  obtain ⟨ie, h1, h2, h3, _⟩ := info_zs info85
  refine run_buildSlice w 48 85 1 _ _ ie _ Tryz.underlying48 h1 h2 (by rw [h3]; omega) (by rw [h3]; omega) ?_
  rw [h3]
  kernel_rfl
theorem spf_one (h : SpH) (da : Option Addr) (dn dc : Nat) : ∀ v ∈ spf h da dn dc, v.oneCell' = true := by
  intro v hv
  rcases List.mem_append.1 hv with hv | hv
  · exact h.one v hv
  · rw [List.mem_singleton.1 hv]; rfl
theorem cells_new (w : World) (C : List Value) (T : TypeId) : ∀ (j : Nat) u, C[j]? = some u → (w.alloc (.cells C.toArray T (0, 0))).cell? ((⟨w.heap.size, 0, none⟩ : Addr).add j) = some u := by
  intro j u hj
  have e : (⟨w.heap.size, 0, none⟩ : Addr).add j = ⟨w.heap.size, j, none⟩ := by unfold Addr.add; split <;> simp_all
  rw [e]
  exact cell_blk (heap_alloc_new w _) hj
theorem own85 {B base k : Nat} {w w' : World} {v : Value} {cs : List Value} (h : w.ownsRow base 85 22 v k cs) (f : Fr B w w') : w'.ownsRow base 85 22 v k cs := by
  refine ⟨h.1, ?_⟩
  rcases h.2 with h0 | ⟨g, cap, cur, rfl, hb, hg, hr⟩
  · exact .inl h0
  · exact .inr ⟨g, cap, cur, rfl, hb, f.kept _ _ hg (by rintro ⟨c, fz, e | e | e | e⟩ <;> (injection e with _ e2 _; exact absurd e2 (by decide))), hr⟩
theorem own85_setRow {base k M : Nat} {w : World} {v : Value} {cs : List Value} {A D : Array Value} {fr : Nat × Nat} (h : w.ownsRow base 85 22 v k cs) (hM : w.heap[M]? = some (.cells A 40 fr)) : (w.setRow M D).ownsRow base 85 22 v k cs := by
  refine ⟨h.1, ?_⟩
  rcases h.2 with h0 | ⟨g, cap, cur, rfl, hb, hg, hr⟩
  · exact .inl h0
  · have hne : g ≠ M := by
      rintro rfl
      rw [hg] at hM
      injection hM with hM
      injection hM with _ e2 _
      exact absurd e2 (by decide)
    exact .inr ⟨g, cap, cur, rfl, hb, by rw [setRow_other _ _ _ _ hne]; exact hg, hr⟩
def WnPost (xs : List FileI) (w : World) (e : Ending) (w' : World) : Prop := Below w.heap.size w w' ∧ ∃ s v, e = .returned (.tuple #[s, .int .i64 v]) ∧ (v = 1 → ∀ f ∈ xs, FileOk f)
set_option maxRecDepth 100000 in
set_option maxHeartbeats 8000000 in
theorem wanted_any (B : Nat) (oa : Option Addr) (n c : Nat) (xs : List FileI) (w : World) (ho : FilesI B w oa n c xs) (hB : B ≤ w.heap.size) : Calls Tryz.prog 11 #[.slice oa n c] w (WnPost xs w) := by
  have hn : n ≤ 1048576 := ho.big
  have hnc : (n : Int) ≤ c := by have := ho.cap; omega
  have hlen := Asd.mk ho.len
  obtain ⟨i0, hi, hz0, hz1, hz2⟩ := info_zs info85
  replace ho := Asd.mk ho
  go_enter Tryz.func11, Tryz.ntmps11
  go_wp2
  go_loopw [4, 5, 6, 13] (fun out al vd i wr => ∃ (k : Nat) (cs : List Value) (A V : Int), k ≤ n ∧ i = .int .i64 k ∧ wr.ownsRow w.heap.size 85 22 out k cs ∧ al = .int .i64 A ∧ 0 ≤ A ∧ A ≤ k * 1048576 ∧ vd = .int .i64 V ∧ (∀ f ∈ xs.take k, FileOk f) ∧ Below w.heap.size w wr) (fun _ _ _ i _ => n - (intOf i).toNat)
  case atStart => exact ⟨0, [], 0, 1, by omega, rfl, World.ownsRow_nil _ _ _ _, rfl, by omega, by omega, rfl, (fun f hf => by cases hf), Below.refl _ _⟩
  case round =>
    obtain ⟨k, cs, A, V, hk, rfl, hown, rfl, hA0, hA1, rfl, hfo, hbl⟩ := hrel
    by_cases hlt : k < n
    · obtain ⟨b, off, x, haa, hbB, hget, hr, hok⟩ := (ho.out.below (hbl.mono hB)).get k hlt
      have htk : Asd (xs.take (k + 1) = xs.take k ++ [x]) := ⟨by rw [List.take_add_one, hget]; rfl⟩
      obtain ⟨C, hC⟩ : ∃ C, Asd (C = x.cells) := ⟨_, ⟨rfl⟩⟩
      have lC : Asd (C.length = 23) := ⟨by rw [hC.out]; rfl⟩
      have oC : Asd (C.toArray.all (·.oneCell') = true) := ⟨by rw [hC.out]; exact x.oneA (by rw [hok.hd.rv]; rfl)⟩
      have hdn : (x.dn : Int) ≤ 1048576 := by have := hok.dt.big; omega
      have hdc : (x.dn : Int) ≤ x.dc := by have := hok.dt.cap; omega
      have hdl := Asd.mk hok.dt.len
      rw [← hC.out] at hr
      replace hr := Asd.mk hr
      replace hok := Asd.mk hok
      replace hown := Asd.mk hown
      replace hbl := Asd.mk hbl
      replace hfo := Asd.mk hfo
      clear hget hbB
      rw [haa]
      go_upto_region 6 with (first
        | (refine wpList_load_mid rfl 52 (.tmp 15) rfl b (off + k * 23) rfl C _ hr.out Tryz.underlying52 rfl (by rw [info52, lC.out]) ?_)
        | (refine wpList_store_row rfl 52 (.tmp 8) (.tmp 16) rfl wr.heap.size C.toArray rfl rfl 52 _ (heap_alloc_new _ _) (by rw [info52, List.size_toArray, lC.out]) (by show (23 : Nat) = _; rw [List.size_toArray, lC.out]) oC.out ?_; rw [World.setRow_alloc_new]))
      obtain ⟨N, hN⟩ : ∃ N, Asd (wr.heap.size = N) := ⟨_, ⟨rfl⟩⟩
      obtain ⟨W1, hW1⟩ : ∃ W1, Asd (W1 = wr.alloc (.cells C.toArray 52)) := ⟨_, ⟨rfl⟩⟩
      have b0 := heap_alloc_new wr (.cells C.toArray 52)
      have ba : Below wr.heap.size wr (wr.alloc (.cells C.toArray 52)) := (Below.refl _ _).alloc (Nat.le_refl _) _
      have own2 := hown.out.alloc (.cells C.toArray 52)
      have bl2 := hbl.out.trans (ba.mono hbl.out.size)
      have ok2 := hok.out.below (ba.mono (Nat.le_trans hB hbl.out.size))
      rw [← hW1.out] at b0 bl2 ok2 own2
      rw [← hW1.out, hN.out]
      rw [hN.out] at b0
      clear hW1 ba
      have r0 : W1.rangeAt N 0 x.cells := by rw [← hC.out]; exact rng0 b0
      have r1 := x.head r0
      obtain ⟨CH, hCH⟩ : ∃ C, Asd (C = x.h.cells) := ⟨_, ⟨rfl⟩⟩
      have lCH : Asd (CH.length = 21) := ⟨by rw [hCH.out]; rfl⟩
      have hp := plain_any B x.h x.a x.n x.c x.rs W1 ok2.hd (Nat.le_trans hB bl2.size)
      rw [← hCH.out] at r1 hp
      replace r1 := Asd.mk r1
      replace b0 := Asd.mk b0
      replace own2 := Asd.mk own2
      replace bl2 := Asd.mk bl2
      replace ok2 := Asd.mk ok2
      replace hp := Asd.mk hp
      clear r0
      go_upto_region 7 with (first
        | (refine wpList_load_mid rfl 32 (.tmp 17) rfl N 0 rfl CH _ r1.out Tryz.underlying32 rfl (by rw [info32, lCH.out]) ?_)
        | (go_at_call 8; refine hp.out.mono ?_; rintro e w3 ⟨ra, rc, rfl, hRs, hb3⟩; obtain ⟨C5, hC5⟩ : ∃ C, Asd (C = (x.h.sp ra x.n rc).cells) := ⟨_, ⟨rfl⟩⟩; rw [← hC5.out]; have lC5 : Asd (C5.length = 21) := ⟨by rw [hC5.out]; rfl⟩; have oC5 : Asd (C5.toArray.all (·.oneCell') = true) := ⟨by rw [hC5.out]; exact SpH.oneA _⟩; replace hb3 := Asd.mk hb3; replace hRs := Asd.mk hRs; clear hp)
        | (refine wpList_store_row rfl 40 (.tmp 9) (.tmp 19) rfl w3.heap.size C5.toArray rfl rfl 40 _ (heap_alloc_new _ _) (by rw [info40, List.size_toArray, lC5.out]) (by show (21 : Nat) = _; rw [List.size_toArray, lC5.out]) oC5.out ?_; rw [World.setRow_alloc_new]))
      obtain ⟨M, hM⟩ : ∃ M, Asd (w3.heap.size = M) := ⟨_, ⟨rfl⟩⟩
      obtain ⟨W2, hW2⟩ : ∃ W2, Asd (W2 = w3.alloc (.cells C5.toArray 40)) := ⟨_, ⟨rfl⟩⟩
      have m0 := heap_alloc_new w3 (.cells C5.toArray 40)
      have mb : Below w3.heap.size w3 (w3.alloc (.cells C5.toArray 40)) := (Below.refl _ _).alloc (Nat.le_refl _) _
      have mb3 : Below W1.heap.size W1 (w3.alloc (.cells C5.toArray 40)) := hb3.out.trans (mb.mono hb3.out.size)
      have rs2 := hRs.out.below mb
      rw [← hW2.out] at m0 mb3 rs2
      rw [← hW2.out, hM.out]
      rw [hM.out] at m0
      have hNM : N < M := by rw [← hM.out]; exact Nat.lt_of_lt_of_le (blk_lt b0.out) hb3.out.size
      clear hW2 mb
      have b2 := blk_below b0.out mb3
      have own3 := own85 own2.out (Fr.of_below (B := 0) mb3 (Nat.zero_le _))
      have bl3 := bl2.out.trans (mb3.mono bl2.out.size)
      have ok3 := ok2.out.below (mb3.mono (Nat.le_trans hB bl2.out.size))
      have c0 : W2.cell? ⟨M, 0, none⟩ = some (.int .u8 x.h.tf.toNat) := cell_blk m0 (by rw [hC5.out]; rfl)
      have c21 : W2.cell? ⟨N, 21, none⟩ = some (.slice x.da x.dn x.dc) := by
        refine x.dat (b := N) (o := 0) ?_
        rw [← hC.out]
        exact rng0 b2
      have r2 : W2.rangeAt N 0 CH := by
        rw [hCH.out]
        refine x.head ?_
        rw [← hC.out]
        exact rng0 b2
      replace m0 := Asd.mk m0
      replace b2 := Asd.mk b2
      replace own3 := Asd.mk own3
      replace bl3 := Asd.mk bl3
      replace ok3 := Asd.mk ok3
      replace rs2 := Asd.mk rs2
      replace r2 := Asd.mk r2
      have stop : ∀ (v : Int) W', Below W2.heap.size W2 W' → v ≠ 1 → WnPost xs w (.returned (.tuple #[.slice none 0 0, .int .i64 v])) W' := fun v W' h1 h2 => ⟨bl3.out.trans (h1.mono bl3.out.size), _, v, rfl, fun e => absurd e h2⟩
      replace stop := Asd.mk stop
      obtain ⟨T, hT⟩ : ∃ z : Int, Asd ((x.h.tf.toNat : Int) = z) := ⟨_, ⟨rfl⟩⟩
      rw [hT.out] at c0
      by_cases h103 : T = 103
      · have htf : x.h.tf = 103 := by
          apply UInt8.toNat_inj.1
          have := hT.out
          show x.h.tf.toNat = 103
          omega
        replace htf := Asd.mk htf
        have hg := global_any B x.h x.a x.n x.c x.rs W2 ok3.out.hd (Nat.le_trans hB bl3.out.size)
        rw [← hCH.out] at hg
        replace hg := Asd.mk hg
        subst h103
        go_upto_region 9 with (first
          | (refine wpList_load_mid rfl 32 (.tmp 23) rfl N 0 rfl CH _ r2.out Tryz.underlying32 rfl (by rw [info32, lCH.out]) ?_)
          | (go_at_call 31; refine hg.out.mono ?_; rintro e w4 ⟨hb4, v, rfl, hv⟩; replace hb4 := Asd.mk hb4; replace hv := Asd.mk hv; clear hg))
        have d21 : w4.cell? ⟨N, 21, none⟩ = some (.slice x.da x.dn x.dc) := by rw [hb4.out.cell (p := ⟨N, 21, none⟩) (blk_lt b2.out)]; exact c21
        have bl4 := bl3.out.trans (hb4.out.mono bl3.out.size)
        have own4 := own85 own3.out (Fr.of_below (B := 0) hb4.out (Nat.zero_le _))
        have m4 := blk_below m0.out hb4.out
        replace bl4 := Asd.mk bl4
        replace own4 := Asd.mk own4
        replace m4 := Asd.mk m4
        clear c0 c21
        by_cases hd0 : 0 < (x.dn : Int)
        · go_wp2
          go_ret2
          exact stop.out 0 _ hb4.out (by decide)
        · by_cases hv1 : v = 1
          · subst hv1
            have hx0 := Asd.mk (show x.dn = 0 by omega)
            have fok : FileOk x := .inr ⟨hv.out rfl htf.out, List.eq_nil_of_length_eq_zero (hdl.out.trans hx0.out)⟩
            replace fok := Asd.mk fok
            obtain ⟨h5, hh5⟩ : ∃ h5, Asd (h5 = x.h.sp ra x.n rc) := ⟨_, ⟨rfl⟩⟩
            have nb := (by rw [← hC5.out]; exact m4.out : w4.heap[M]? = some (.cells (x.h.sp ra x.n rc).cells.toArray 40 (0, 0)))
            rw [← hh5.out] at nb
            replace nb := Asd.mk nb
            have hw2 : wrap64 (A + x.dn) = A + x.dn := by unfold wrap64; omega
            by_cases hov : 1048576 < A + (x.dn : Int)
            · go_wp2_with (first
                | (refine wpList_load_row rfl 40 (.tmp 9) rfl M rfl 40 #[.int .u8 h5.tf.toNat, .string h5.name, .string h5.link, .int .i64 h5.size, .int .i64 h5.mode, .int .i64 h5.uid, .int .i64 h5.gid, .string h5.uname, .string h5.gname, .int .i64 h5.ms, .int .i64 h5.mn, .bool h5.ha, .bool h5.hc, .int .i64 h5.acs, .int .i64 h5.acn, .int .i64 h5.cs, .int .i64 h5.cn, .int .i64 h5.maj, .int .i64 h5.min, .slice h5.ra h5.rn h5.rc, .int .i64 h5.fmt] (0, 0) _ nb.out Tryz.underlying40 rfl (by rw [info40]; rfl) ?_)
                | (at_builtin; refine wpList_append_own _ rfl _ _ 48 rfl w.heap.size 85 i0 (.agg (spf zSpH none 0 0).toArray) 22 232 Tryz.underlying48 hi hz0 hz1 hz2 rfl (by decide) _ _ _ rfl (own4.out.alloc _) ⟨w4.heap.size, 0, none⟩ 1 1 (spf h5 x.da x.dn x.dc) rfl rfl (cells_new w4 (spf h5 x.da x.dn x.dc) 85) (spf_one _ _ _ _) (by unfold maxLen; omega) (by omega) (by have := bl4.out.size; show w.heap.size ≤ (w4.heap.push _).size; simp; omega) ?_; intro v' w6 hown' hgrow6 hnil6))
              case roundEnd =>
                have bl5 := bl4.out.alloc bl4.out.size (.cells (spf h5 x.da x.dn x.dc).toArray 85)
                refine ⟨⟨k + 1, cs ++ spf h5 x.da x.dn x.dc, A + x.dn, 0, by omega, by go_num, hown', rfl, by omega, by omega, rfl, ?_, bl5.grown hgrow6 bl5.size (fun j hj => (own4.out.lt j hj).1)⟩, by simp [intOf]; omega⟩
                intro f hf
                rw [htk.out] at hf
                rcases List.mem_append.1 hf with hf | hf
                · exact hfo.out f hf
                · rw [List.mem_singleton.1 hf]; exact fok.out
            · go_wp2_with (first
                | (refine wpList_load_row rfl 40 (.tmp 9) rfl M rfl 40 #[.int .u8 h5.tf.toNat, .string h5.name, .string h5.link, .int .i64 h5.size, .int .i64 h5.mode, .int .i64 h5.uid, .int .i64 h5.gid, .string h5.uname, .string h5.gname, .int .i64 h5.ms, .int .i64 h5.mn, .bool h5.ha, .bool h5.hc, .int .i64 h5.acs, .int .i64 h5.acn, .int .i64 h5.cs, .int .i64 h5.cn, .int .i64 h5.maj, .int .i64 h5.min, .slice h5.ra h5.rn h5.rc, .int .i64 h5.fmt] (0, 0) _ nb.out Tryz.underlying40 rfl (by rw [info40]; rfl) ?_)
                | (at_builtin; refine wpList_append_own _ rfl _ _ 48 rfl w.heap.size 85 i0 (.agg (spf zSpH none 0 0).toArray) 22 232 Tryz.underlying48 hi hz0 hz1 hz2 rfl (by decide) _ _ _ rfl (own4.out.alloc _) ⟨w4.heap.size, 0, none⟩ 1 1 (spf h5 x.da x.dn x.dc) rfl rfl (cells_new w4 (spf h5 x.da x.dn x.dc) 85) (spf_one _ _ _ _) (by unfold maxLen; omega) (by omega) (by have := bl4.out.size; show w.heap.size ≤ (w4.heap.push _).size; simp; omega) ?_; intro v' w6 hown' hgrow6 hnil6))
              case roundEnd =>
                have bl5 := bl4.out.alloc bl4.out.size (.cells (spf h5 x.da x.dn x.dc).toArray 85)
                refine ⟨⟨k + 1, cs ++ spf h5 x.da x.dn x.dc, A + x.dn, V, by omega, by go_num, hown', rfl, by omega, by omega, rfl, ?_, bl5.grown hgrow6 bl5.size (fun j hj => (own4.out.lt j hj).1)⟩, by simp [intOf]; omega⟩
                intro f hf
                rw [htk.out] at hf
                rcases List.mem_append.1 hf with hf | hf
                · exact hfo.out f hf
                · rw [List.mem_singleton.1 hf]; exact fok.out
          · have hv2 : (v != 1) = true := by simpa using hv1
            go_wp2
            go_ret2
            exact stop.out v _ hb4.out hv1
      · have htf : x.h.tf ≠ 103 := by
          intro e
          refine h103 ?_
          rw [← hT.out, e]; rfl
        replace htf := Asd.mk htf
        have htot : totH (x.h.sp ra x.n rc) x.rs ≤ 1099511627776 := by
          have := ok3.out.hd.name
          have := ok3.out.hd.link
          have := ok3.out.hd.uname
          have := ok3.out.hd.gname
          have := ok3.out.hd.tot
          show x.h.name.size + x.h.link.size + x.h.uname.size + x.h.gname.size + totR x.rs ≤ _
          omega
        have hc := choose_any (x.h.sp ra x.n rc) x.rs W2 rs2.out htot
        rw [← hC5.out] at hc
        replace hc := Asd.mk hc
        clear htot
        go_upto_region 12 with (first
          | (refine wpList_load_row rfl 40 (.tmp 9) rfl M rfl 40 C5.toArray (0, 0) _ m0.out Tryz.underlying40 rfl (by rw [info40, List.size_toArray, lC5.out]) ?_)
          | (go_at_call 7; refine hc.out.mono ?_; rintro e w4 ⟨hb4, h4, v, rfl, hv012, hv1, hv2⟩; obtain ⟨C4, hC4⟩ : ∃ C, Asd (C = h4.cells) := ⟨_, ⟨rfl⟩⟩; rw [← hC4.out]; have lC4 : Asd (C4.length = 21) := ⟨by rw [hC4.out]; rfl⟩; have oC4 : Asd (C4.toArray.all (·.oneCell') = true) := ⟨by rw [hC4.out]; exact h4.oneA⟩; have m4 := blk_below m0.out hb4; replace hb4 := Asd.mk hb4; replace hv012 := Asd.mk hv012; replace hv1 := Asd.mk hv1; clear hc hv2)
          | (refine wpList_store_row rfl 40 (.tmp 9) (.tmp 33) rfl M C4.toArray rfl rfl 40 _ m4 (by rw [info40, List.size_toArray, lC4.out]) (by show (C5.toArray).size = _; rw [List.size_toArray, List.size_toArray, lC4.out, lC5.out]) oC4.out ?_))
        obtain ⟨W5, hW5⟩ : ∃ W5, Asd (W5 = w4.setRow M C4.toArray) := ⟨_, ⟨rfl⟩⟩
        have m5 : (w4.setRow M C4.toArray).heap[M]? = some (.cells C4.toArray 40 (0, 0)) := setRow_heap _ _ _ _ _ _ m4
        have n5 : (w4.setRow M C4.toArray).heap[N]? = some (.cells C.toArray 52 (0, 0)) := by rw [setRow_other _ _ _ _ (show N ≠ M by omega)]; exact blk_below b2.out hb4.out
        have bl5 : Below w.heap.size w (w4.setRow M C4.toArray) := below_setRow (bl3.out.trans (hb4.out.mono bl3.out.size)) (by have := bl2.out.size; have := blk_lt b0.out; rw [← hM.out]; exact Nat.le_trans bl2.out.size hb3.out.size) _
        have own5 := own85_setRow (D := C4.toArray) (own85 own3.out (Fr.of_below (B := 0) hb4.out (Nat.zero_le _))) m4
        rw [← hW5.out] at m5 n5 bl5 own5 ⊢
        clear hW5 m4
        have t0 : W5.cell? ⟨M, 0, none⟩ = some (.int .u8 h4.tf.toNat) := cell_blk m5 (by rw [hC4.out]; rfl)
        have t3 : W5.cell? ⟨M, 3, none⟩ = some (.int .i64 h4.size) := cell_blk m5 (by rw [hC4.out]; rfl)
        have d21 : W5.cell? ⟨N, 21, none⟩ = some (.slice x.da x.dn x.dc) := by
          refine x.dat (b := N) (o := 0) ?_
          rw [← hC.out]
          exact rng0 n5
        have stop5 : ∀ (v : Int), v ≠ 1 → WnPost xs w (.returned (.tuple #[.slice none 0 0, .int .i64 v])) W5 := fun v h2 => ⟨bl5, _, v, rfl, fun e => absurd e h2⟩
        clear c0 c21
        replace m5 := Asd.mk m5
        replace n5 := Asd.mk n5
        replace bl5 := Asd.mk bl5
        replace own5 := Asd.mk own5
        replace stop5 := Asd.mk stop5
        by_cases hvv : v = 1
        · obtain ⟨f1, f2, f3⟩ := hv1.out hvv
          subst hvv
          have f4 : h4.size = x.h.size := f2
          replace f3 := Asd.mk f3
          replace f1 := Asd.mk f1
          obtain ⟨SZ, hSZ⟩ : ∃ z : Int, Asd (h4.size = z) := ⟨_, ⟨rfl⟩⟩
          obtain ⟨T4, hT4⟩ : ∃ z : Int, Asd ((h4.tf.toNat : Int) = z) := ⟨_, ⟨rfl⟩⟩
          rw [hSZ.out] at t3 f4
          rw [hT4.out] at t0
          obtain ⟨ho9, hho⟩ : ∃ z : Bool, Asd (hdrOnly h4.tf = z) := ⟨_, ⟨rfl⟩⟩
          have h9 : ∀ W, Calls Tryz.prog 9 #[.int .u8 T4] W fun e w' => e = .returned (.bool (!ho9)) ∧ W = w' := by
            intro W
            rw [← hT4.out]
            refine (hasData_any h4.tf W).mono ?_
            rintro e w' ⟨rfl, rfl⟩
            refine ⟨?_, rfl⟩
            have : (decide (h4.tf.toNat < 49) || decide (54 < h4.tf.toNat)) = !ho9 := by
              rw [← hho.out]
              unfold hdrOnly
              rw [Bool.eq_iff_iff]
              simp
              try omega
            rw [this]
          replace h9 := Asd.mk h9
          have fin : (x.data.length : Int) = (if ho9 then 0 else SZ) → FileOk x := by
            intro hd
            refine .inl ⟨htf.out, ra, rc, f3.out, ?_⟩
            rw [hd, f4, ← f1.out]
            unfold szOf
            rw [hho.out]
          replace fin := Asd.mk fin
          clear f4
          cases ho9 with
          | true =>
            by_cases hd0 : 0 < (x.dn : Int)
            · go_wp2_with (go_at_call 9; refine (h9.out _).mono ?_; rintro e w7 ⟨rfl, rfl⟩)
              go_ret2
              exact stop5.out 0 (by decide)
            · go_upto_region 16 with (go_at_call 9; refine (h9.out _).mono ?_; rintro e w7 ⟨rfl, rfl⟩)
              have fok : FileOk x := fin.out (by rw [hdl.out]; show (x.dn : Int) = 0; omega)
              replace fok := Asd.mk fok
              obtain ⟨h5, hh5⟩ : ∃ h5, Asd (h5 = h4) := ⟨_, ⟨rfl⟩⟩
              have nb := (by rw [← hC4.out]; exact m5.out : W5.heap[M]? = some (.cells h4.cells.toArray 40 (0, 0)))
              rw [← hh5.out] at nb
              replace nb := Asd.mk nb
              have hw2 : wrap64 (A + x.dn) = A + x.dn := by unfold wrap64; omega
              by_cases hov : 1048576 < A + (x.dn : Int)
              · go_wp2_with (first
                  | (refine wpList_load_row rfl 40 (.tmp 9) rfl M rfl 40 #[.int .u8 h5.tf.toNat, .string h5.name, .string h5.link, .int .i64 h5.size, .int .i64 h5.mode, .int .i64 h5.uid, .int .i64 h5.gid, .string h5.uname, .string h5.gname, .int .i64 h5.ms, .int .i64 h5.mn, .bool h5.ha, .bool h5.hc, .int .i64 h5.acs, .int .i64 h5.acn, .int .i64 h5.cs, .int .i64 h5.cn, .int .i64 h5.maj, .int .i64 h5.min, .slice h5.ra h5.rn h5.rc, .int .i64 h5.fmt] (0, 0) _ nb.out Tryz.underlying40 rfl (by rw [info40]; rfl) ?_)
                  | (at_builtin; refine wpList_append_own _ rfl _ _ 48 rfl w.heap.size 85 i0 (.agg (spf zSpH none 0 0).toArray) 22 232 Tryz.underlying48 hi hz0 hz1 hz2 rfl (by decide) _ _ _ rfl (own5.out.alloc _) ⟨W5.heap.size, 0, none⟩ 1 1 (spf h5 x.da x.dn x.dc) rfl rfl (cells_new W5 (spf h5 x.da x.dn x.dc) 85) (spf_one _ _ _ _) (by unfold maxLen; omega) (by omega) (by have := bl5.out.size; show w.heap.size ≤ (W5.heap.push _).size; simp; omega) ?_; intro v' w6 hown' hgrow6 hnil6))
                case roundEnd =>
                  have bl5 := bl5.out.alloc bl5.out.size (.cells (spf h5 x.da x.dn x.dc).toArray 85)
                  refine ⟨⟨k + 1, cs ++ spf h5 x.da x.dn x.dc, A + x.dn, 0, by omega, by go_num, hown', rfl, by omega, by omega, rfl, ?_, bl5.grown hgrow6 bl5.size (fun j hj => (own5.out.lt j hj).1)⟩, by simp [intOf]; omega⟩
                  intro f hf
                  rw [htk.out] at hf
                  rcases List.mem_append.1 hf with hf | hf
                  · exact hfo.out f hf
                  · rw [List.mem_singleton.1 hf]; exact fok.out
              · go_wp2_with (first
                  | (refine wpList_load_row rfl 40 (.tmp 9) rfl M rfl 40 #[.int .u8 h5.tf.toNat, .string h5.name, .string h5.link, .int .i64 h5.size, .int .i64 h5.mode, .int .i64 h5.uid, .int .i64 h5.gid, .string h5.uname, .string h5.gname, .int .i64 h5.ms, .int .i64 h5.mn, .bool h5.ha, .bool h5.hc, .int .i64 h5.acs, .int .i64 h5.acn, .int .i64 h5.cs, .int .i64 h5.cn, .int .i64 h5.maj, .int .i64 h5.min, .slice h5.ra h5.rn h5.rc, .int .i64 h5.fmt] (0, 0) _ nb.out Tryz.underlying40 rfl (by rw [info40]; rfl) ?_)
                  | (at_builtin; refine wpList_append_own _ rfl _ _ 48 rfl w.heap.size 85 i0 (.agg (spf zSpH none 0 0).toArray) 22 232 Tryz.underlying48 hi hz0 hz1 hz2 rfl (by decide) _ _ _ rfl (own5.out.alloc _) ⟨W5.heap.size, 0, none⟩ 1 1 (spf h5 x.da x.dn x.dc) rfl rfl (cells_new W5 (spf h5 x.da x.dn x.dc) 85) (spf_one _ _ _ _) (by unfold maxLen; omega) (by omega) (by have := bl5.out.size; show w.heap.size ≤ (W5.heap.push _).size; simp; omega) ?_; intro v' w6 hown' hgrow6 hnil6))
                case roundEnd =>
                  have bl5 := bl5.out.alloc bl5.out.size (.cells (spf h5 x.da x.dn x.dc).toArray 85)
                  refine ⟨⟨k + 1, cs ++ spf h5 x.da x.dn x.dc, A + x.dn, V, by omega, by go_num, hown', rfl, by omega, by omega, rfl, ?_, bl5.grown hgrow6 bl5.size (fun j hj => (own5.out.lt j hj).1)⟩, by simp [intOf]; omega⟩
                  intro f hf
                  rw [htk.out] at hf
                  rcases List.mem_append.1 hf with hf | hf
                  · exact hfo.out f hf
                  · rw [List.mem_singleton.1 hf]; exact fok.out
          | false =>
            by_cases hd0 : (x.dn : Int) = SZ
            · have hd1 : ((x.dn : Int) != SZ) = false := by simpa using hd0
              replace hd0 := Asd.mk hd0
              go_upto_region 16 with (go_at_call 9; refine (h9.out _).mono ?_; rintro e w7 ⟨rfl, rfl⟩)
              have fok : FileOk x := fin.out (by rw [hdl.out]; exact hd0.out)
              replace fok := Asd.mk fok
              obtain ⟨h5, hh5⟩ : ∃ h5, Asd (h5 = h4) := ⟨_, ⟨rfl⟩⟩
              have nb := (by rw [← hC4.out]; exact m5.out : W5.heap[M]? = some (.cells h4.cells.toArray 40 (0, 0)))
              rw [← hh5.out] at nb
              replace nb := Asd.mk nb
              have hw2 : wrap64 (A + x.dn) = A + x.dn := by unfold wrap64; omega
              by_cases hov : 1048576 < A + (x.dn : Int)
              · go_wp2_with (first
                  | (refine wpList_load_row rfl 40 (.tmp 9) rfl M rfl 40 #[.int .u8 h5.tf.toNat, .string h5.name, .string h5.link, .int .i64 h5.size, .int .i64 h5.mode, .int .i64 h5.uid, .int .i64 h5.gid, .string h5.uname, .string h5.gname, .int .i64 h5.ms, .int .i64 h5.mn, .bool h5.ha, .bool h5.hc, .int .i64 h5.acs, .int .i64 h5.acn, .int .i64 h5.cs, .int .i64 h5.cn, .int .i64 h5.maj, .int .i64 h5.min, .slice h5.ra h5.rn h5.rc, .int .i64 h5.fmt] (0, 0) _ nb.out Tryz.underlying40 rfl (by rw [info40]; rfl) ?_)
                  | (at_builtin; refine wpList_append_own _ rfl _ _ 48 rfl w.heap.size 85 i0 (.agg (spf zSpH none 0 0).toArray) 22 232 Tryz.underlying48 hi hz0 hz1 hz2 rfl (by decide) _ _ _ rfl (own5.out.alloc _) ⟨W5.heap.size, 0, none⟩ 1 1 (spf h5 x.da x.dn x.dc) rfl rfl (cells_new W5 (spf h5 x.da x.dn x.dc) 85) (spf_one _ _ _ _) (by unfold maxLen; omega) (by omega) (by have := bl5.out.size; show w.heap.size ≤ (W5.heap.push _).size; simp; omega) ?_; intro v' w6 hown' hgrow6 hnil6))
                case roundEnd =>
                  have bl5 := bl5.out.alloc bl5.out.size (.cells (spf h5 x.da x.dn x.dc).toArray 85)
                  refine ⟨⟨k + 1, cs ++ spf h5 x.da x.dn x.dc, A + x.dn, 0, by omega, by go_num, hown', rfl, by omega, by omega, rfl, ?_, bl5.grown hgrow6 bl5.size (fun j hj => (own5.out.lt j hj).1)⟩, by simp [intOf]; omega⟩
                  intro f hf
                  rw [htk.out] at hf
                  rcases List.mem_append.1 hf with hf | hf
                  · exact hfo.out f hf
                  · rw [List.mem_singleton.1 hf]; exact fok.out
              · go_wp2_with (first
                  | (refine wpList_load_row rfl 40 (.tmp 9) rfl M rfl 40 #[.int .u8 h5.tf.toNat, .string h5.name, .string h5.link, .int .i64 h5.size, .int .i64 h5.mode, .int .i64 h5.uid, .int .i64 h5.gid, .string h5.uname, .string h5.gname, .int .i64 h5.ms, .int .i64 h5.mn, .bool h5.ha, .bool h5.hc, .int .i64 h5.acs, .int .i64 h5.acn, .int .i64 h5.cs, .int .i64 h5.cn, .int .i64 h5.maj, .int .i64 h5.min, .slice h5.ra h5.rn h5.rc, .int .i64 h5.fmt] (0, 0) _ nb.out Tryz.underlying40 rfl (by rw [info40]; rfl) ?_)
                  | (at_builtin; refine wpList_append_own _ rfl _ _ 48 rfl w.heap.size 85 i0 (.agg (spf zSpH none 0 0).toArray) 22 232 Tryz.underlying48 hi hz0 hz1 hz2 rfl (by decide) _ _ _ rfl (own5.out.alloc _) ⟨W5.heap.size, 0, none⟩ 1 1 (spf h5 x.da x.dn x.dc) rfl rfl (cells_new W5 (spf h5 x.da x.dn x.dc) 85) (spf_one _ _ _ _) (by unfold maxLen; omega) (by omega) (by have := bl5.out.size; show w.heap.size ≤ (W5.heap.push _).size; simp; omega) ?_; intro v' w6 hown' hgrow6 hnil6))
                case roundEnd =>
                  have bl5 := bl5.out.alloc bl5.out.size (.cells (spf h5 x.da x.dn x.dc).toArray 85)
                  refine ⟨⟨k + 1, cs ++ spf h5 x.da x.dn x.dc, A + x.dn, V, by omega, by go_num, hown', rfl, by omega, by omega, rfl, ?_, bl5.grown hgrow6 bl5.size (fun j hj => (own5.out.lt j hj).1)⟩, by simp [intOf]; omega⟩
                  intro f hf
                  rw [htk.out] at hf
                  rcases List.mem_append.1 hf with hf | hf
                  · exact hfo.out f hf
                  · rw [List.mem_singleton.1 hf]; exact fok.out
            · have hd1 : ((x.dn : Int) != SZ) = true := by simpa using hd0
              go_wp2_with (go_at_call 9; refine (h9.out _).mono ?_; rintro e w7 ⟨rfl, rfl⟩)
              go_ret2
              exact stop5.out 0 (by decide)
        · have hv3 : (v == 1) = false := by simpa using hvv
          have hv4 : (v != 1) = true := by simpa using hvv
          go_wp2
          go_ret2
          exact stop5.out v hvv
    · have htk : Asd (xs.take k = xs) := ⟨List.take_of_length_le (by rw [hlen.out]; omega)⟩
      rw [htk.out] at hfo
      replace hfo := Asd.mk hfo
      replace hbl := Asd.mk hbl
      replace hown := Asd.mk hown
      go_wp2
      go_ret2
      exact ⟨hbl.out, _, V, rfl, fun _ => hfo.out⟩
theorem addr_add (a : Addr) (l j : Nat) : (a.add l).add j = a.add (l + j) := by
  unfold Addr.add
  by_cases h : l = 0 <;> by_cases h2 : j = 0 <;> simp [h, h2, Nat.add_assoc]
/-- The numbers of the cuts. -/
structure CutsI (B : Nat) (w : World) (ca : Option Addr) (cn cc : Nat) (ys : List Int) : Prop where
  len : ys.length = cn
  cap : cn ≤ cc ∧ cc ≤ maxLen
  src : cn = 0 ∨ ∃ b o, ca = some ⟨b, o, none⟩ ∧ b < B ∧ ∀ (j : Nat) y, ys[j]? = some y → w.cell? ⟨b, o + j, none⟩ = some (.int .i64 y) ∧ i64R y
theorem CutsI.get {B : Nat} {w w' : World} {ca : Option Addr} {cn cc : Nat} {ys : List Int} (h : CutsI B w ca cn cc ys) (hb : Below B w w') (k : Nat) (hk : k < cn) : ∃ b o y, ca = some ⟨b, o, none⟩ ∧ w'.cell? ⟨b, o + k, none⟩ = some (.int .i64 y) ∧ i64R y := by
  rcases h.src with h1 | ⟨b, o, h2, h3, h4⟩
  · omega
  · have hk2 : k < ys.length := by rw [h.len]; exact hk
    obtain ⟨h5, h6⟩ := h4 k _ (List.getElem?_eq_getElem hk2)
    exact ⟨b, o, _, h2, by rw [hb.cell (p := ⟨b, _, none⟩) h3]; exact h5, h6⟩
/-- A piece of the data; what is left. -/
theorem DatI.take {B : Nat} {w : World} {a : Addr} {m c : Nat} {d : List UInt8} (h : DatI B w (some a) m c d) (l : Nat) (hl : l ≤ m) : DatI B w (some a) l c (d.take l) := by
  have hc := h.cap
  refine ⟨by rw [List.length_take, h.len]; omega, by omega, h.max, by have := h.big; omega, (fun e => by cases e), ?_⟩
  rintro a' e
  cases e
  obtain ⟨h1, h2⟩ := h.src a rfl
  refine ⟨?_, fun j u hj => h2 j u ?_⟩
  · rcases h1 with h1 | h1
    · exact .inl (by omega)
    · exact .inr h1
  · have hlt := (List.getElem?_eq_some_iff.1 hj).1
    rw [cells_len, List.length_take] at hlt
    rw [cells_get] at hj ⊢
    rw [List.getElem?_take_of_lt (by omega)] at hj
    exact hj
theorem DatI.drop {B : Nat} {w : World} {a : Addr} {m c : Nat} {d : List UInt8} (h : DatI B w (some a) m c d) (l : Nat) (hl : l ≤ m) : DatI B w (if c = l then some a else some (a.add l)) (m - l) (c - l) (d.drop l) := by
  have hc := h.cap
  have hm := h.max
  obtain ⟨h1, h2⟩ := h.src a rfl
  by_cases hcl : c = l
  · rw [if_pos hcl]
    refine ⟨by rw [List.length_drop, h.len], by omega, by omega, by have := h.big; omega, (fun e => by cases e), ?_⟩
    rintro a' e
    cases e
    refine ⟨.inl (by omega), fun j u hj => ?_⟩
    have hlt := (List.getElem?_eq_some_iff.1 hj).1
    rw [cells_len, List.length_drop, h.len] at hlt
    omega
  · rw [if_neg hcl]
    refine ⟨by rw [List.length_drop, h.len], by omega, by omega, by have := h.big; omega, (fun e => by cases e), ?_⟩
    rintro a' e
    cases e
    refine ⟨?_, fun j u hj => ?_⟩
    · rcases h1 with h1 | h1
      · exact .inl (by omega)
      · right
        unfold Addr.add
        split <;> exact h1
    · rw [addr_add]
      refine h2 (l + j) u ?_
      rw [cells_get] at hj ⊢
      rw [List.getElem?_drop] at hj
      exact hj
theorem hd0 (B : Nat) (w : World) : HdI B w zInH none 0 0 [] := by
  refine ⟨rfl, ⟨rfl, .inl rfl⟩, ⟨Nat.le_refl _, Nat.zero_le _⟩, Nat.zero_le _, Nat.zero_le _, Nat.zero_le _, Nat.zero_le _, Nat.zero_le _, (fun kv h => by cases h), ?_, ⟨?_, ?_, ?_, ?_, ?_, ?_⟩⟩ <;> simp [i64R, zInH]
def opCs (xs : List OpI) : List Value := xs.flatMap OpI.cells
theorem opCs_snoc (xs : List OpI) (x : OpI) : opCs (xs ++ [x]) = opCs xs ++ x.cells := by simp [opCs]
theorem opCs_get : ∀ (xs : List OpI) (k : Nat) (x : OpI), xs[k]? = some x → ∀ (j : Nat) v, x.cells[j]? = some v → (opCs xs)[k * 23 + j]? = some v
  | [], k, x, h, j, v, hv => by cases h
  | e :: xs, 0, x, h, j, v, hv => by
    cases h
    have hl : j < e.cells.length := (List.getElem?_eq_some_iff.1 hv).1
    show (e.cells ++ opCs xs)[0 * 23 + j]? = some v
    rw [Nat.zero_mul, Nat.zero_add, List.getElem?_append_left hl]
    exact hv
  | e :: xs, k + 1, x, h, j, v, hv => by
    have ih := opCs_get xs k x h j v hv
    show (e.cells ++ opCs xs)[(k + 1) * 23 + j]? = some v
    have h3 : e.cells.length = 23 := rfl
    rw [List.getElem?_append_right (by omega), h3, show (k + 1) * 23 + j - 23 = k * 23 + j by omega]
    exact ih
theorem HdI.up {B B' : Nat} {w : World} {h : InH} {a : Option Addr} {n c : Nat} {rs : List (ByteArray × ByteArray)} (x : HdI B w h a n c rs) (hB : B ≤ B') : HdI B' w h a n c rs :=
  { x with rc := ⟨x.rc.1, x.rc.2.imp id fun ⟨b, o, h1, h2, h3⟩ => ⟨b, o, h1, Nat.lt_of_lt_of_le h2 hB, h3⟩⟩ }
theorem DatI.up {B B' : Nat} {w : World} {da : Option Addr} {dn dc : Nat} {d : List UInt8} (x : DatI B w da dn dc d) (hB : B ≤ B') : DatI B' w da dn dc d :=
  { x with src := fun a ha => ⟨(x.src a ha).1.imp id fun h => Nat.lt_of_lt_of_le h hB, (x.src a ha).2⟩ }
theorem OpOk.up {B B' : Nat} {w : World} {x : OpI} (h : OpOk B w x) (hB : B ≤ B') : OpOk B' w x := ⟨h.hd.up hB, h.dt.up hB⟩
/-- The calls that the law laid, as Script takes them. -/
theorem ops_row {B base n : Nat} {w W : World} {v : Value} {xs : List OpI} (hl : xs.length = n) (h : W.ownsRow base 34 23 v n (opCs xs)) (hbl : Below base w W) (hB : B ≤ base) (hbW : base ≤ W.heap.size) (hx : ∀ x ∈ xs, OpOk B w x) (hn : n ≤ 1048576) :
    ∃ oa c, v = .slice oa n c ∧ OpsI W.heap.size W oa n c xs := by
  subst hl
  have hok : ∀ x ∈ xs, OpOk W.heap.size W x := fun x hm => ((hx x hm).below (hbl.mono hB)).up (Nat.le_trans hB hbW)
  rcases h.2 with ⟨rfl, h0⟩ | ⟨g, cap, cur, rfl, hb, hg, hc, hm, _, _⟩
  · have hz : xs.length = 0 := h0
    exact ⟨none, 0, by rw [hz], rfl, ⟨by omega, Nat.zero_le _⟩, hn, .inl hz, hok⟩
  · refine ⟨_, cap, rfl, rfl, ⟨hc, hm⟩, hn, .inr ⟨g, 0, rfl, blk_lt hg, fun j x hj i u hu => ?_⟩, hok⟩
    have h1 := h.cells (g := g) rfl (j * 23 + i) u (opCs_get xs j x hj i u hu)
    have e : (⟨g, 0, none⟩ : Addr).add (j * 23 + i) = ⟨g, 0 + j * 23 + i, none⟩ := by unfold Addr.add; split <;> simp_all
    rw [e] at h1
    exact h1
def slLen : Value → Nat
  | .slice _ m _ => m
  | _ => 0
theorem own_slice {w : World} {base e z n : Nat} {v : Value} {cs : List Value} (h : w.ownsRow base e z v n cs) : ∃ a c, v = .slice a n c := by
  rcases h.2 with ⟨rfl, h0⟩ | ⟨g, cap, cur, rfl, _⟩
  · subst h0; exact ⟨none, 0, rfl⟩
  · exact ⟨_, cap, rfl⟩
theorem own_below {w w' : World} {base e z n : Nat} {v : Value} {cs : List Value} (h : w.ownsRow base e z v n cs) (hb : Below w.heap.size w w') : w'.ownsRow base e z v n cs := by
  refine ⟨h.1, ?_⟩
  rcases h.2 with h0 | ⟨g, cap, cur, rfl, hb2, hg, hr⟩
  · exact .inl h0
  · exact .inr ⟨g, cap, cur, rfl, hb2, blk_below hg hb, hr⟩
theorem keep34 {base k N : Nat} {w w' : World} {v : Value} {cs : List Value} {C : Array Value} {T : TypeId} {fr : Nat × Nat} (ho : w.ownsRow base 34 23 v k cs) (hg : w.grownBy w' v.ownBlock) (hN : w.heap[N]? = some (.cells C T fr)) (hT : T ≠ 34) : w'.heap[N]? = some (.cells C T fr) := by
  have hne : v.ownBlock ≠ some N := by
    rcases ho.2 with ⟨rfl, _⟩ | ⟨g, cap, cur, rfl, _, hgb, _⟩
    · simp [Value.ownBlock]
    · simp only [Value.ownBlock]
      rintro e
      cases e
      rw [hgb] at hN
      injection hN with hN
      injection hN with _ e _
      exact hT e.symm
  rw [hg.block N (blk_lt hN) hne.symm]
  exact hN
theorem info34a : (Tryz.prog.info? 34).map (fun i => (i.zero, i.size, i.bytes)) = some (some (.agg (zop 0 none 0 0 []).cells.toArray), 23, 248) := by kernel_rfl
theorem zop_one (k : Int) (da : Option Addr) (dn dc : Nat) (d : List UInt8) : ∀ v ∈ (zop k da dn dc d).cells, v.oneCell' = true := by
  intro v hv
  unfold OpI.cells zop at hv
  simp only [List.mem_append, List.mem_singleton] at hv
  rcases hv with (rfl | hv) | rfl
  · rfl
  · exact zInH.one rfl v hv
  · rfl
theorem hop_one (f : FileI) (hr : f.h.rv.oneCell' = true) : ∀ v ∈ (hop f).cells, v.oneCell' = true := by
  intro v hv
  unfold OpI.cells hop at hv
  simp only [List.mem_append, List.mem_singleton] at hv
  rcases hv with (rfl | hv) | rfl
  · rfl
  · exact f.h.one hr v hv
  · rfl
set_option maxRecDepth 100000 in
set_option maxHeartbeats 8000000 in
theorem fnInPieces_any (G : GlP) (B : Nat) (oa : Option Addr) (n c : Nat) (fs : List FileI) (ca : Option Addr) (cn cc : Nat) (ys : List Int) (fl : Bool) (w : World) (hgl : Gl G B w) (hes : Es G B w) (ho : FilesI B w oa n c fs) (hcu : CutsI B w ca cn cc ys) (hsz : 3 * n + cn + 1 ≤ 1048576) :
    Calls Tryz.prog 4 #[.slice oa n c, .slice ca cn cc, .bool fl] w fun e w' => e = .returned (.bool true) ∧ Below w.heap.size w w' := by
  have hB := hgl.size
  have hnc : (n : Int) ≤ c := by have := ho.cap; omega
  have hncc : (cn : Int) ≤ cc := by have := hcu.cap; omega
  have hlen := Asd.mk ho.len
  obtain ⟨i0, hi, hz0, hz1, hz2⟩ := info_zs info34a
  have h10 := Asd.mk (fits1_any B oa n c fs w ho hB)
  replace ho := Asd.mk ho
  replace hcu := Asd.mk hcu
  replace hgl := Asd.mk hgl
  replace hes := Asd.mk hes
  have stop : ∀ W', Below w.heap.size w W' → (Ending.returned (.bool true) = .returned (.bool true) ∧ Below w.heap.size w W') := fun W' h => ⟨rfl, h⟩
  replace stop := Asd.mk stop
  have hcm : decide (2147483647 < (cn : Int)) = false := decide_eq_false (by omega)
  go_enter Tryz.func4, Tryz.ntmps4
  go_upto_if 1 with (go_at_call 10; refine h10.out.mono ?_; rintro e w1 ⟨rfl, hb1⟩; have h11 := Asd.mk (wanted_any B oa n c fs w1 (ho.out.below (hb1.mono hB)) (Nat.le_trans hB hb1.size)); replace hb1 := Asd.mk hb1; clear h10)
  (try rw [hcm])
  go_upto_region 4 with (go_at_call 11; refine h11.out.mono ?_; rintro e w2 ⟨hb2, sv, vd, rfl, hvd⟩; have bl2 := Asd.mk (hb1.out.trans (hb2.mono hb1.out.size)); replace hvd := Asd.mk hvd; clear h11 hb2)
  by_cases hv1 : vd = 1
  case neg =>
    have hv2 : (vd != 1) = true := by simpa using hv1
    go_wp2
    go_ret
    exact ⟨rfl, bl2.out⟩
  have hok := Asd.mk (hvd.out hv1)
  subst hv1
  clear hvd
  go_wp2
  go_loopw [9, 10, 38] (fun ops kk i wr => ∃ (j kc : Nat) (xs : List OpI), j ≤ n ∧ i = .int .i64 j ∧ kk = .int .i64 kc ∧ kc ≤ cn ∧ wr.ownsRow w.heap.size 34 23 ops xs.length (opCs xs) ∧ AllPc fl (fs.take j) xs ∧ xs.length ≤ 3 * j + kc ∧ (∀ y ∈ xs, OpOk B w y) ∧ Below w.heap.size w wr) (fun _ _ i _ => n - (intOf i).toNat)
  case atStart => exact ⟨0, 0, [], by omega, rfl, rfl, by omega, World.ownsRow_nil _ _ _ _, rfl, by decide, (fun y hy => by cases hy), bl2.out⟩
  case round =>
    obtain ⟨j, kc, xs, hj, rfl, rfl, hkc, hown, hall, hxl, hxok, hbl⟩ := hrel
    by_cases hlt : j < n
    · obtain ⟨b, off, x, haa, hbB, hget, hr, hokx⟩ := (ho.out.below (hbl.mono hB)).get j hlt
      have hx0 := Asd.mk (ho.out.ok x (List.mem_of_getElem? hget))
      have htk : Asd (fs.take (j + 1) = fs.take j ++ [x]) := ⟨by rw [List.take_add_one, hget]; rfl⟩
      obtain ⟨C, hC⟩ : ∃ C, Asd (C = x.cells) := ⟨_, ⟨rfl⟩⟩
      have lC : Asd (C.length = 23) := ⟨by rw [hC.out]; rfl⟩
      have oC : Asd (C.toArray.all (·.oneCell') = true) := ⟨by rw [hC.out]; exact x.oneA (by rw [hokx.hd.rv]; rfl)⟩
      have oR : Asd (x.h.rv.oneCell' = true) := ⟨by rw [hokx.hd.rv]; rfl⟩
      have hdn : (x.dn : Int) ≤ 1048576 := by have := hokx.dt.big; omega
      have hdc : (x.dn : Int) ≤ x.dc := by have := hokx.dt.cap; omega
      have hdl := Asd.mk hokx.dt.len
      rw [← hC.out] at hr
      replace hr := Asd.mk hr
      replace hown := Asd.mk hown
      replace hall := Asd.mk hall
      replace hxok := Asd.mk hxok
      replace hbl := Asd.mk hbl
      clear hget hbB hokx
      rw [haa]
      go_upto_region 11 with (first
        | (refine wpList_load_mid rfl 52 (.tmp 40) rfl b (off + j * 23) rfl C _ hr.out Tryz.underlying52 rfl (by rw [info52, lC.out]) ?_)
        | (refine wpList_store_row rfl 52 (.tmp 12) (.tmp 41) rfl wr.heap.size C.toArray rfl rfl 52 _ (heap_alloc_new _ _) (by rw [info52, List.size_toArray, lC.out]) (by show (23 : Nat) = _; rw [List.size_toArray, lC.out]) oC.out ?_; rw [World.setRow_alloc_new]))
      obtain ⟨N, hN⟩ : ∃ N, Asd (wr.heap.size = N) := ⟨_, ⟨rfl⟩⟩
      obtain ⟨W1, hW1⟩ : ∃ W1, Asd (W1 = wr.alloc (.cells C.toArray 52)) := ⟨_, ⟨rfl⟩⟩
      have b0 := heap_alloc_new wr (.cells C.toArray 52)
      have ba : Below wr.heap.size wr (wr.alloc (.cells C.toArray 52)) := (Below.refl _ _).alloc (Nat.le_refl _) _
      have own2 := hown.out.alloc (.cells C.toArray 52)
      have bl3 := hbl.out.trans (ba.mono hbl.out.size)
      rw [← hW1.out] at b0 bl3 own2
      rw [← hW1.out, hN.out]
      rw [hN.out] at b0
      clear hW1 ba
      have r1 : W1.rangeAt N 0 [.int .u8 x.h.tf.toNat, .string x.h.name, .string x.h.link, .int .i64 x.h.size, .int .i64 x.h.mode, .int .i64 x.h.uid, .int .i64 x.h.gid, .string x.h.uname, .string x.h.gname, .int .i64 x.h.ms, .int .i64 x.h.mn, .bool x.h.ha, .int .i64 x.h.acs, .int .i64 x.h.acn, .bool x.h.hc, .int .i64 x.h.cs, .int .i64 x.h.cn, .int .i64 x.h.maj, .int .i64 x.h.min, x.h.rv, .int .i64 x.h.fmt] := x.head (by rw [← hC.out]; exact rng0 b0)
      have c21 : W1.cell? ⟨N, 21, none⟩ = some (.slice x.da x.dn x.dc) := x.dat (b := N) (o := 0) (by rw [← hC.out]; exact rng0 b0)
      replace r1 := Asd.mk r1
      replace c21 := Asd.mk c21
      replace b0 := Asd.mk b0
      replace own2 := Asd.mk own2
      replace bl3 := Asd.mk bl3
      go_upto_region 12 with (first
        | (refine wpList_load_mid rfl 32 (.tmp 43) rfl N 0 rfl [.int .u8 x.h.tf.toNat, .string x.h.name, .string x.h.link, .int .i64 x.h.size, .int .i64 x.h.mode, .int .i64 x.h.uid, .int .i64 x.h.gid, .string x.h.uname, .string x.h.gname, .int .i64 x.h.ms, .int .i64 x.h.mn, .bool x.h.ha, .int .i64 x.h.acs, .int .i64 x.h.acn, .bool x.h.hc, .int .i64 x.h.cs, .int .i64 x.h.cn, .int .i64 x.h.maj, .int .i64 x.h.min, x.h.rv, .int .i64 x.h.fmt] _ r1.out Tryz.underlying32 rfl (by rw [info32]; rfl) ?_)
        | (at_builtin; refine wpList_append_own _ rfl _ _ 22 rfl w.heap.size 34 i0 (.agg (zop 0 none 0 0 []).cells.toArray) 23 248 Tryz.underlying22 hi hz0 hz1 hz2 rfl (by decide) _ _ _ rfl (own2.out.alloc _) ⟨W1.heap.size, 0, none⟩ 1 1 (hop x).cells rfl rfl (cells_new W1 (hop x).cells 34) (hop_one x oR.out) (by unfold maxLen; omega) (by omega) (by have := bl3.out.size; show w.heap.size ≤ (W1.heap.push _).size; simp; omega) ?_; intro v' w6 hown' hgrow6 hnil6))
      have own3 : w6.ownsRow w.heap.size 34 23 v' (xs ++ [hop x]).length (opCs (xs ++ [hop x])) := by rw [opCs_snoc, List.length_append]; exact hown'
      have bl4 : Below w.heap.size w w6 := (bl3.out.alloc bl3.out.size _).grown hgrow6 (bl3.out.alloc bl3.out.size _).size (fun j hj => (own2.out.lt j hj).1)
      have b4 := keep34 (own2.out.alloc _) hgrow6 (blk_below b0.out ((Below.refl _ _).alloc (Nat.le_refl _) _)) (by decide)
      have d21 : w6.cell? ⟨N, 21, none⟩ = some (.slice x.da x.dn x.dc) := x.dat (b := N) (o := 0) (by rw [← hC.out]; exact rng0 b4)
      replace own3 := Asd.mk own3
      replace bl4 := Asd.mk bl4
      replace b4 := Asd.mk b4
      clear hown' hgrow6 hnil6
      go_wp2
      go_loopw [9, 10, 13] (fun ops kk dv wq => ∃ (kq : Nat) (ps : List OpI) (t m mc : Nat) (da' : Option Addr), kk = .int .i64 kq ∧ kq ≤ cn ∧ dv = .slice da' m mc ∧ DatI B w da' m mc (x.data.drop t) ∧ t ≤ x.dn ∧ m = x.dn - t ∧ Pcs ps (x.data.take t) ∧
        wq.ownsRow w.heap.size 34 23 ops (xs ++ hop x :: ps).length (opCs (xs ++ hop x :: ps)) ∧ (xs ++ hop x :: ps).length ≤ 3 * j + 1 + kq + (if m = 0 then 1 else 0) ∧ (∀ y ∈ ps, OpOk B w y) ∧ Below w.heap.size w wq) (fun _ kk dv _ => (cn - (intOf kk).toNat) + slLen dv)
      case atStart =>
        exact ⟨kc, [], 0, x.dn, x.dc, x.da, rfl, hkc, rfl, hx0.out.dt, by omega, by omega, ⟨(fun y hy => by cases hy), rfl⟩, own3.out, by rw [List.length_append]; show xs.length + 1 ≤ _; split <;> omega, (fun y hy => by cases hy), bl4.out⟩
      case round =>
        obtain ⟨kq, ps, t, m, mc, da', rfl, hkq, rfl, hdt, ht, hm, hps, hownq, hlq, hpok, hblq⟩ := hrel
        replace hdt := Asd.mk hdt
        replace hps := Asd.mk hps
        replace hownq := Asd.mk hownq
        replace hpok := Asd.mk hpok
        replace hblq := Asd.mk hblq
        have hmx : (m : Int) ≤ 1048576 := by omega
        replace hm := Asd.mk hm
        replace hlq := Asd.mk hlq
        have hmc : (m : Int) ≤ mc := by have := hdt.out.cap; omega
        by_cases hm0 : 0 < m
        · obtain ⟨a, rfl⟩ : ∃ a, da' = some a := by
            cases da' with
            | none => have := (hdt.out.nil rfl).1; omega
            | some a => exact ⟨a, rfl⟩
          have hmz : mc ≠ 0 := by omega
          have hl2 : Asd ((xs ++ hop x :: ps).length ≤ 3 * j + 1 + kq) := ⟨by have h := hlq.out; rw [if_neg (show ¬ m = 0 by omega)] at h; exact h⟩
          by_cases hk : kq < cn
          · obtain ⟨cb, co, y, hca, hcy, hyr⟩ := hcu.out.get (hblq.out.mono hB) kq hk
            have hbe := Asd.mk (fun W => below_any y (m + 1) W (by omega) (by omega) hyr)
            rw [hca]
            clear hca
            go_upto_region 18 with (go_at_call 12; refine (hbe.out _).mono ?_; rintro e w7 ⟨y2, rfl, hy1, hy2, rfl⟩; obtain ⟨tn, rfl⟩ : ∃ tn : Nat, y2 = tn := ⟨y2.toNat, by omega⟩)
            have htm : (tn : Int) ≤ m := by omega
            have hmd : ¬ mc = 0 := hmz
            go_wp2_with (first
              | (at_builtin; refine wpList_append_own _ rfl _ _ 22 rfl w.heap.size 34 i0 (.agg (zop 0 none 0 0 []).cells.toArray) 23 248 Tryz.underlying22 hi hz0 hz1 hz2 rfl (by decide) _ _ _ rfl (hownq.out.alloc _) ⟨wr.heap.size, 0, none⟩ 1 1 (zop 1 (some a) tn mc ((x.data.drop t).take tn)).cells rfl rfl (cells_new wr (zop 1 (some a) tn mc ((x.data.drop t).take tn)).cells 34) (zop_one 1 (some a) tn mc ((x.data.drop t).take tn)) (by unfold maxLen; have := hl2.out; omega) (by have := hl2.out; omega) (by have := hblq.out.size; show w.heap.size ≤ (wr.heap.push _).size; simp; omega) ?_; intro v' w6 hown' hgrow6 hnil6))
            case roundEnd =>
              have e1 : xs ++ hop x :: (ps ++ [zop 1 (some a) tn mc ((x.data.drop t).take tn)]) = (xs ++ hop x :: ps) ++ [zop 1 (some a) tn mc ((x.data.drop t).take tn)] := by simp
              have bl6 := hblq.out.alloc hblq.out.size (.cells (zop 1 (some a) tn mc ((x.data.drop t).take tn)).cells.toArray 34)
              have htn : tn ≤ m := by omega
              have hm2 := hm.out
              have hd2 := hdt.out.drop tn htn
              rw [List.drop_drop] at hd2
              (try rw [Nat.sub_self] at hd2)
              refine ⟨⟨kq + 1, ps ++ [zop 1 (some a) tn mc ((x.data.drop t).take tn)], t + tn, m - tn, mc - tn, _, by go_num, by omega, rfl, hd2, by omega, by omega, ?_, ?_, ?_, ?_, bl6.grown hgrow6 bl6.size (fun j hj => (hownq.out.lt j hj).1)⟩, ?_⟩
              · rw [List.take_add]
                exact pcs_snoc hps.out rfl
              · rw [e1, opCs_snoc, List.length_append]
                exact hown'
              · have := hlq.out
                rw [if_neg (by omega)] at this
                rw [e1, List.length_append]
                show (xs ++ hop x :: ps).length + 1 ≤ _
                split <;> omega
              · intro y hy
                rcases List.mem_append.1 hy with hy | hy
                · exact hpok.out y hy
                · rw [List.mem_singleton.1 hy]
                  exact ⟨hd0 B w, hdt.out.take tn htn⟩
              · simp [intOf, slLen]
                omega
          · have hkd : ¬ (kq : Int) < cn := by omega
            have hmd : ¬ mc = 0 := hmz
            clear hk
            go_wp2_with (first
              | (at_builtin; refine wpList_append_own _ rfl _ _ 22 rfl w.heap.size 34 i0 (.agg (zop 0 none 0 0 []).cells.toArray) 23 248 Tryz.underlying22 hi hz0 hz1 hz2 rfl (by decide) _ _ _ rfl (hownq.out.alloc _) ⟨wr.heap.size, 0, none⟩ 1 1 (zop 1 (some a) m mc ((x.data.drop t).take m)).cells rfl rfl (cells_new wr (zop 1 (some a) m mc ((x.data.drop t).take m)).cells 34) (zop_one 1 (some a) m mc ((x.data.drop t).take m)) (by unfold maxLen; have := hl2.out; omega) (by have := hl2.out; omega) (by have := hblq.out.size; show w.heap.size ≤ (wr.heap.push _).size; simp; omega) ?_; intro v' w6 hown' hgrow6 hnil6))
            case roundEnd =>
              have e1 : xs ++ hop x :: (ps ++ [zop 1 (some a) m mc ((x.data.drop t).take m)]) = (xs ++ hop x :: ps) ++ [zop 1 (some a) m mc ((x.data.drop t).take m)] := by simp
              have bl6 := hblq.out.alloc hblq.out.size (.cells (zop 1 (some a) m mc ((x.data.drop t).take m)).cells.toArray 34)
              have htn : m ≤ m := Nat.le_refl m
              have hm2 := hm.out
              have hd2 := hdt.out.drop m htn
              rw [List.drop_drop] at hd2
              (try rw [Nat.sub_self] at hd2)
              refine ⟨⟨kq, ps ++ [zop 1 (some a) m mc ((x.data.drop t).take m)], t + m, 0, mc - m, _, by go_num, by omega, rfl, hd2, by omega, by omega, ?_, ?_, ?_, ?_, bl6.grown hgrow6 bl6.size (fun j hj => (hownq.out.lt j hj).1)⟩, ?_⟩
              · rw [List.take_add]
                exact pcs_snoc hps.out rfl
              · rw [e1, opCs_snoc, List.length_append]
                exact hown'
              · have := hlq.out
                rw [if_neg (by omega)] at this
                rw [e1, List.length_append]
                show (xs ++ hop x :: ps).length + 1 ≤ _
                split <;> omega
              · intro y hy
                rcases List.mem_append.1 hy with hy | hy
                · exact hpok.out y hy
                · rw [List.mem_singleton.1 hy]
                  exact ⟨hd0 B w, hdt.out.take m htn⟩
              · simp [intOf, slLen]
                omega
        · have hm00 : m = 0 := by omega
          have ht2 : t = x.dn := by have := hm.out; omega
          have hps2 : Pcs ps x.data := by
            have h := hps.out
            rw [List.take_of_length_le (by rw [hdl.out]; omega)] at h
            exact h
          have hall2 := allPc_snoc hps2 hall.out
          rw [← htk.out] at hall2
          have hl3 : (xs ++ hop x :: ps).length ≤ 3 * j + 2 + kq := by
            have h := hlq.out
            rw [if_pos hm00] at h
            omega
          have hok3 : ∀ y ∈ xs ++ hop x :: ps, OpOk B w y := by
            intro y hy
            rcases List.mem_append.1 hy with hy | hy
            · exact hxok.out y hy
            · rcases List.mem_cons.1 hy with rfl | hy
              · exact ⟨hx0.out.hd, dat0 B w⟩
              · exact hpok.out y hy
          replace hall2 := Asd.mk hall2
          replace hl3 := Asd.mk hl3
          replace hok3 := Asd.mk hok3
          clear hm00 ht2 hps2
          cases fl
          case false =>
            go_wp2
            go_roundw
            case rel => exact ⟨j + 1, kq, xs ++ hop x :: ps, by omega, by go_num, rfl, hkq, hownq.out, by have h := hall2.out; rw [show flO false = [] from rfl, List.append_nil] at h; exact h, by have := hl3.out; omega, hok3.out, hblq.out⟩
            case measure => simp [intOf]; omega
          case true =>
            go_wp2_with (first
              | (at_builtin; refine wpList_append_own _ rfl _ _ 22 rfl w.heap.size 34 i0 (.agg (zop 0 none 0 0 []).cells.toArray) 23 248 Tryz.underlying22 hi hz0 hz1 hz2 rfl (by decide) _ _ _ rfl (hownq.out.alloc _) ⟨wr.heap.size, 0, none⟩ 1 1 (zop 2 none 0 0 []).cells rfl rfl (cells_new wr (zop 2 none 0 0 []).cells 34) (zop_one 2 none 0 0 []) (by unfold maxLen; have := hl3.out; omega) (by have := hl3.out; omega) (by have := hblq.out.size; show w.heap.size ≤ (wr.heap.push _).size; simp; omega) ?_; intro v' w6 hown' hgrow6 hnil6))
            case roundEnd =>
              have e1 : xs ++ hop x :: (ps ++ flO true) = (xs ++ hop x :: ps) ++ [zop 2 none 0 0 []] := by simp [flO]
              have bl6 := hblq.out.alloc hblq.out.size (.cells (zop 2 none 0 0 []).cells.toArray 34)
              refine ⟨⟨j + 1, kq, xs ++ hop x :: (ps ++ flO true), by omega, by go_num, rfl, hkq, ?_, hall2.out, ?_, ?_, bl6.grown hgrow6 bl6.size (fun j hj => (hownq.out.lt j hj).1)⟩, by simp [intOf]; omega⟩
              · rw [e1, opCs_snoc, List.length_append]
                exact hown'
              · have := hl3.out
                rw [e1, List.length_append]
                show (xs ++ hop x :: ps).length + 1 ≤ _
                omega
              · intro y hy
                rw [e1] at hy
                rcases List.mem_append.1 hy with hy | hy
                · exact hok3.out y hy
                · rw [List.mem_singleton.1 hy]
                  exact ⟨hd0 B w, dat0 B w⟩
    · have hjn : j = n := by omega
      have hall2 : AllPc fl fs xs := by
        have h := hall
        rw [List.take_of_length_le (by rw [hlen.out]; omega)] at h
        exact h
      have hfo : ∀ f ∈ fs, FileOk f ∧ ∃ B w, HdI B w f.h f.a f.n f.c f.rs := fun f hf => ⟨hok.out f hf, B, w, (ho.out.ok f hf).hd⟩
      have hL : Asd (xs.length + 1 ≤ 1048576) := ⟨by omega⟩
      have hxok2 : ∀ y ∈ xs ++ [zop 3 none 0 0 []], OpOk B w y := by
        intro y hy
        rcases List.mem_append.1 hy with hy | hy
        · exact hxok y hy
        · rw [List.mem_singleton.1 hy]
          exact ⟨hd0 B w, dat0 B w⟩
      obtain ⟨ga, gc, rfl⟩ := own_slice hown
      obtain ⟨LX, hLX⟩ : ∃ z : Nat, Asd (xs.length = z) := ⟨_, ⟨rfl⟩⟩
      rw [hLX.out] at hL hown ⊢
      replace hown := Asd.mk hown
      have hL2 : (LX : Int) + 1 ≤ 1048576 := by have := hL.out; omega
      replace hall2 := Asd.mk hall2
      replace hfo := Asd.mk hfo
      replace hxok2 := Asd.mk hxok2
      replace hbl := Asd.mk hbl
      clear hall hxl hxok hjn
      obtain ⟨M, hM⟩ : ∃ M : Nat, Asd (LX + 1 = M) := ⟨_, ⟨rfl⟩⟩
      have e2 : Asd ((xs ++ [zop 3 none 0 0 []]).length = M) := ⟨by rw [List.length_append, hLX.out, ← hM.out]; rfl⟩
      have hbq : ((M : Int) == (LX : Int) + 1) = true := by have := hM.out; simp; omega
      have hMb : (M : Int) ≤ 1048576 := by have := hM.out; omega
      have bl5 := Asd.mk (hbl.out.alloc hbl.out.size (.cells (zop 3 none 0 0 []).cells.toArray 34))
      go_upto_region 24 with (first
        | (at_builtin; refine wpList_append_own _ rfl _ _ 22 rfl w.heap.size 34 i0 (.agg (zop 0 none 0 0 []).cells.toArray) 23 248 Tryz.underlying22 hi hz0 hz1 hz2 rfl (by decide) _ _ _ rfl (hown.out.alloc _) ⟨wr.heap.size, 0, none⟩ 1 1 (zop 3 none 0 0 []).cells rfl rfl (cells_new wr (zop 3 none 0 0 []).cells 34) (zop_one 3 none 0 0 []) (by unfold maxLen; have := hL.out; omega) (by have := hL.out; omega) (by have := hbl.out.size; show w.heap.size ≤ (wr.heap.push _).size; simp; omega) ?_; intro v' w6 hown' hgrow6 hnil6; have bl6 := bl5.out.grown hgrow6 bl5.out.size (fun j hj => (hown.out.lt j hj).1); obtain ⟨oa3, c3, rfl, hops⟩ := ops_row (B := B) (w := w) (xs := xs ++ [zop 3 none 0 0 []]) e2.out (by rw [opCs_snoc, ← hM.out]; exact hown') bl6 hB bl6.size hxok2.out (by omega); have h6 := Asd.mk (script_any G w6.heap.size oa3 M c3 _ w6 ((hgl.out.below (bl6.mono hB)).mono (Nat.le_trans hB bl6.size) (Nat.le_refl _)) ((hes.out.below (bl6.mono hB)).mono (Nat.le_trans hB bl6.size)) hops); replace bl6 := Asd.mk bl6; clear hown' hgrow6 hnil6 hops)
        | (go_at_call 6; refine h6.out.mono ?_; rintro e w7 ⟨v7, bv, ds, bA, rfl, hrun, hrow, hrowb, hb7⟩; obtain ⟨gp, cap, rfl, hcap1, hcap2, hD⟩ := row36 hrow ((run_len hrun).trans e2.out); obtain ⟨hz, o, hfs, hbo⟩ := law_pieces hall2.out hfo.out hrun; rw [hbo] at hrowb; have hdsl := Asd.mk ((run_len hrun).trans e2.out); have bl7 := Asd.mk (bl6.out.trans (hb7.mono bl6.out.size)); replace hrowb := Asd.mk hrowb; replace hD := Asd.mk hD; replace hz := Asd.mk hz; replace hfs := Asd.mk hfs; clear h6 hrow hb7 hrun hbo))
      have hcapI : (M : Int) ≤ cap := by omega
      clear hcap1 hcap2
      go_wp2
      go_loopw [94] (fun i wq => ∃ k : Nat, k ≤ M ∧ i = .int .i64 k ∧ Below w7.heap.size w7 wq) (fun i _ => M - (intOf i).toNat)
      case atStart => exact ⟨0, by omega, rfl, Below.refl _ _⟩
      case round =>
        obtain ⟨k, hk, rfl, hbk⟩ := hrel
        by_cases hk2 : k < M
        · obtain ⟨d, hd⟩ : ∃ d, ds[k]? = some d := ⟨_, List.getElem?_eq_getElem (by rw [hdsl.out]; omega)⟩
          obtain ⟨g, rfl, hg2, hdr⟩ := hD.out k d hd
          have he0 : d.e = 0 := hz.out d (List.mem_of_getElem? hd)
          have hdr3 : Asd (wr.rangeAt g (k * 3) [.int .i64 d.n, .int .i64 0, .int .i64 d.len]) := ⟨by have h := rangeAt_below hdr hbk hg2; unfold DoneI.cells at h; rw [he0] at h; exact h⟩
          replace hbk := Asd.mk hbk
          clear hd hdr he0
          go_upto_region 27 with (first
            | (refine wpList_load_mid rfl 36 (.tmp 96) rfl g (k * 3) rfl [.int .i64 d.n, .int .i64 0, .int .i64 d.len] _ hdr3.out Tryz.underlying36 rfl (by rw [info36s]; rfl) ?_)
            | (refine wpList_store_row rfl 36 (.tmp 18) (.tmp 97) rfl wr.heap.size #[.int .i64 d.n, .int .i64 0, .int .i64 d.len] rfl rfl 36 _ (heap_alloc_new _ _) (by rw [info36s]; rfl) rfl rfl ?_; rw [World.setRow_alloc_new]))
          go_wp2
          go_roundw
          case rel => exact ⟨k + 1, by omega, by go_num, hbk.out.alloc hbk.out.size _⟩
          case measure => simp [intOf]; omega
        · have bl8 := bl7.out.trans (hbk.mono bl7.out.size)
          have h13 := Asd.mk (write_any G B oa n c fs wr (hgl.out.below (bl8.mono hB)) (hes.out.below (bl8.mono hB)) (ho.out.below (bl8.mono hB)) hok.out)
          have hrb2 := Asd.mk (own_below hrowb.out hbk)
          replace bl8 := Asd.mk bl8
          replace hbk := Asd.mk hbk
          go_wp2_with (first
            | (go_at_call 13; refine h13.out.mono ?_; rintro e w8 ⟨bv2, o2, rfl, hfs2, hrow2, hb8⟩; have hoo := fss_det hfs.out hfs2; rw [← hoo] at hrow2; have h14 := Asd.mk (same_any (own_below hrb2.out hb8) hrow2); have bl9 := Asd.mk (bl8.out.trans (hb8.mono bl8.out.size)); clear h13 hfs2 hrow2 hb8 hoo)
            | (go_at_call 14; refine h14.out.mono ?_; rintro e w9 ⟨rfl, rfl⟩))
          go_ret
          exact ⟨by simp, bl9.out⟩
end Go.Proofs.YtpkilegnokajmaaGreatDoor
