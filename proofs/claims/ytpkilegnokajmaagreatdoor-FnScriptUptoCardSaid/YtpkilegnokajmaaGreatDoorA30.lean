/- laws.FnScript. -/
import Derived.Test.YtpkilegnokajmaaGreatDoorA27
set_option linter.unusedVariables false
set_option linter.unusedSimpArgs false
set_option linter.unnecessarySimpa false
set_option linter.unusedSectionVars false
namespace Go.Proofs.YtpkilegnokajmaaGreatDoor
open Go.RowKit Go.Maps
set_option maxRecDepth 100000 in
set_option maxHeartbeats 8000000 in
theorem fnScript_any (G : GlP) (B : Nat) (oa : Option Addr) (n c : Nat) (xs : List OpI) (w : World) (hgl : Gl G B w) (hes : Es G B w) (ho : OpsI B w oa n c xs) :
    Calls Tryz.prog 3 #[.slice oa n c] w fun e w' => e = .returned (.bool true) ∧ Below w.heap.size w w' := by
  have hB := hgl.size
  have hn : n ≤ 1048576 := ho.big
  have hnc : (n : Int) ≤ c := by have := ho.cap; omega
  have hlen := Asd.mk ho.len
  have h5 := Asd.mk (fits7_any B oa n c xs w ho hB)
  replace ho := Asd.mk ho
  replace hgl := Asd.mk hgl
  replace hes := Asd.mk hes
  go_enter Tryz.func3, Tryz.ntmps3
  go_wp2_with (first
    | (go_at_call 5; refine h5.out.mono ?_; rintro e w1 ⟨rfl, hb1⟩; have h6 := Asd.mk (script_any G B oa n c xs w1 (hgl.out.below (hb1.mono hB)) (hes.out.below (hb1.mono hB)) (ho.out.below (hb1.mono hB))); replace hb1 := Asd.mk hb1; clear h5)
    | (go_at_call 6; refine h6.out.mono ?_; rintro e w2 ⟨v, bv, ds, b, rfl, hrun, hrow, hrowb, hb2⟩; obtain ⟨gp, cap, rfl, hcap1, hcap2, hD⟩ := row36 hrow ((run_len hrun).trans hlen.out); obtain ⟨bp, bcap, rfl, hbc1, hbc2⟩ := row5 hrowb; obtain ⟨BL, hBL⟩ : ∃ z : Nat, Asd (b.out.length = z) := ⟨_, ⟨rfl⟩⟩; rw [hBL.out]; rw [hBL.out] at hbc1; have hbc : (BL : Int) ≤ bcap := (by omega); have hl2 := Asd.mk (hb1.out.trans (hb2.mono hb1.out.size)); replace hrun := Asd.mk hrun; replace hD := Asd.mk hD; clear h6 hrow hrowb hb2 hb1; have hcap1' : (n : Int) ≤ cap := by omega))
  go_loopw [5, 6, 7, 8, 30] (fun left begun closed before i wr => ∃ (k : Nat) (a : AS) (bg cl : Bool) (L : Int), k ≤ n ∧ i = .int .i64 k ∧ begun = .bool bg ∧ closed = .bool cl ∧ before = .int .i64 (a.out.length : Nat) ∧ left = .int .i64 L ∧ 0 ≤ L ∧ L ≤ 9223372036854775807 ∧ (cl = true → a.er = 1) ∧ (cl = false → Inv a ∧ L = a.nb) ∧ Run (xs.drop k) a (ds.drop k) b ∧ Below w2.heap.size w2 wr) (fun _ _ _ _ i _ => n - (intOf i).toNat)
  case atStart =>
    exact ⟨0, a0, false, false, 0, by omega, rfl, rfl, rfl, rfl, rfl, by decide, by decide, (fun h => by cases h), (fun _ => ⟨⟨rfl, by decide, by decide, by decide⟩, rfl⟩), hrun.out, Below.refl _ _⟩
  case round =>
    obtain ⟨k, a, bg, cl, L, hk, rfl, rfl, rfl, rfl, rfl, hL0, hL1, hcl1, hcl0, hrn, hbl⟩ := hrel
    by_cases hlt : k < n
    · have hbw := hl2.out.trans (hbl.mono hl2.out.size)
      obtain ⟨b0, o, x, haa, hbB, hget, hr, hok⟩ := (ho.out.below (hbw.mono hB)).get k hlt
      obtain ⟨d, a2, hd, hst, hrn2⟩ := run_next hrn hget
      obtain ⟨g, rfl, hgl2, hdr⟩ := hD.out k d hd
      have hdr2 : Asd (wr.rangeAt g (k * 3) d.cells) := ⟨rangeAt_below hdr hbl hgl2⟩
      obtain ⟨DC, hDC⟩ : ∃ C, Asd (C = d.cells) := ⟨_, ⟨rfl⟩⟩
      have lDC : Asd (DC.length = 3) := ⟨by rw [hDC.out]; rfl⟩
      have oDC : Asd (DC.toArray.all (·.oneCell') = true) := ⟨by rw [hDC.out]; exact all_oneCell_toArray (by intro v hv; unfold DoneI.cells at hv; simp at hv; rcases hv with rfl | rfl | rfl <;> rfl)⟩
      rw [← hDC.out] at hdr2
      obtain ⟨C, hC⟩ : ∃ C, Asd (C = x.cells) := ⟨_, ⟨rfl⟩⟩
      have lC : Asd (C.length = 23) := ⟨by rw [hC.out]; rfl⟩
      have oC : Asd (C.toArray.all (·.oneCell') = true) := ⟨by rw [hC.out]; exact x.oneA (by rw [hok.hd.rv]; rfl)⟩
      rw [← hC.out] at hr
      have hm1 := step_mono hst
      have hm2 := run_mono hrn2
      have hm3 := hst.1
      replace hr := Asd.mk hr
      replace hok := Asd.mk hok
      replace hst := Asd.mk hst
      replace hrn2 := Asd.mk hrn2
      replace hbl := Asd.mk hbl
      replace hbw := Asd.mk hbw
      replace hcl1 := Asd.mk hcl1
      replace hcl0 := Asd.mk hcl0
      clear hget hbB hrn hd hdr
      rw [haa]
      go_upto_region 11 with (first
        | (refine wpList_load_mid rfl 34 (.tmp 33) rfl b0 (o + k * 23) rfl C _ hr.out Tryz.underlying34 rfl (by rw [info34, lC.out]) ?_)
        | (refine wpList_store_row rfl 34 (.tmp 10) (.tmp 34) rfl wr.heap.size C.toArray rfl rfl 34 _ (heap_alloc_new _ _) (by rw [info34, List.size_toArray, lC.out]) (by show (23 : Nat) = _; rw [List.size_toArray, lC.out]) oC.out ?_; rw [World.setRow_alloc_new])
        | (refine wpList_load_mid rfl 36 (.tmp 37) rfl g (k * 3) rfl DC _ (fun j u hj => by rw [((Below.refl wr.heap.size wr).alloc (Nat.le_refl _) (.cells C.toArray 34)).cell (p := ⟨g, _, none⟩) (Nat.lt_of_lt_of_le hgl2 hbl.out.size)]; exact hdr2.out j u hj) Tryz.underlying36 rfl (by rw [info36s, lDC.out]) ?_)
        | (refine wpList_store_row rfl 36 (.tmp 11) (.tmp 38) rfl (wr.heap.size + 1) DC.toArray rfl rfl 36 _ (heap_alloc2_new _ _ _) (by rw [info36s, List.size_toArray, lDC.out]) (by show (3 : Nat) = _; rw [List.size_toArray, lDC.out]) oDC.out ?_; rw [setRow2]))
      obtain ⟨W, hW⟩ : ∃ W, Asd (W = (wr.alloc (.cells C.toArray 34)).alloc (.cells DC.toArray 36)) := ⟨_, ⟨rfl⟩⟩
      obtain ⟨N, hN⟩ : ∃ N, Asd (wr.heap.size = N) := ⟨_, ⟨rfl⟩⟩
      have z0 : ((wr.alloc (.cells C.toArray 34)).alloc (.cells DC.toArray 36)).heap[wr.heap.size]? = some (.cells C.toArray 34 (0, 0)) := blk_below (heap_alloc_new _ _) ((Below.refl _ _).alloc (Nat.le_refl _) _)
      have z1 : ((wr.alloc (.cells C.toArray 34)).alloc (.cells DC.toArray 36)).heap[wr.heap.size + 1]? = some (.cells DC.toArray 36 (0, 0)) := heap_alloc2_new _ _ _
      have zb : Below wr.heap.size wr ((wr.alloc (.cells C.toArray 34)).alloc (.cells DC.toArray 36)) := ((Below.refl _ _).alloc (Nat.le_refl _) _).alloc (by show wr.heap.size ≤ (wr.heap.push _).size; simp) _
      rw [← hW.out] at z0 z1 zb
      rw [← hW.out, hN.out]
      rw [hN.out] at z0 z1
      clear hW
      have bl2 := Asd.mk (hbl.out.trans (zb.mono hbl.out.size))
      have bw2 := Asd.mk (hbw.out.trans (zb.mono hbw.out.size))
      have ok2 := Asd.mk (hok.out.below (zb.mono (Nat.le_trans hB hbw.out.size)))
      clear zb
      have q0 : W.rangeAt N 0 x.cells := by rw [← hC.out]; exact rng0 z0
      have q1 := x.mid q0
      have c0 : W.cell? ⟨N, 0, none⟩ = some (.int .i64 x.kind) := x.first q0
      have c22 : W.cell? ⟨N, 22, none⟩ = some (.slice x.da x.dn x.dc) := x.last q0
      have y0 : W.rangeAt (N + 1) 0 d.cells := by rw [← hDC.out]; exact rng0 z1
      have d0 : W.cell? ⟨N + 1, 0, none⟩ = some (.int .i64 (d.n : Nat)) := y0 0 _ rfl
      have d1 : W.cell? ⟨N + 1, 1, none⟩ = some (.int .i64 d.e) := y0 1 _ rfl
      have d2 : W.cell? ⟨N + 1, 2, none⟩ = some (.int .i64 (d.len : Nat)) := y0 2 _ rfl
      obtain ⟨K, hK⟩ : ∃ K, Asd (x.kind = K) := ⟨_, ⟨rfl⟩⟩
      obtain ⟨DN, hDN⟩ : ∃ z : Int, Asd ((d.n : Int) = z) := ⟨_, ⟨rfl⟩⟩
      obtain ⟨DE, hDE⟩ : ∃ z : Int, Asd (d.e = z) := ⟨_, ⟨rfl⟩⟩
      obtain ⟨DL, hDL⟩ : ∃ z : Int, Asd ((d.len : Int) = z) := ⟨_, ⟨rfl⟩⟩
      obtain ⟨BF, hBF⟩ : ∃ z : Int, Asd ((a.out.length : Int) = z) := ⟨_, ⟨rfl⟩⟩
      obtain ⟨CH, hCH⟩ : ∃ C, Asd (C = x.h.cells) := ⟨_, ⟨rfl⟩⟩
      have lCH : Asd (CH.length = 21) := ⟨by rw [hCH.out]; rfl⟩
      have m1 : ¬ DL < BF := by rw [← hDL.out, ← hBF.out]; omega
      have m2 : ¬ (BL : Int) < DL := by rw [← hDL.out, ← hBL.out]; omega
      have m3 : ¬ DN < 0 := by rw [← hDN.out]; omega
      rw [← hCH.out] at q1
      rw [hK.out] at c0
      rw [hDN.out] at d0
      rw [hDE.out] at d1
      rw [hDL.out] at d2
      rw [hBF.out]
      rw [hBL.out] at hm2
      replace hm1 := Asd.mk hm1
      replace hm2 := Asd.mk hm2
      replace hm3 := Asd.mk hm3
      replace q0 := Asd.mk q0
      replace q1 := Asd.mk q1
      replace y0 := Asd.mk y0
      replace z0 := Asd.mk z0
      replace z1 := Asd.mk z1
      have next : ∀ (cl' : Bool) (L' : Int) (W' : World), Below W.heap.size W W' → 0 ≤ L' → L' ≤ 9223372036854775807 → (cl' = true → a2.er = 1) → (cl' = false → Inv a2 ∧ L' = a2.nb) → ∀ bg' : Bool,
          ∃ (k' : Nat) (a' : AS) (bg cl : Bool) (L : Int), k' ≤ n ∧ Value.int .i64 ((k : Int) + 1) = .int .i64 k' ∧ Value.bool bg' = .bool bg ∧ Value.bool cl' = .bool cl ∧ Value.int .i64 DL = .int .i64 (a'.out.length : Nat) ∧ Value.int .i64 L' = .int .i64 L ∧ 0 ≤ L ∧ L ≤ 9223372036854775807 ∧ (cl = true → a'.er = 1) ∧ (cl = false → Inv a' ∧ L = a'.nb) ∧ Run (xs.drop k') a' (ds.drop k') b ∧ Below w2.heap.size w2 W' := by
        intro cl' L' W' h1 h2 h3 h4 h5 bg'
        refine ⟨k + 1, a2, bg', cl', L', by omega, by go_num, rfl, rfl, ?_, rfl, h2, h3, h4, h5, hrn2.out, bl2.out.trans (h1.mono bl2.out.size)⟩
        rw [← hDL.out, hm3.out]
      replace next := Asd.mk next
      cases cl with
      | true =>
        have he := hcl1.out rfl
        obtain ⟨e1, e2, e3⟩ := step_closed hst.out he
        have e4 := run_closed hrn2.out (by rw [e1]; exact he)
        have e5 : DL = (BL : Int) := by rw [← hDL.out, ← hBL.out, e4, e1, e2]
        have he2 : Asd (a2.er = 1) := ⟨by rw [e1]; exact he⟩
        rw [hK.out] at e3
        subst e5
        clear he e1 e2 e4
        by_cases k3 : K = 3
        · subst k3
          clear e3
          have e6 : DN = 0 := by rw [← hDN.out, step_n hst.out (by rw [hK.out]; decide)]; rfl
          subst e6
          go_wp2
          go_ret
          exact ⟨rfl, bw2.out⟩
        · obtain ⟨n0, n5⟩ := e3 k3
          have e6 : DN = 0 := by rw [← hDN.out, n0]; rfl
          have e7 : DE = 5 := by rw [← hDE.out, n5]
          subst e6 e7
          clear n0 n5 e3
          by_cases k1 : K = 1
          · subst k1
            go_wp2
            exact ⟨next.out true L _ (Below.refl _ _) hL0 hL1 (fun _ => he2.out) (fun h => by cases h) bg, by simp [intOf]; omega⟩
          · go_wp2
            exact ⟨next.out true L _ (Below.refl _ _) hL0 hL1 (fun _ => he2.out) (fun h => by cases h) bg, by simp [intOf]; omega⟩
      | false =>
        obtain ⟨hinv, hLn⟩ := hcl0.out rfl
        replace hinv := Asd.mk hinv
        replace hLn := Asd.mk hLn
        by_cases k1 : K = 1
        · have hda := step_data hst.out (by rw [hK.out]; exact k1) hinv.out
          subst k1
          rw [← hLn.out, ok2.out.dt.len, hDE.out] at hda
          obtain ⟨hda1, hda2⟩ := hda
          replace hda1 := Asd.mk hda1
          replace hda2 := Asd.mk hda2
          have hdn : (x.dn : Int) ≤ 1048576 := by have := ok2.out.dt.big; omega
          have hdc : (x.dn : Int) ≤ x.dc := by have := ok2.out.dt.cap; omega
          cases bg with
          | false =>
            go_wp2
            go_ret
            exact ⟨rfl, bw2.out⟩
          | true =>
            by_cases hov : L < (x.dn : Int)
            · obtain ⟨e3, e4⟩ := hda1.out hov
              have e5 : DN ≤ L := by rw [← hDN.out]; exact e4
              subst e3
              clear e4
              go_wp2
              go_ret
              exact ⟨rfl, bw2.out⟩
            · obtain ⟨e3, e4, e5, e6⟩ := hda2.out hov
              have e7 : DN = (x.dn : Int) := by rw [← hDN.out, e4]
              subst e3 e7
              have h7 := Asd.mk e5
              have h8 := Asd.mk e6
              clear e4 e5 e6
              go_wp2
              exact ⟨next.out false (L - x.dn) _ (Below.refl _ _) (by omega) (by omega) (fun h => by cases h) (fun _ => ⟨h7.out, h8.out.symm⟩) true, by simp [intOf]; omega⟩
        · have e6 : DN = 0 := by rw [← hDN.out, step_n hst.out (by rw [hK.out]; exact k1)]; rfl
          subst e6
          by_cases hL : 0 < L
          · have hde : DE ≠ 0 := by rw [← hDE.out]; exact step_miss hst.out (by rw [hK.out]; exact k1) hinv.out.1 (by rw [← hLn.out]; exact hL)
            have hde2 : (DE != 0) = true := by simpa using hde
            go_wp2
            go_ret
            exact ⟨rfl, bw2.out⟩
          · have hL2 : L = 0 := by omega
            subst hL2
            have hnb : a.nb = 0 := hLn.out.symm
            replace hnb := Asd.mk hnb
            by_cases k3 : K = 3
            · obtain ⟨e1, e2, e3⟩ := step_close hst.out (by rw [hK.out]; exact k3) hinv.out hnb.out
              rw [hDE.out] at e1
              have e4 : DL.tmod 512 = 0 := by rw [← hDL.out, Int.tmod_eq_emod_of_nonneg (by omega)]; omega
              subst k3 e1
              replace e2 := Asd.mk e2
              replace e3 := Asd.mk e3
              go_wp2
              exact ⟨next.out true 0 _ (Below.refl _ _) (by decide) (by decide) (fun _ => e3.out) (fun h => by cases h) bg, by simp [intOf]; omega⟩
            · by_cases k0 : K = 0
              · subst k0
                have hp := plain_any B x.h x.a x.n x.c x.rs W ok2.out.hd (Nat.le_trans hB bw2.out.size)
                rw [← hCH.out] at hp
                replace hp := Asd.mk hp
                have htot : ∀ ra rc, totH (x.h.sp ra x.n rc) x.rs ≤ 1099511627776 := fun ra rc => by
                  have := ok2.out.hd.name
                  have := ok2.out.hd.link
                  have := ok2.out.hd.uname
                  have := ok2.out.hd.gname
                  have := ok2.out.hd.tot
                  show x.h.name.size + x.h.link.size + x.h.uname.size + x.h.gname.size + totR x.rs ≤ _
                  omega
                replace htot := Asd.mk htot
                go_upto_region 32 with (first
                  | (refine wpList_load_mid rfl 32 (.tmp 131) rfl N 1 rfl CH _ q1.out Tryz.underlying32 rfl (by rw [info32, lCH.out]) ?_)
                  | (go_at_call 8; refine hp.out.mono ?_; rintro e w3 ⟨ra, rc, rfl, hRs, hb3⟩; obtain ⟨C5, hC5⟩ : ∃ C, Asd (C = (x.h.sp ra x.n rc).cells) := ⟨_, ⟨rfl⟩⟩; have hc := choose_any (x.h.sp ra x.n rc) x.rs w3 hRs (htot.out ra rc); rw [← hC5.out] at hc; rw [← hC5.out]; replace hc := Asd.mk hc; replace hb3 := Asd.mk hb3; clear hp hRs)
                  | (go_at_call 7; refine hc.out.mono ?_; rintro e w4 ⟨hb4, h4, v, rfl, hv012, hv1, hv2⟩; obtain ⟨C4, hC4⟩ : ∃ C, Asd (C = h4.cells) := ⟨_, ⟨rfl⟩⟩; rw [← hC4.out]; have lC4 : Asd (C4.length = 21) := ⟨by rw [hC4.out]; rfl⟩; have oC4 : Asd (C4.toArray.all (·.oneCell') = true) := ⟨by rw [hC4.out]; exact h4.oneA⟩; replace hb4 := Asd.mk hb4; replace hv012 := Asd.mk hv012; replace hv1 := Asd.mk hv1; replace hv2 := Asd.mk hv2; clear hc)
                  | (refine wpList_store_row rfl 40 (.tmp 13) (.tmp 135) rfl w4.heap.size C4.toArray rfl rfl 40 _ (heap_alloc_new _ _) (by rw [info40, List.size_toArray, lC4.out]) (by show (21 : Nat) = _; rw [List.size_toArray, lC4.out]) oC4.out ?_; rw [World.setRow_alloc_new]))
                obtain ⟨W5, hW5⟩ : ∃ W5, Asd (W5 = w4.alloc (.cells C4.toArray 40)) := ⟨_, ⟨rfl⟩⟩
                obtain ⟨X, hX⟩ : ∃ X, Asd (w4.heap.size = X) := ⟨_, ⟨rfl⟩⟩
                have u0 := heap_alloc_new w4 (.cells C4.toArray 40)
                have ub2 : Below W.heap.size W (w4.alloc (.cells C4.toArray 40)) := (hb3.out.trans (hb4.out.mono hb3.out.size)).trans (((Below.refl _ _).alloc (Nat.le_refl _) _).mono (Nat.le_trans hb3.out.size hb4.out.size))
                rw [← hW5.out] at u0 ub2
                rw [← hW5.out, hX.out]
                rw [hX.out] at u0
                clear hW5
                have t0 : W5.cell? ⟨X, 0, none⟩ = some (.int .u8 h4.tf.toNat) := cell_blk u0 (by rw [hC4.out]; rfl)
                have t3 : W5.cell? ⟨X, 3, none⟩ = some (.int .i64 h4.size) := cell_blk u0 (by rw [hC4.out]; rfl)
                have c0' : W5.cell? ⟨N, 0, none⟩ = some (.int .i64 0) := by rw [ub2.cell (p := ⟨N, 0, none⟩) (blk_lt z0.out)]; exact c0
                have d1' : W5.cell? ⟨N + 1, 1, none⟩ = some (.int .i64 DE) := by rw [ub2.cell (p := ⟨N + 1, 1, none⟩) (blk_lt z1.out)]; exact d1
                have d2' : W5.cell? ⟨N + 1, 2, none⟩ = some (.int .i64 DL) := by rw [ub2.cell (p := ⟨N + 1, 2, none⟩) (blk_lt z1.out)]; exact d2
                have bw5 := Asd.mk (bw2.out.trans (ub2.mono bw2.out.size))
                clear c0 c22 d0 d1 d2
                replace u0 := Asd.mk u0
                replace ub2 := Asd.mk ub2
                obtain ⟨T, hT⟩ : ∃ z : Int, Asd ((h4.tf.toNat : Int) = z) := ⟨_, ⟨rfl⟩⟩
                obtain ⟨SZ, hSZ⟩ : ∃ z : Int, Asd (h4.size = z) := ⟨_, ⟨rfl⟩⟩
                rw [hT.out] at t0
                rw [hSZ.out] at t3
                rcases hv012.out with e | e | e
                · subst e
                  go_wp2
                  go_ret
                  exact ⟨rfl, bw5.out⟩
                · subst e
                  obtain ⟨f1, f2, f3⟩ := hv1.out rfl
                  obtain ⟨e1, e2, e3, e4⟩ := step_right ok2.out hst.out hK.out hinv.out hnb.out ra rc f3
                  rw [hDE.out] at e1
                  have e5 : DL.tmod 512 = 0 := by rw [← hDL.out, Int.tmod_eq_emod_of_nonneg (by omega)]; omega
                  have f4 : h4.size = x.h.size := f2
                  rw [← f1, ← f4, hSZ.out] at e4
                  subst e1
                  have hszr : 0 ≤ szOf SZ h4.tf ∧ szOf SZ h4.tf ≤ 9223372036854775807 := by
                    rw [← e4]
                    refine ⟨e3.2.1, ?_⟩
                    rw [e4, ← hSZ.out, f4]
                    have := ok2.out.hd.num.1
                    unfold i64R at this
                    unfold szOf
                    split <;> omega
                  by_cases h103 : T = 103
                  · subst h103
                    go_wp2
                    go_ret
                    exact ⟨rfl, bw5.out⟩
                  · obtain ⟨ho, hho⟩ : ∃ z : Bool, Asd (hdrOnly h4.tf = z) := ⟨_, ⟨rfl⟩⟩
                    have h9 : ∀ W, Calls Tryz.prog 9 #[.int .u8 T] W fun e w' => e = .returned (.bool (!ho)) ∧ W = w' := by
                      intro W
                      rw [← hT.out]
                      refine (hasData_any h4.tf W).mono ?_
                      rintro e w' ⟨rfl, rfl⟩
                      refine ⟨?_, rfl⟩
                      have : (decide (h4.tf.toNat < 49) || decide (54 < h4.tf.toNat)) = !ho := by
                        rw [← hho.out]
                        unfold hdrOnly
                        rw [Bool.eq_iff_iff]
                        simp
                        try omega
                      rw [this]
                    replace h9 := Asd.mk h9
                    replace e2 := Asd.mk e2
                    replace e3 := Asd.mk e3
                    have e6 : a2.nb = if ho then 0 else SZ := by rw [e4]; unfold szOf; rw [hho.out]
                    have hszr2 : ho = false → 0 ≤ SZ ∧ SZ ≤ 9223372036854775807 := by intro h; unfold szOf at hszr; rw [hho.out, h] at hszr; exact hszr
                    clear hszr e4 f4 f1 f2 f3
                    cases ho with
                    | true =>
                      have e7 : a2.nb = 0 := e6
                      replace e7 := Asd.mk e7
                      clear e6 hszr2
                      go_upto_region 36 with fail
                      go_quiet (fail)
                      go_wp2_with (go_at_call 9; refine (h9.out _).mono ?_; rintro e w7 ⟨rfl, rfl⟩)
                      exact ⟨next.out false 0 (W5.drewN _) (ub2.out.trans ⟨rfl, rfl, rfl, Nat.le_refl _, fun _ _ => rfl⟩) (by decide) (by decide) (fun h => by cases h) (fun _ => ⟨e3.out, e7.out.symm⟩) true, by simp [intOf]; omega⟩
                    | false =>
                      have e7 : a2.nb = SZ := e6
                      obtain ⟨z1', z2'⟩ := hszr2 rfl
                      replace e7 := Asd.mk e7
                      clear e6 hszr2
                      go_upto_region 36 with fail
                      go_quiet (fail)
                      go_wp2_with (go_at_call 9; refine (h9.out _).mono ?_; rintro e w7 ⟨rfl, rfl⟩)
                      exact ⟨next.out false SZ (W5.drewN _) (ub2.out.trans ⟨rfl, rfl, rfl, Nat.le_refl _, fun _ _ => rfl⟩) z1' z2' (fun h => by cases h) (fun _ => ⟨e3.out, e7.out.symm⟩) true, by simp [intOf]; omega⟩
                · subst e
                  obtain ⟨f1, f2⟩ := hv2.out rfl
                  by_cases h103 : T = 103
                  · subst h103
                    go_wp2
                    go_ret
                    exact ⟨rfl, bw5.out⟩
                  · have hpt : (x.h.sp ra x.n rc).prom.tf ≠ 103 := by
                      have hne : h4.tf ≠ 103 := by
                        intro e
                        exact h103 (by rw [← hT.out, e]; rfl)
                      rcases f1 with f1 | f1
                      · rw [← f1]; exact hne
                      · rw [f1] at hne
                        unfold SpH.prom
                        split
                        · show (if slB (x.h.sp ra x.n rc).name then (53 : UInt8) else 48) ≠ 103
                          split <;> decide
                        · exact hne
                    have hde : DE ≠ 0 := by rw [← hDE.out]; exact step_wrong ok2.out hst.out hK.out hinv.out hnb.out ra rc hpt f2
                    have hde2 : (DE != 0) = true := by simpa using hde
                    clear f1 f2 hpt
                    go_wp2
                    go_ret
                    exact ⟨rfl, bw5.out⟩
              · obtain ⟨e1, e2, e3, e4⟩ := step_flush hst.out (by rw [hK.out]; exact k0) (by rw [hK.out]; exact k1) (by rw [hK.out]; exact k3) hinv.out hnb.out
                rw [hDE.out] at e1
                have e5 : DL.tmod 512 = 0 := by rw [← hDL.out, Int.tmod_eq_emod_of_nonneg (by omega)]; omega
                subst e1
                replace e2 := Asd.mk e2
                replace e3 := Asd.mk e3
                replace e4 := Asd.mk e4
                have k3b : (K == 3) = false := by simpa using k3
                go_wp2
                exact ⟨next.out false 0 _ (Below.refl _ _) (by decide) (by decide) (fun h => by cases h) (fun _ => ⟨e3.out, e4.out.symm⟩) bg, by simp [intOf]; omega⟩
    · have hfin := hl2.out.trans (hbl.mono hl2.out.size)
      replace hfin := Asd.mk hfin
      clear hcl1 hcl0 hrn hbl
      go_wp2
      go_ret
      exact ⟨rfl, hfin.out⟩
end Go.Proofs.YtpkilegnokajmaaGreatDoor
