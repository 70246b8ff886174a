/- The specification's Can: the whole. The specification's Choose. -/
import Derived.Test.YtpkilegnokajmaaGreatDoorA25
import Derived.Laws.ResultCell
set_option linter.unusedVariables false
set_option linter.unusedSimpArgs false
set_option linter.unnecessarySimpa false
set_option linter.unusedSectionVars false
namespace Go.Proofs.YtpkilegnokajmaaGreatDoor
open Go.RowKit
set_option maxRecDepth 100000 in
set_option maxHeartbeats 8000000 in
theorem can_any (h : SpH) (rs : List (ByteArray × ByteArray)) (F : Int) (w : World) (hF : F = 1 ∨ F = 2 ∨ F = 3) (hr : RecS w h.ra h.rn rs) (hT : totH h rs ≤ 1099511627776) :
    Calls Tryz.prog 28 #[.agg h.cells.toArray, .int .i64 F] w (VBPost (CanOk h rs F) (CanBad h rs F) w) := by
  obtain ⟨C, hC⟩ : ∃ C, Asd (C = h.cells) := ⟨_, ⟨rfl⟩⟩
  obtain ⟨C2, hC2⟩ : ∃ C, Asd (C = h.prom.cells) := ⟨_, ⟨rfl⟩⟩
  obtain ⟨N, hN⟩ : ∃ N, Asd (w.heap.size = N) := ⟨_, ⟨rfl⟩⟩
  obtain ⟨PQ, hPQ⟩ : ∃ PQ, Asd (VBPost (CanOk h rs F) (CanBad h rs F) w = PQ) := ⟨_, ⟨rfl⟩⟩
  have lC : Asd (C.length = 21) := ⟨by rw [hC.out]; rfl⟩
  have lC2 : Asd (C2.length = 21) := ⟨by rw [hC2.out]; rfl⟩
  have oC2 : Asd (C2.toArray.all (·.oneCell') = true) := ⟨by rw [hC2.out]; exact h.prom.oneA⟩
  have hst := Asd.mk (fun W (hb : Below w.heap.size w W) => strange_any h rs W (hr.below hb) hT)
  have hnm : h.name.size ≤ 140737488351232 := by unfold totH at hT; omega
  have hpr := Asd.mk (fun W => promoted_any h W hnm)
  rw [← hC.out] at hst hpr
  rw [← hC2.out] at hpr
  rw [← hC.out, hPQ.out]
  replace hr := Asd.mk hr
  replace hT := Asd.mk hT
  go_enter Tryz.func28, Tryz.ntmps28
  go_upto_region 1 with fail
  obtain ⟨W, hW⟩ : ∃ W, Asd (W = w.alloc (.cells C.toArray 40 (0, 0))) := ⟨_, ⟨rfl⟩⟩
  have b0 := heap_alloc_new w (.cells C.toArray 40 (0, 0))
  have hb : Below w.heap.size w (w.alloc (.cells C.toArray 40 (0, 0))) := (Below.refl _ _).alloc (Nat.le_refl _) _
  rw [← hW.out] at b0 hb
  rw [hN.out] at b0
  rw [← hW.out, hN.out]
  clear hW
  replace hb := Asd.mk hb
  obtain ⟨sb, hsb⟩ : ∃ b, Asd (strB h rs = b) := ⟨_, ⟨rfl⟩⟩
  rw [hsb.out] at hst
  go_upto_if 10 with (first
    | (refine wpList_load_row rfl 40 (.tmp 2) rfl N rfl 40 C.toArray (0, 0) _ b0 Tryz.underlying40 rfl (by rw [info40, List.size_toArray, lC.out]) ?_)
    | (go_at_call 26; refine (hst.out _ hb.out).mono ?_; rintro e w1 ⟨rfl, k1⟩))
  have b1 := blk_below b0 k1
  have hb1 := Asd.mk (hb.out.trans (k1.mono hb.out.size))
  clear b0 k1 hb
  cases sb
  case true =>
    go_wp2
    rw [← hPQ.out]
    exact ⟨hb1.out, 0, V3.open_ _ _, rfl⟩
  go_upto_region 5 with (first
    | (refine wpList_load_row rfl 40 (.tmp 2) rfl N rfl 40 C.toArray (0, 0) _ b1 Tryz.underlying40 rfl (by rw [info40, List.size_toArray, lC.out]) ?_)
    | (go_at_call 27; refine (hpr.out _).mono ?_; rintro e w2 ⟨rfl, k2⟩; have b2 := blk_below b1 k2; have hb2 := Asd.mk (hb1.out.trans (k2.mono hb1.out.size)))
    | (refine wpList_store_row rfl 40 (.tmp 2) (.tmp 12) rfl N C2.toArray rfl rfl 40 _ b2 (by rw [info40, List.size_toArray, lC2.out]) (by rw [List.size_toArray, List.size_toArray, lC.out, lC2.out]) oC2.out ?_))
  have b3 := setRow_heap w2 N C.toArray C2.toArray 40 (0, 0) b2
  have hb3 := below_setRow hb2.out (g := N) (by rw [hN.out]; exact Nat.le_refl _) C2.toArray
  obtain ⟨W3, hW3⟩ : ∃ W3, Asd (W3 = w2.setRow N C2.toArray) := ⟨_, ⟨rfl⟩⟩
  rw [← hW3.out] at b3 hb3
  rw [← hW3.out]
  dsimp only [Act.put]
  clear b1 b2 k2 hb1 hb2 hW3 hst hpr lC
  obtain ⟨p, hp⟩ : ∃ p, Asd (p = h.prom) := ⟨_, ⟨rfl⟩⟩
  have hps : Asd (p.name = h.name ∧ p.link = h.link ∧ p.uname = h.uname ∧ p.gname = h.gname ∧ p.ra = h.ra ∧ p.rn = h.rn ∧ p.rc = h.rc ∧ p.fmt = h.fmt) := ⟨by rw [hp.out]; exact prom_same h⟩
  have hpt : Asd (p.tf.toNat ≠ 0) := ⟨by rw [hp.out]; exact prom_tf h⟩
  rw [← hp.out] at hC2
  have sz1 : p.name.size ≤ 140737488351232 := by rw [hps.out.1]; exact hnm
  have sz2 : p.link.size ≤ 140737488351232 := by rw [hps.out.2.1]; have := hT.out; unfold totH at this; omega
  have sz3 : p.uname.size ≤ 140737488351232 := by rw [hps.out.2.2.1]; have := hT.out; unfold totH at this; omega
  have sz4 : p.gname.size ≤ 140737488351232 := by rw [hps.out.2.2.2.1]; have := hT.out; unfold totH at this; omega
  have c0 : W3.cell? ⟨N, 0, none⟩ = some (.int .u8 p.tf.toNat) := cell_blk b3 (by rw [hC2.out]; rfl)
  have c1 : W3.cell? ⟨N, 1, none⟩ = some (.string p.name) := cell_blk b3 (by rw [hC2.out]; rfl)
  have c2 : W3.cell? ⟨N, 2, none⟩ = some (.string p.link) := cell_blk b3 (by rw [hC2.out]; rfl)
  have c7 : W3.cell? ⟨N, 7, none⟩ = some (.string p.uname) := cell_blk b3 (by rw [hC2.out]; rfl)
  have c8 : W3.cell? ⟨N, 8, none⟩ = some (.string p.gname) := cell_blk b3 (by rw [hC2.out]; rfl)
  have c17 : W3.cell? ⟨N, 17, none⟩ = some (.int .i64 p.maj) := cell_blk b3 (by rw [hC2.out]; rfl)
  have c18 : W3.cell? ⟨N, 18, none⟩ = some (.int .i64 p.min) := cell_blk b3 (by rw [hC2.out]; rfl)
  have hsl := Asd.mk (fun W => sSlashed_any p.name W sz1)
  obtain ⟨sl, hsl2⟩ : ∃ b, Asd (slB p.name = b) := ⟨_, ⟨rfl⟩⟩
  rw [hsl2.out] at hsl
  have htn := p.tf.toNat_lt
  replace b3 := Asd.mk b3
  replace hb3 := Asd.mk hb3
  have ht0 : ((p.tf.toNat : Int) != 0) = true := by rw [bne_iff_ne]; have := hpt.out; omega
  go_cut [60] from 13 to 59 (fun s wx => ∃ b : Bool, s = .bool b ∧ (b = false → A1 p) ∧ W3 = wx)
  case first =>
    by_cases q1 : p.tf.toNat < 48
    · have q1d : decide ((p.tf.toNat : Int) < 48) = true := decide_eq_true (by omega)
      have q1' : (p.tf.toNat : Int) < 48 := by omega
      go_wp2
      go_meet
      case rel => exact ⟨true, rfl, (fun h => by cases h), rfl⟩
    by_cases q2 : 55 < p.tf.toNat
    · have q1d : decide ((p.tf.toNat : Int) < 48) = false := decide_eq_false (by omega)
      have q2d : decide (55 < (p.tf.toNat : Int)) = true := decide_eq_true (by omega)
      have q2' : (55 : Int) < (p.tf.toNat : Int) := by omega
      have q1' : (48 : Int) ≤ (p.tf.toNat : Int) := by omega
      go_wp2
      go_meet
      case rel => exact ⟨true, rfl, (fun h => by cases h), rfl⟩
    have q1' : (48 : Int) ≤ (p.tf.toNat : Int) := by omega
    have q2' : (p.tf.toNat : Int) ≤ 55 := by omega
    have q1d : decide ((p.tf.toNat : Int) < 48) = false := decide_eq_false (by omega)
    have q2d : decide (55 < (p.tf.toNat : Int)) = false := decide_eq_false (by omega)
    go_wp2_with (go_at_call 44; refine (hsl.out _).mono ?_; rintro e w4 ⟨rfl, rfl⟩)
    all_goals
      go_meet
      case rel => exact ⟨_, rfl, (fun hbf => by first | (refine absurd hbf ?_; simp only [*, Bool.or_true, Bool.true_or, Bool.and_true, Bool.true_and, Bool.or_false, Bool.false_or]; done) | (refine ⟨by omega, by omega, fun h => ?_⟩; first | omega | (rw [hsl2.out] at h; contradiction))), rfl⟩
  case rest =>
  obtain ⟨bb, rfl, hA1, rfl⟩ := hcut
  replace hA1 := Asd.mk hA1
  go_upto_if 60 with fail
  go_cut [5] from 60 to 60 (fun s wx => ∃ v, s = .int .i64 v ∧ V3 (A1 p) False v ∧ W3 = wx)
  case first =>
    cases bb
    · go_wp2
      go_meet
      case rel => exact ⟨1, rfl, V3.right (hA1.out (by trivial)), rfl⟩
    · go_wp2
      go_meet
      case rel => exact ⟨0, rfl, V3.open_ _ _, rfl⟩
  case rest =>
  obtain ⟨v0, rfl, hv0, rfl⟩ := hcut
  clear hA1
  -- the numbers of a device
  go_upto_region 7 with fail
  go_cut [78] from 61 to 77 (fun s wx => ∃ b : Bool, s = .bool b ∧ W3 = wx)
  case first =>
    rcases (Bool.eq_false_or_eq_true ((p.tf.toNat : Int) != 51)).symm with e1 | e1
    · go_wp2
      go_meet
      case rel => exact ⟨_, rfl, rfl⟩
    rcases (Bool.eq_false_or_eq_true ((p.tf.toNat : Int) != 52)).symm with e2 | e2
    · go_wp2
      go_meet
      case rel => exact ⟨_, rfl, rfl⟩
    rcases (Bool.eq_false_or_eq_true (p.maj != 0)).symm with e3 | e3
    · go_wp2
      go_meet
      case rel => exact ⟨_, rfl, rfl⟩
    · go_wp2
      go_meet
      case rel => exact ⟨_, rfl, rfl⟩
  case rest =>
  obtain ⟨bb, rfl, rfl⟩ := hcut
  go_upto_if 78 with fail
  go_cut [5] from 78 to 78 (fun s wx => ∃ v, s = .int .i64 v ∧ V3 (A1 p) False v ∧ W3 = wx)
  case first =>
    cases bb
    · go_wp2
      go_meet
      case rel => exact ⟨v0, rfl, hv0, rfl⟩
    · go_wp2
      go_meet
      case rel => exact ⟨0, rfl, V3.open_ _ _, rfl⟩
  case rest =>
  obtain ⟨v1, rfl, hv1, rfl⟩ := hcut
  clear hv0
  have htx := Asd.mk (fun W => text_any p.name 256 F W sz1 hF)
  go_upto_region 10 with (go_at_call 45; refine (htx.out _).mono ?_; rintro e w4 ⟨rfl, n1, hn1, rfl⟩)
  go_cut [88] from 79 to 87 (fun s wx => ∃ b : Bool, s = .bool b ∧ (b = true → F = 1 ∧ n1 = 1) ∧ (b = false → F = 1 → n1 ≠ 1) ∧ W3 = wx)
  case first =>
    by_cases f1 : F = 1
    · have f1' : (F == 1) = true := by simpa using f1
      by_cases m1 : n1 = 1
      · have m1' : (n1 == 1) = true := by simpa using m1
        have HF := Asd.mk f1
        have HM := Asd.mk m1
        clear f1 m1 hF
        go_wp2
        go_meet
        case rel => exact ⟨true, rfl, (fun _ => ⟨HF.out, HM.out⟩), (fun h => by cases h), rfl⟩
      · have m1' : (n1 == 1) = false := by simpa using m1
        have HM := Asd.mk m1
        clear f1 m1 hF
        go_wp2
        go_meet
        case rel => exact ⟨false, rfl, (fun h => by cases h), (fun _ _ => HM.out), rfl⟩
    · have f1' : (F == 1) = false := by simpa using f1
      have HF := Asd.mk f1
      clear f1 hF
      go_wp2
      go_meet
      case rel => exact ⟨false, rfl, (fun h => by cases h), (fun _ h => absurd h HF.out), rfl⟩
  case rest =>
  obtain ⟨bb, rfl, hbt, hbf, rfl⟩ := hcut
  replace hbt := Asd.mk hbt
  replace hbf := Asd.mk hbf
  have hsp := Asd.mk (fun W => sSplits_any p.name W sz1)
  obtain ⟨spx, hspx⟩ : ∃ b, Asd (splB p.name = b) := ⟨_, ⟨rfl⟩⟩
  rw [hspx.out] at hsp
  go_upto_if 88 with fail
  go_cut [6] from 89 to 98 (fun s wx => ∃ v, s = .int .i64 v ∧ V3 (cP1 p F) (cQ1 p F) v ∧ W3 = wx)
  case first =>
    cases bb
    · go_wp2
      go_meet
      case rel => exact ⟨n1, rfl, ⟨hn1.1, (fun e => ⟨hn1.2.1 e, fun f1 => absurd e (hbf.out (by trivial) f1)⟩), (fun e => .inl (hn1.2.2 e))⟩, rfl⟩
    · have HO := Asd.mk (hn1.2.1 (hbt.out rfl).2)
      have HF := Asd.mk (hbt.out rfl).1
      clear hbt hbf
      by_cases s1 : p.name.size ≤ 100
      · have s1' : decide ((p.name.size : Int) ≤ 100) = true := decide_eq_true (by omega)
        go_wp2_with (go_at_call 46; refine (when_any _ _).mono ?_; rintro e w' ⟨rfl, v, hv, rfl⟩)
        go_meet
        case rel => exact ⟨v, rfl, hv.mono (fun _ => ⟨HO.out, fun _ => .inl s1⟩) (fun h => by simp at h), rfl⟩
      · have s1' : decide ((p.name.size : Int) ≤ 100) = false := decide_eq_false (by omega)
        go_wp2_with (first | (go_at_call 47; refine (hsp.out _).mono ?_; rintro e w' ⟨rfl, rfl⟩) | (go_at_call 46; refine (when_any _ _).mono ?_; rintro e w' ⟨rfl, v, hv, rfl⟩))
        go_meet
        case rel => exact ⟨v, rfl, hv.mono (fun h => ⟨HO.out, fun _ => .inr (by rw [hspx.out]; simpa using h)⟩) (fun h => .inr ⟨HF.out, by omega, by rw [hspx.out]; simpa using h⟩), rfl⟩
  case rest =>
  obtain ⟨n2, rfl, hn2, rfl⟩ := hcut
  clear hbt hbf hn1 hsp hspx htx
  have htl := Asd.mk (fun W => text_any p.link 100 F W sz2 hF)
  have hou := Asd.mk (fun W => owner_any p.uname F W sz3 hF)
  have hog := Asd.mk (fun W => owner_any p.gname F W sz4 hF)
  replace hv1 := Asd.mk hv1
  replace hn2 := Asd.mk hn2
  go_upto_region 12 with fail
  rename_i K12 hK12
  have hb3d : Asd (Below w.heap.size w W3.drew) := ⟨Below.drew hb3.out⟩
  go_region_held3 (fun w' => w'.cell? ⟨N, 2, none⟩ = some (.string p.link) ∧ w'.cell? ⟨N, 7, none⟩ = some (.string p.uname) ∧ w'.cell? ⟨N, 8, none⟩ = some (.string p.gname)) (go_keep)
    (first
    | (go_at_call 45; (with_reducible refine (htl.out _).mono ?_); rintro e w4 ⟨rfl, n3, hn3, rfl⟩)
    | (go_at_call 49; (with_reducible refine (hou.out _).mono ?_); rintro e w5 ⟨k5, n4, hn4, rfl⟩; (first | (have q5 := blk_below q6 k5; have l5 := l6.trans (k5.mono l6.size)) | (have q5 := blk_below (w := W3.drew) b3.out k5; have l5 := hb3d.out.trans (k5.mono hb3d.out.size))); have zw52 : w5.cell? ⟨N, 2, none⟩ = some (.string p.link) := cell_blk q5 (by rw [hC2.out]; rfl); have zw57 : w5.cell? ⟨N, 7, none⟩ = some (.string p.uname) := cell_blk q5 (by rw [hC2.out]; rfl); have zw58 : w5.cell? ⟨N, 8, none⟩ = some (.string p.gname) := cell_blk q5 (by rw [hC2.out]; rfl); clear k5)
    | (go_at_call 49; (with_reducible refine (hog.out _).mono ?_); rintro e w6 ⟨k6, n5, hn5, rfl⟩; (first | (have q6 := blk_below q5 k6; have l6 := l5.trans (k6.mono l5.size)) | (have q6 := blk_below (w := W3.drew) b3.out k6; have l6 := hb3d.out.trans (k6.mono hb3d.out.size))); have zw62 : w6.cell? ⟨N, 2, none⟩ = some (.string p.link) := cell_blk q6 (by rw [hC2.out]; rfl); have zw67 : w6.cell? ⟨N, 7, none⟩ = some (.string p.uname) := cell_blk q6 (by rw [hC2.out]; rfl); have zw68 : w6.cell? ⟨N, 8, none⟩ = some (.string p.gname) := cell_blk q6 (by rw [hC2.out]; rfl); clear k6)
    | (go_at_call 48; refine (all_new _ [v1, n2, n3, n4, n5] 5 _ _ rfl rfl (by omega) (V3.mem5 hv1.out hn2.out hn3 hn4 hn5)).mono ?_; rintro e w7 ⟨rfl, v9, hv9, rfl⟩))
  have hn : Nx28 9 p F N w PQ (cP2 p F) (cQ2 p F) := by
    have hr' : Asd (RecS w p.ra p.rn rs) := ⟨by rw [hps.out.2.2.2.2.1, hps.out.2.2.2.2.2.1]; exact hr.out⟩
    have hT' : Asd (totR rs ≤ 1099511627776) := ⟨by have := hT.out; unfold totH at this; omega⟩
    have hrl : Asd (rs.length = p.rn) := ⟨hr'.out.1⟩
    refine can_s9 p F N w PQ hF hN ⟨can_s10 p F N w PQ hF hN ⟨can_s11 p F N w PQ hF hN ⟨can_s12 p F N w PQ hF hN ⟨can_s13 p F N w PQ hF hN ⟨can_s14 p F N w PQ hF hN ⟨can_s15 p F N w PQ hF hN rs hrl ⟨can_s16 p F N w PQ hF hN rs hr' hT' ⟨can_s17 p F N w PQ _ _ ⟨?_⟩⟩⟩⟩⟩⟩⟩⟩⟩
    intro v W hv hb
    rw [← hPQ.out]
    exact ⟨hb, v, hv.mono (fun h => ⟨hsb.out, by rw [← hp.out]; exact h.1, h.2⟩) (fun h => ⟨hsb.out, by rw [← hp.out]; exact h⟩), rfl⟩
  exact hK12 _ _ (hn v9 _ _ _ _ _ _ _ _ _ _ _ _ _ _ _ _ _ _ _ _ _ _ _ _ _ _ _ _ _ _ _ _ _ _ _ _ _ _ _ _ _ _ _ _ _ _ _ _ _ _ _ _ _ _ _ _ _ _ _ _ _ _ _ _ _ _ _ _ _ _ _ _ _ _ _ _ _ _ _ _ _ _ _ _ _ _ _ _ _ _ _ _ _ _ _ _ _ _ _ _ _ _ _ _ _ _ _ _ _ _ _ _ _ _ _ _ _ _ _ _ _ _ _ _ _ _ _ _ _ _ _ _ _ _ _ _ _ _ _ _ _ _ _ _ _ _ _ _ _ _ _ _ _ _ _ _ _ _ _ _ _ _ _ _ _ _ _ _ _ _ _ _ _ _ _ _ _ _ _ _ _ _ _ _ _ _ _ _ _ _ _ _ _ _ _ _ _ _ _ _ _ _ _ _ _ _ _ _ _ _ _ _ _ _ _ _ _ _ _ _ _ _ _ _ _ _ _ _ _ _ _ _ _ _ _ _ ((hv9.five hv1.out hn2.out hn3 hn4 hn5).mono (fun h => h) (fun h => h)) (by rw [← hC2.out]; exact blk_below q6 ((Below.refl _ _).alloc (Nat.le_refl _) _)) (l6.alloc l6.size _))
/-- A header with its time rounded and without the others. -/
def SpH.rnd (h : SpH) : SpH := { h with ms := if 500000000 < h.mn then wrap64 (h.ms + 1) else h.ms, mn := 0, ha := false, hc := false, acs := 0, acn := 0, cs := 0, cn := 0 }
theorem results7 (tmps : Array Value) (w : World) (g : Nat) (cs : Array Value) (fr : Nat × Nat) (hp : tmps.getD 2 undef = .pointer (some ⟨g, 0, none⟩)) (hg : w.heap[g]? = some (.cells cs 40 fr)) (hi : cs.size = 21) :
    (results Tryz.f7 tmps).run Tryz.prog w = .ok (.tuple #[.agg cs, tmps.getD 3 undef]) w := by
  rw [results_cell_tmp (p := 2) (u := 3) (ty := 40) rfl, hp]
  have := run_loadVar_row (P := Tryz.prog) w g 40 40 cs fr _ hg Tryz.underlying40 rfl (by rw [info40, hi])
  simp only [asAddr, Sem.run_pure, Result.andThen, this]
theorem rng0 {w : World} {b : Nat} {C : List Value} {t : TypeId} {fr : Nat × Nat} (h : w.heap[b]? = some (.cells C.toArray t fr)) : w.rangeAt b 0 C := by
  intro j v hv
  simp [World.cell?, h, hv]
/-- What Choose hands back: the header, and what is known by the verdict. -/
def ChPost (h : SpH) (rs : List (ByteArray × ByteArray)) (w : World) (e : Ending) (w' : World) : Prop :=
  Below w.heap.size w w' ∧ ∃ h' : SpH, ∃ v, e = .returned (.tuple #[.agg h'.cells.toArray, .int .i64 v]) ∧ (v = 0 ∨ v = 1 ∨ v = 2) ∧ (v = 1 → h'.tf = h.prom.tf ∧ h'.size = h.size ∧ ((h.fmt ≠ 0 ∧ CanOk h rs h.fmt) ∨ (h.fmt = 0 ∧ strB h rs = false ∧ h.mn ≠ 500000000 ∧ ∃ F, (F = 1 ∨ F = 2 ∨ F = 3) ∧ CanOk h.rnd rs F))) ∧
    (v = 2 → (h'.tf = h.prom.tf ∨ h'.tf = h.tf) ∧ ((h.fmt ≠ 0 ∧ (h.fmt = 1 ∨ h.fmt = 2 ∨ h.fmt = 3) ∧ CanBad h rs h.fmt) ∨ (h.fmt = 0 ∧ strB h rs = false ∧ h.mn ≠ 500000000 ∧ CanBad h.rnd rs 1 ∧ CanBad h.rnd rs 2 ∧ CanBad h.rnd rs 3)))
set_option maxRecDepth 100000 in
set_option maxHeartbeats 8000000 in
theorem choose_any (h : SpH) (rs : List (ByteArray × ByteArray)) (w : World) (hr : RecS w h.ra h.rn rs) (hT : totH h rs ≤ 1099511627776) :
    Calls Tryz.prog 7 #[.agg h.cells.toArray] w (ChPost h rs w) := by
  obtain ⟨C, hC⟩ : ∃ C, Asd (C = h.cells) := ⟨_, ⟨rfl⟩⟩
  obtain ⟨C2, hC2⟩ : ∃ C, Asd (C = h.prom.cells) := ⟨_, ⟨rfl⟩⟩
  obtain ⟨N, hN⟩ : ∃ N, Asd (w.heap.size = N) := ⟨_, ⟨rfl⟩⟩
  have lC : Asd (C.length = 21) := ⟨by rw [hC.out]; rfl⟩
  have lC2 : Asd (C2.length = 21) := ⟨by rw [hC2.out]; rfl⟩
  have oC : Asd (C.toArray.all (·.oneCell') = true) := ⟨by rw [hC.out]; exact h.oneA⟩
  have oC2 : Asd (C2.toArray.all (·.oneCell') = true) := ⟨by rw [hC2.out]; exact h.prom.oneA⟩
  have hst := Asd.mk (fun W (hb : Below w.heap.size w W) => strange_any h rs W (hr.below hb) hT)
  have hnm : h.name.size ≤ 140737488351232 := by unfold totH at hT; omega
  have hpr := Asd.mk (fun W => promoted_any h W hnm)
  have hcan := Asd.mk (fun W (hb : Below w.heap.size w W) F hF => can_any h rs F W hF (hr.below hb) hT)
  rw [← hC.out] at hst hpr hcan
  rw [← hC2.out] at hpr
  rw [← hC.out]
  replace hr := Asd.mk hr
  replace hT := Asd.mk hT
  go_enter Tryz.func7, Tryz.ntmps7
  go_upto_region 1 with fail
  obtain ⟨W, hW⟩ : ∃ W, Asd (W = (w.alloc (.cells C.toArray 40 (0, 0))).alloc (.cells #[.int .u8 0, .string ⟨#[]⟩, .string ⟨#[]⟩, .int .i64 0, .int .i64 0, .int .i64 0, .int .i64 0, .string ⟨#[]⟩, .string ⟨#[]⟩, .int .i64 0, .int .i64 0, .bool false, .bool false, .int .i64 0, .int .i64 0, .int .i64 0, .int .i64 0, .int .i64 0, .int .i64 0, .slice none 0 0, .int .i64 0] 40 (0, 0))) := ⟨_, ⟨rfl⟩⟩
  obtain ⟨b0, b1, hb⟩ := alloc2 w (.cells C.toArray 40 (0, 0)) (.cells z40 40 (0, 0)) N hN.out
  have hW' : W = (w.alloc (.cells C.toArray 40 (0, 0))).alloc (.cells z40 40 (0, 0)) := hW.out
  rw [← hW'] at b0 b1 hb
  rw [← hW.out, hN.out]
  clear hW hW'
  replace hb := Asd.mk hb
  obtain ⟨sb, hsb⟩ : ∃ b, Asd (strB h rs = b) := ⟨_, ⟨rfl⟩⟩
  rw [hsb.out] at hst
  go_upto_if 7 with (first
    | (refine wpList_load_row rfl 40 (.tmp 1) rfl N rfl 40 C.toArray (0, 0) _ b0 Tryz.underlying40 rfl (by rw [info40, List.size_toArray, lC.out]) ?_)
    | (go_at_call 26; refine (hst.out _ hb.out).mono ?_; rintro e w1 ⟨rfl, k1⟩))
  have b3 := blk_below b0 k1
  have b4 := blk_below b1 k1
  have hb3 := Asd.mk (hb.out.trans (k1.mono hb.out.size))
  clear b0 b1 k1 hb
  cases sb
  case true =>
    go_wp2_with (first
      | (refine wpList_load_row rfl 40 (.tmp 1) rfl N rfl 40 C.toArray (0, 0) _ b3 Tryz.underlying40 rfl (by rw [info40, List.size_toArray, lC.out]) ?_)
      | (refine wpList_store_row rfl 40 (.tmp 2) (.tmp 8) rfl (N + 1) C.toArray rfl rfl 40 _ b4 (by rw [info40, List.size_toArray, lC.out]) (by rw [zero40, List.size_toArray, lC.out]) oC.out ?_))
    refine bodyPost_ret (results7 _ _ (N + 1) C.toArray (0, 0) rfl (setRow_heap _ _ _ _ _ _ b4) (by rw [List.size_toArray, lC.out])) rfl ?_
    exact ⟨below_setRow hb3.out (by rw [hN.out]; omega) _, h, 0, by rw [hC.out]; rfl, .inl rfl, (fun e => absurd e (by decide)), (fun e => absurd e (by decide))⟩
  have c20 : w1.cell? ⟨N, 20, none⟩ = some (.int .i64 h.fmt) := cell_blk b3 (by rw [hC.out]; rfl)
  by_cases f0 : h.fmt = 0
  · have HF0 := Asd.mk f0
    have f0' : (h.fmt != 0) = false := by simpa using f0
    clear f0
    have c10 : w1.cell? ⟨N, 10, none⟩ = some (.int .i64 h.mn) := cell_blk b3 (by rw [hC.out]; rfl)
    by_cases hm : h.mn = 500000000
    · have hm' : (h.mn == 500000000) = true := by simpa using hm
      clear hm
      go_wp2_with (first
        | (refine wpList_load_row rfl 40 (.tmp 1) rfl N rfl 40 C.toArray (0, 0) _ b3 Tryz.underlying40 rfl (by rw [info40, List.size_toArray, lC.out]) ?_)
        | (refine wpList_store_row rfl 40 (.tmp 2) (.tmp 22) rfl (N + 1) C.toArray rfl rfl 40 _ b4 (by rw [info40, List.size_toArray, lC.out]) (by rw [zero40, List.size_toArray, lC.out]) oC.out ?_))
      refine bodyPost_ret (results7 _ _ (N + 1) C.toArray (0, 0) rfl (setRow_heap _ _ _ _ _ _ b4) (by rw [List.size_toArray, lC.out])) rfl ?_
      exact ⟨below_setRow hb3.out (by rw [hN.out]; omega) _, h, 0, by rw [hC.out]; rfl, .inl rfl, (fun e => absurd e (by decide)), (fun e => absurd e (by decide))⟩
    have hm' : (h.mn == 500000000) = false := by simpa using hm
    have HM := Asd.mk hm
    clear hm
    have c9 : w1.cell? ⟨N, 9, none⟩ = some (.int .i64 h.ms) := cell_blk b3 (by rw [hC.out]; rfl)
    have fz : ∀ j, w1.frozen? ⟨N, j, none⟩ = false := fun j => frozen_blk b3
    replace b3 := Asd.mk b3
    replace b4 := Asd.mk b4
    obtain ⟨ms2, hms⟩ : ∃ x, Asd (x = if 500000000 < h.mn then wrap64 (h.ms + 1) else h.ms) := ⟨_, ⟨rfl⟩⟩
    obtain ⟨z0, hz0⟩ : ∃ z, Asd (decide (500000000 < h.mn) = z) := ⟨_, ⟨rfl⟩⟩
    have ez := hz0.out
    go_upto_if 26 with fail
    clear ez
    go_cut [] from 27 to 32 (fun wx => wx.heap[N]? = some (.cells (C.set 9 (.int .i64 ms2)).toArray 40 (0, 0)) ∧ wx.heap[N + 1]? = some (.cells z40 40 (0, 0)) ∧ Below w.heap.size w wx)
    case first =>
      cases z0
      · have hq : Asd (C.set 9 (.int .i64 ms2) = C) := ⟨by
          have h1 := hz0.out
          simp only [decide_eq_false_iff_not] at h1
          rw [hms.out, if_neg h1, hC.out]
          rfl⟩
        go_wp2
        go_meet
        case rel => exact ⟨by rw [hq.out]; exact b3.out, b4.out, hb3.out⟩
      · have hq : Asd (ms2 = wrap64 (h.ms + 1)) := ⟨by
          have h1 := hz0.out
          simp only [decide_eq_true_eq] at h1
          rw [hms.out, if_pos h1]⟩
        go_wp2
        go_meet
        case rel => exact ⟨by rw [hq.out]; exact set_blk b3.out, by rw [Below.heap_setCell _ _ _ _ (by show N + 1 ≠ N; omega)]; exact b4.out, hb3.out.setCell (p := ⟨N, 9, none⟩) (by show w.heap.size ≤ N; rw [hN.out]; exact Nat.le_refl _) _⟩
    case rest =>
    obtain ⟨b5, b6, hb5⟩ := hcut
    clear c20 c10 c9 fz
    have fz : ∀ j, wc.frozen? ⟨N, j, none⟩ = false := fun j => frozen_blk b5
    have d10 : wc.cell? ⟨N, 10, none⟩ = some (.int .i64 h.mn) := cell_blk b5 (by rw [hC.out]; rfl)
    have d11 : wc.cell? ⟨N, 11, none⟩ = some (.bool h.ha) := cell_blk b5 (by rw [hC.out]; rfl)
    have d12 : wc.cell? ⟨N, 12, none⟩ = some (.bool h.hc) := cell_blk b5 (by rw [hC.out]; rfl)
    have d13 : wc.cell? ⟨N, 13, none⟩ = some (.int .i64 h.acs) := cell_blk b5 (by rw [hC.out]; rfl)
    have d14 : wc.cell? ⟨N, 14, none⟩ = some (.int .i64 h.acn) := cell_blk b5 (by rw [hC.out]; rfl)
    have d15 : wc.cell? ⟨N, 15, none⟩ = some (.int .i64 h.cs) := cell_blk b5 (by rw [hC.out]; rfl)
    have d16 : wc.cell? ⟨N, 16, none⟩ = some (.int .i64 h.cn) := cell_blk b5 (by rw [hC.out]; rfl)
    replace b5 := Asd.mk b5
    replace b6 := Asd.mk b6
    replace hb5 := Asd.mk hb5
    go_upto_region 12 with fail
    obtain ⟨W2, hW2⟩ : ∃ W2, Asd (W2 = (((((((wc.setCell ⟨N, 10, none⟩ (.int .i64 0)).setCell ⟨N, 11, none⟩ (.bool false)).setCell ⟨N, 12, none⟩ (.bool false)).setCell ⟨N, 13, none⟩ (.int .i64 0)).setCell ⟨N, 14, none⟩ (.int .i64 0)).setCell ⟨N, 15, none⟩ (.int .i64 0)).setCell ⟨N, 16, none⟩ (.int .i64 0))) := ⟨_, ⟨rfl⟩⟩
    obtain ⟨C3, hC3⟩ : ∃ C, Asd (C = h.rnd.cells) := ⟨_, ⟨rfl⟩⟩
    have hNN : Asd (w.heap.size ≤ N) := ⟨by rw [hN.out]; exact Nat.le_refl _⟩
    have e5 : W2.heap[N]? = some (.cells C3.toArray 40 (0, 0)) := by
      have h1 := (set_blk (j := 16) (v := .int .i64 0) (set_blk (j := 15) (v := .int .i64 0) (set_blk (j := 14) (v := .int .i64 0) (set_blk (j := 13) (v := .int .i64 0) (set_blk (j := 12) (v := .bool false) (set_blk (j := 11) (v := .bool false) (set_blk (j := 10) (v := .int .i64 0) b5.out)))))))
      rw [← hW2.out] at h1
      rw [h1, hC3.out, hC.out, hms.out]
      rfl
    have e6 : W2.heap[N + 1]? = some (.cells z40 40 (0, 0)) := by
      rw [hW2.out, Below.heap_setCell _ _ _ _ (by show N + 1 ≠ N; omega), Below.heap_setCell _ _ _ _ (by show N + 1 ≠ N; omega), Below.heap_setCell _ _ _ _ (by show N + 1 ≠ N; omega), Below.heap_setCell _ _ _ _ (by show N + 1 ≠ N; omega), Below.heap_setCell _ _ _ _ (by show N + 1 ≠ N; omega), Below.heap_setCell _ _ _ _ (by show N + 1 ≠ N; omega), Below.heap_setCell _ _ _ _ (by show N + 1 ≠ N; omega)]
      exact b6.out
    have e7 : Below w.heap.size w W2 := by
      rw [hW2.out]
      exact (((((((hb5.out.setCell (p := ⟨N, 10, none⟩) hNN.out (.int .i64 0)).setCell (p := ⟨N, 11, none⟩) hNN.out (.bool false)).setCell (p := ⟨N, 12, none⟩) hNN.out (.bool false)).setCell (p := ⟨N, 13, none⟩) hNN.out (.int .i64 0)).setCell (p := ⟨N, 14, none⟩) hNN.out (.int .i64 0)).setCell (p := ⟨N, 15, none⟩) hNN.out (.int .i64 0)).setCell (p := ⟨N, 16, none⟩) hNN.out (.int .i64 0))
    rw [← hW2.out]
    clear b5 b6 hb5 d10 d11 d12 d13 d14 d15 d16 fz hW2
    have lC3 : Asd (C3.length = 21) := ⟨by rw [hC3.out]; rfl⟩
    have oC3 : Asd (C3.toArray.all (·.oneCell') = true) := ⟨by rw [hC3.out]; exact h.rnd.oneA⟩
    have hcanr := Asd.mk (fun W (hb : Below w.heap.size w W) F hF => can_any h.rnd rs F W hF (hr.out.below hb) hT.out)
    rw [← hC3.out] at hcanr
    replace e5 := Asd.mk e5
    replace e6 := Asd.mk e6
    replace e7 := Asd.mk e7
    go_wp2_with fail
    go_loopw [4] (fun i wr => ∃ k : Int, (k = 1 ∨ k = 2 ∨ k = 3 ∨ k = 4) ∧ i = .int .i64 k ∧ (∀ F, 1 ≤ F → F < k → CanBad h.rnd rs F) ∧ wr.heap[N]? = some (.cells C3.toArray 40 (0, 0)) ∧ wr.heap[N + 1]? = some (.cells z40 40 (0, 0)) ∧ Below w.heap.size w wr) (fun i _ => 4 - (intOf i).toNat)
    case atStart => exact ⟨1, .inl rfl, rfl, (fun F h1 h2 => by omega), e5.out, e6.out, e7.out⟩
    case round =>
      obtain ⟨k, hk, rfl, hbad, g5, g6, g7⟩ := hrel
      replace hbad := Asd.mk hbad
      replace g7 := Asd.mk g7
      by_cases k4 : k = 4
      · subst k4
        clear hk
        go_wp2_with (first
          | (refine wpList_load_row rfl 40 (.tmp 1) rfl N rfl 40 C3.toArray (0, 0) _ g5 Tryz.underlying40 rfl (by rw [info40, List.size_toArray, lC3.out]) ?_)
          | (refine wpList_store_row rfl 40 (.tmp 2) (.tmp 55) rfl (N + 1) C3.toArray rfl rfl 40 _ g6 (by rw [info40, List.size_toArray, lC3.out]) (by rw [zero40, List.size_toArray, lC3.out]) oC3.out ?_))
        refine bodyPost_ret (results7 _ _ (N + 1) C3.toArray (0, 0) rfl (setRow_heap _ _ _ _ _ _ g6) (by rw [List.size_toArray, lC3.out])) rfl ?_
        exact ⟨below_setRow g7.out (by rw [hN.out]; omega) _, h.rnd, 2, by rw [hC3.out]; rfl, .inr (.inr rfl), (fun e => absurd e (by decide)), (fun _ => ⟨.inr rfl, .inr ⟨HF0.out, hsb.out, HM.out, hbad.out 1 (by omega) (by omega), hbad.out 2 (by omega) (by omega), hbad.out 3 (by omega) (by omega)⟩⟩)⟩
      · have HK : Asd (k = 1 ∨ k = 2 ∨ k = 3) := ⟨by omega⟩
        have k3 : k ≤ 3 := by omega
        have k1 : 1 ≤ k := by omega
        clear hk k4
        go_upto_if 49 with (first
          | (refine wpList_load_row rfl 40 (.tmp 1) rfl N rfl 40 C3.toArray (0, 0) _ g5 Tryz.underlying40 rfl (by rw [info40, List.size_toArray, lC3.out]) ?_)
          | (go_at_call 28; refine (hcanr.out _ g7.out _ HK.out).mono ?_; rintro e w6 ⟨k6, v, hv, rfl⟩))
        have q6 := blk_below g5 k6
        have r6 := blk_below g6 k6
        have l6 := Asd.mk (g7.out.trans (k6.mono g7.out.size))
        clear g5 g6 k6
        have hv' := Asd.mk hv
        by_cases v2 : v = 2
        · subst v2
          have hB := Asd.mk (hv.2.2 rfl)
          clear hv
          go_wp2
          go_roundw
          case rel => exact ⟨k + 1, by have := HK.out; omega, rfl, (fun F h1 h2 => by rcases (show F < k ∨ F = k by omega) with h | h; exact hbad.out F h1 h; rw [h]; exact hB.out), q6, r6, l6.out⟩
          case measure => simp [intOf]; omega
        · have v2' : (v != 2) = true := by simpa using v2
          have HV := Asd.mk v2
          clear v2 hv
          have c20 : w6.cell? ⟨N, 20, none⟩ = some (.int .i64 h.fmt) := cell_blk q6 (by rw [hC3.out]; rfl)
          have fz : ∀ j, w6.frozen? ⟨N, j, none⟩ = false := fun j => frozen_blk q6
          obtain ⟨hk2, hhk⟩ : ∃ x : SpH, Asd (x = { h.rnd with fmt := k }) := ⟨_, ⟨rfl⟩⟩
          obtain ⟨C4, hC4⟩ : ∃ C, Asd (C = hk2.cells) := ⟨_, ⟨rfl⟩⟩
          obtain ⟨C5, hC5⟩ : ∃ C, Asd (C = hk2.prom.cells) := ⟨_, ⟨rfl⟩⟩
          have lC4 : Asd (C4.length = 21) := ⟨by rw [hC4.out]; rfl⟩
          have lC5 : Asd (C5.length = 21) := ⟨by rw [hC5.out]; rfl⟩
          have oC5 : Asd (C5.toArray.all (·.oneCell') = true) := ⟨by rw [hC5.out]; exact hk2.prom.oneA⟩
          have hprk := Asd.mk (fun W => promoted_any hk2 W (by rw [hhk.out]; exact hnm))
          rw [← hC4.out, ← hC5.out] at hprk
          obtain ⟨W8, hW8⟩ : ∃ W8, Asd (W8 = w6.setCell ⟨N, 20, none⟩ (.int .i64 k)) := ⟨_, ⟨rfl⟩⟩
          have s6 : W8.heap[N]? = some (.cells C4.toArray 40 (0, 0)) := by
            rw [hW8.out, set_blk (j := 20) (v := .int .i64 k) q6, hC4.out, hC3.out, hhk.out]
            rfl
          have s7 : W8.heap[N + 1]? = some (.cells z40 40 (0, 0)) := by rw [hW8.out, Below.heap_setCell _ _ _ _ (by show N + 1 ≠ N; omega)]; exact r6
          have s8 : Asd (Below w.heap.size w W8) := ⟨by rw [hW8.out]; exact l6.out.setCell (p := ⟨N, 20, none⟩) hNN.out _⟩
          clear q6 r6
          go_upto_region 18 with fail
          rw [← hW8.out]
          clear c20 fz hW8
          go_wp2_with (first
            | (refine wpList_load_row rfl 40 (.tmp 1) rfl N rfl 40 C4.toArray (0, 0) _ s6 Tryz.underlying40 rfl (by rw [info40, List.size_toArray, lC4.out]) ?_)
            | (go_at_call 27; refine (hprk.out _).mono ?_; rintro e w9 ⟨rfl, k9⟩; have t7 := blk_below s7 k9; have t8 := Asd.mk (s8.out.trans (k9.mono s8.out.size)))
            | (refine wpList_store_row rfl 40 (.tmp 2) (.tmp 53) rfl (N + 1) C5.toArray rfl rfl 40 _ t7 (by rw [info40, List.size_toArray, lC5.out]) (by rw [zero40, List.size_toArray, lC5.out]) oC5.out ?_))
          refine bodyPost_ret (results7 _ _ (N + 1) C5.toArray (0, 0) rfl (setRow_heap _ _ _ _ _ _ t7) (by rw [List.size_toArray, lC5.out])) rfl ?_
          refine ⟨below_setRow t8.out (by rw [hN.out]; omega) _, hk2.prom, v, by rw [hC5.out]; rfl, hv'.out.1, (fun e => ⟨?_, ?_, .inr ⟨HF0.out, hsb.out, HM.out, k, HK.out, hv'.out.2.1 e⟩⟩), (fun e => absurd e HV.out)⟩
          · rw [hhk.out]; unfold SpH.prom SpH.rnd; dsimp only; split <;> rfl
          · rw [hhk.out]; unfold SpH.prom SpH.rnd; dsimp only; split <;> rfl
  · have f0' : (h.fmt != 0) = true := by simpa using f0
    have HF : Asd (h.fmt = 1 ∨ h.fmt = 2 ∨ h.fmt = 3) := ⟨by
      have := hsb.out
      unfold strB at this
      simp only [Bool.or_eq_false_iff, decide_eq_false_iff_not] at this
      omega⟩
    replace b3 := Asd.mk b3
    replace b4 := Asd.mk b4
    replace f0 := Asd.mk f0
    go_wp2_with fail
    refine wp_region_held_drew (S := (fun w' => w'.rangeAt N 0 C ∧ w'.cell? ⟨N, 20, none⟩ = some (.int .i64 h.fmt))) (by kernel_rfl) ?_ (fun hHeld => ?_)
    · exact ⟨rng0 b3.out, c20⟩
    refine wpAnyH_take (i := 0) (oi := { dst := some 12, op := Op.load 40 (Operand.tmp 1), type := 40, pos := "header.go:201", after := #[], guard := none }) (v := _) rfl (by kernel_rfl) (by kernel_rfl) (by kernel_rfl) (fun _ _ _ h => h) (yieldsIf_load_mid (by rfl) _ _ rfl N 0 rfl C _ (fun w' hw => hw.1) Tryz.underlying40 rfl (by rw [info40, lC.out])) (by assumption) ?_
    try simp only [Act.put, List.setIfInBounds_toArray, List.set_cons_zero, List.set_cons_succ]
    refine wpAnyH_take (i := 2) (oi := { dst := some 14, op := Op.load 40 (Operand.tmp 1), type := 40, pos := "header.go:201", after := #[], guard := none }) (v := _) rfl (by kernel_rfl) (by kernel_rfl) (by kernel_rfl) (fun _ _ _ h => h) (yieldsIf_load_mid (by rfl) _ _ rfl N 0 rfl C _ (fun w' hw => hw.1) Tryz.underlying40 rfl (by rw [info40, lC.out])) (by assumption) ?_
    try simp only [Act.put, List.setIfInBounds_toArray, List.set_cons_zero, List.set_cons_succ]
    refine takeV (i := 3) (v := ?_) rfl (by kernel_rfl) (fun _ _ _ h => h) (by rfl) ?_ (by assumption) ?_
    rotate_left
    · (intro w hSw; (try dsimp only at hSw); go_simp); all_goals (with_reducible rfl)
    try simp only [Act.put, List.setIfInBounds_toArray, List.set_cons_zero, List.set_cons_succ]
    refine takeV (i := 4) (v := ?_) rfl (by kernel_rfl) (fun _ _ _ h => h) (by rfl) ?_ (by assumption) ?_
    rotate_left
    · (intro w hSw; (try dsimp only at hSw); go_simp); all_goals (with_reducible rfl)
    try simp only [Act.put, List.setIfInBounds_toArray, List.set_cons_zero, List.set_cons_succ]
    refine wpAnyH_ready (rs := [1]) (by kernel_rfl) (by simp) ?_
    refine AllReadyH.cons (o := { dst := some 13, op := Op.call { callee := Callee.value (Operand.func 27), args := #[Operand.tmp 12], argTypes := #[40] }, type := 40, pos := "header.go:201", after := #[{ on := 0, ground := Ground.data }], guard := none }) rfl (fun K hK => ?_) AllReadyH.nil
    go_simp
    refine (hpr.out _).mono ?_
    rintro e w5 ⟨rfl, k5⟩
    have q5 := blk_below (w := w1.drew) b3.out k5
    have r5 := blk_below (w := w1.drew) b4.out k5
    have l5 := (Below.drew hb3.out).trans (k5.mono hb3.out.size)
    refine hK.out _ _ ?_ (fun hHeld => ?_)
    · exact ⟨rng0 q5, cell_blk q5 (by rw [hC.out]; rfl)⟩
    clear hK K
    try simp only [Act.put, List.setIfInBounds_toArray, List.set_cons_zero, List.set_cons_succ]
    refine wpAnyH_ready (rs := [5]) (by kernel_rfl) (by simp) ?_
    refine AllReadyH.cons (o := { dst := some 17, op := Op.call { callee := Callee.value (Operand.func 28), args := #[Operand.tmp 14, Operand.tmp 16], argTypes := #[40, 3] }, type := 3, pos := "header.go:201", after := #[{ on := 2, ground := Ground.data }, { on := 4, ground := Ground.data }, { on := 1, ground := Ground.chain }], guard := none }) rfl (fun K hK => ?_) AllReadyH.nil
    go_simp
    refine (hcan.out _ l5 h.fmt HF.out).mono ?_
    rintro e w6 ⟨k6, v, hv, rfl⟩
    have q6 := blk_below q5 k6
    have r6 := blk_below r5 k6
    have l6 := l5.trans (k6.mono l5.size)
    refine hK.out _ _ ?_ (fun hHeld => ?_)
    · exact ⟨rng0 q6, cell_blk q6 (by rw [hC.out]; rfl)⟩
    clear hK K
    try simp only [Act.put, List.setIfInBounds_toArray, List.set_cons_zero, List.set_cons_succ]
    refine wpAnyH_ready (rs := [6]) (by kernel_rfl) (by simp) ?_
    refine AllReadyH.cons (o := { dst := none, op := Op.store 40 (Operand.tmp 2) (Operand.tmp 13), type := 0, pos := "header.go:201", after := #[{ on := 1, ground := Ground.data }, { on := 5, ground := Ground.chain }, { on := 0, ground := Ground.phase }, { on := 1, ground := Ground.phase }, { on := 2, ground := Ground.textOnly Departure.lateStores }, { on := 3, ground := Ground.textOnly Departure.lateStores }, { on := 4, ground := Ground.textOnly Departure.lateStores }, { on := 5, ground := Ground.textOnly Departure.lateStoresUnsure }], guard := none }) rfl (fun K hK => ?_) AllReadyH.nil
    rw [if_pos (by rfl)]
    refine wp_store_row 40 (.tmp 2) (.tmp 13) rfl (N + 1) C2.toArray rfl rfl 40 _ r6 (by rw [info40, List.size_toArray, lC2.out]) (by rw [zero40, List.size_toArray, lC2.out]) oC2.out ?_
    refine hK.out _ _ ?_ (fun hHeld => ?_)
    · exact ⟨rng0 (by rw [setRow_other _ _ _ _ (by omega)]; exact q6), by rw [cell_setRow_other _ _ _ _ (by show N ≠ N + 1; omega)]; exact cell_blk q6 (by rw [hC.out]; rfl)⟩
    clear hK K
    try simp only [Act.put, List.setIfInBounds_toArray, List.set_cons_zero, List.set_cons_succ]
    refine takeV (i := 7) (v := ?_) rfl (by kernel_rfl) (fun _ _ _ h => h) (by rfl) ?_ (by assumption) ?_
    rotate_left
    · (intro w hSw; (try dsimp only at hSw); go_simp); all_goals (with_reducible rfl)
    try simp only [Act.put, List.setIfInBounds_toArray, List.set_cons_zero, List.set_cons_succ]
    refine wpAnyH_done (by kernel_rfl) ?_ _
    go_wp2
    refine bodyPost_ret (results7 _ _ (N + 1) C2.toArray (0, 0) rfl (setRow_heap _ _ _ _ _ _ r6) (by rw [List.size_toArray, lC2.out])) rfl ?_
    exact ⟨below_setRow l6 (by rw [hN.out]; omega) _, h.prom, v, by rw [hC2.out]; rfl, hv.1, fun e => ⟨rfl, by unfold SpH.prom; split <;> rfl, .inl ⟨f0.out, hv.2.1 e⟩⟩, fun e => ⟨.inl rfl, .inl ⟨f0.out, HF.out, hv.2.2 e⟩⟩⟩
end Go.Proofs.YtpkilegnokajmaaGreatDoor
