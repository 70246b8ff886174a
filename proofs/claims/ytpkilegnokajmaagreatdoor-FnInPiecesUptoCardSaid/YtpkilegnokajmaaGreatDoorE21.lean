/- WriteHeader. WriteHeader: the walk. impl.end: the code of an error. impl.format; what is missed, once more: the new error's block. -/
import Derived.Test.YtpkilegnokajmaaGreatDoorE14
import Derived.Test.YtpkilegnokajmaaGreatDoorE18
import Derived.Test.YtpkilegnokajmaaGreatDoorE20
import Derived.Test.YtpkilegnokajmaaGreatDoorA04
import Derived.Deep.MidRow
import Derived.Deep.DeepCutAuto
set_option linter.unusedVariables false
set_option linter.unusedSimpArgs false
set_option linter.unnecessarySimpa false
set_option linter.unusedSectionVars false
namespace Go.Proofs.YtpkilegnokajmaaGreatDoor
open Go.RowKit Go.Maps Go.Sort
theorem wCells_parts (s : WSt) (bb bc : Nat) : wCells s bb bc = [ifW bb, .int .i64 s.pad, ifC bc] ++ s.hdr ++ (cells s.blk ++ [s.err]) := by unfold wCells wA; simp
theorem Wr.putHd {B bw bb bc : Nat} {s : WSt} {w w' : World} (h : Wr B bw bb bc s w) (Y : List Value) (hY : Y.length = 20) (h1 : w'.heap[bw]? = some (.cells ([ifW bb, .int .i64 s.pad, ifC bc] ++ Y ++ (cells s.blk ++ [s.err])).toArray 104 (0, 0))) (hk : Kp (fun k => k = bw) w w') : Wr B bw bb bc (s.hd Y) w' :=
  ⟨by rw [wCells_parts]; exact h1, hk.get h.hc (fun e => h.n3 e.symm), buf_kp h.hb hk (fun k c t fr hk' ho => by subst hk'; rw [h.hw] at ho; cases ho; exact ⟨by decide, by decide⟩), hY, h.bl, h.Bw, h.Bc, h.n1, h.n2, h.n3⟩
theorem Wr.frKp {B bw bb bc : Nat} {s : WSt} {w w' : World} (h : Wr B bw bb bc s w) (hB : B ≤ w.heap.size) (hk : Kp (fun k => k = bw) w w') : Fr B w w' :=
  Fr.of_kp hk hB (fun k hk => by subst hk; exact h.Bw) (fun k o hk ho => by subst hk; rw [h.hw] at ho; cases ho; exact ⟨_, _, .inr (.inr (.inr rfl))⟩)
theorem Wr.hdSet {B bw bb bc : Nat} {s : WSt} {l : List Value} {w : World} (h : Wr B bw bb bc (s.hd l) w) (j : Nat) (hj : j < 20) (v : Value) : Wr B bw bb bc (s.hd (l.set j v)) (w.setCell ⟨bw, 3 + j, none⟩ v) := by
  have hl : l.length = 20 := h.hl
  refine h.set (3 + j) v _ ?_ rfl rfl (by show (l.set j v).length = 20; rw [List.length_set]; exact hl) h.bl
  rw [wCells_parts, wCells_parts]
  show ([ifW bb, .int .i64 s.pad, ifC bc] ++ l ++ (cells s.blk ++ [s.err])).set ([ifW bb, Value.int IntKind.i64 s.pad, ifC bc].length + j) v = _
  rw [set_mid _ _ _ _ _ (by omega)]
  rfl
theorem Wr.hdCell {B bw bb bc : Nat} {s : WSt} {l : List Value} {w : World} (h : Wr B bw bb bc (s.hd l) w) {j : Nat} {v : Value} (hv : l[j]? = some v) : w.cell? ⟨bw, 3 + j, none⟩ = some v := h.chdr (s := s.hd l) hv
theorem Wr.hdLoad {B bw bb bc : Nat} {s : WSt} {l : List Value} {w : World} (h : Wr B bw bb bc (s.hd l) w) : (Instr.loadAt 100 (.pointer (some ⟨bw, 3, none⟩))).run Tryz.prog w = .ok (.agg l.toArray) w := by
  have h1 := h.hw
  rw [wCells_parts] at h1
  exact run_loadAt_mid w bw 3 100 l _ (range_of_blk h1 rfl) Tryz.underlying100 rfl (by rw [info100]; have := h.hl; show some 20 = some l.length; rw [show l.length = 20 from this])
theorem Wr.hdRange {B bw bb bc : Nat} {s : WSt} {l : List Value} {w : World} (h : Wr B bw bb bc (s.hd l) w) : w.rangeAt bw 3 l := by
  have h1 := h.hw
  rw [wCells_parts] at h1
  exact range_of_blk h1 rfl
theorem hd_one (H : Hd) (hx : H.xat = .map none) (hr : ∃ m, H.recs = .map m) : ∀ v ∈ H.cells, v.oneCell' = true := by
  obtain ⟨m, hm⟩ := hr
  intro v hv
  unfold Hd.cells at hv
  rw [hx, hm] at hv
  simp only [List.mem_cons, List.not_mem_nil, or_false] at hv
  rcases hv with rfl | rfl | rfl | rfl | rfl | rfl | rfl | rfl | rfl | rfl | rfl | rfl | rfl | rfl | rfl | rfl | rfl | rfl | rfl | rfl <;> rfl
theorem SM.ofFr {B : Nat} {w w' : World} {b n : Nat} {D : DataW Unit} (h : SM w b n D) (f : Fr B w w') : SM w' b n D :=
  h.fr (B := B) (fun k o ho hc => f.kept k o ho (by rintro ⟨c, fz, h1 | h1 | h1 | h1⟩ <;> exact hc _ _ _ h1))
theorem RecM.ofFr {B C n : Nat} {v : Value} {D : DataW Unit} {w w' : World} (h : RecM v C n D w) (f : Fr B w w') {C' : Nat} (hC : C ≤ C') : RecM v C' n D w' := by
  rcases h with h | ⟨b, h1, h2, h3⟩
  · exact .inl h
  · exact .inr ⟨b, h1, Nat.lt_of_lt_of_le h2 hC, h3.ofFr f⟩
theorem has2_any (u p g b : Bool) (hb : u = b) (w : World) : Calls Tryz.prog 36 #[.int .i64 (fm u p g), .int .i64 2] w fun e w' => e = .returned (.bool b) ∧ w = w' := by
  refine (has_any (fm u p g) 2 w).mono ?_
  rintro e w' ⟨rfl, rfl⟩
  exact ⟨by rw [fm_has2, hb], rfl⟩
theorem has8_any (u p g b : Bool) (hb : g = b) (w : World) : Calls Tryz.prog 36 #[.int .i64 (fm u p g), .int .i64 8] w fun e w' => e = .returned (.bool b) ∧ w = w' := by
  refine (has_any (fm u p g) 8 w).mono ?_
  rintro e w' ⟨rfl, rfl⟩
  exact ⟨by rw [fm_has8, hb], rfl⟩
/-- What allowedFormats hands back, in one form. -/
def AfRes (H : Hd) (R : DataW Unit) (rn : Nat) (fu fp fg : Bool) (w w' : World) (u p g : Bool) (M v : Value) : Prop :=
  Below w.heap.size w w' ∧
  ((u = false ∧ p = false ∧ g = false ∧ (∃ x, v = .iface 151 x) ∧ (badH H = true ∨ (∃ D, PaxOf H R D ∧ ¬ AllRec D) ∨ (afU H R fu fp fg || afP H R fu fp fg || afG H R fu fp fg) = false)) ∨
   (badH H = false ∧ ∃ D n m, PaxOf H R D ∧ AllRec D ∧ n ≤ rn + 26 ∧ u = afU H R fu fp fg ∧ p = afP H R fu fp fg ∧ g = afG H R fu fp fg ∧ (u || p || g) = true ∧ M = .map (some m) ∧ SM w' m n D ∧ v = .nilIface))
theorem af_form {H : Hd} {R : DataW Unit} {rn : Nat} {fu fp fg : Bool} {w w' : World} {e : Ending} (h : AfPost H R rn fu fp fg w e w') :
    ∃ u p g M v, e = .returned (.tuple #[.int .i64 (fm u p g), M, v]) ∧ AfRes H R rn fu fp fg w w' u p g M v := by
  rcases h with ⟨⟨v, rfl, hb⟩, h2⟩ | ⟨h1, D, n, hD, hA, hn, v, rfl, hm, hb, hv⟩
  · exact ⟨false, false, false, _, _, rfl, hb, .inl ⟨rfl, rfl, rfl, ⟨_, rfl⟩, by rcases h2 with h2 | h2; exact .inl h2; exact .inr (.inl h2)⟩⟩
  · rcases hv with ⟨hv, rfl⟩ | ⟨hv, x, rfl⟩
    · exact ⟨_, _, _, _, _, rfl, hb, .inr ⟨h1, D, n, _, hD, hA, hn, rfl, rfl, rfl, hv, rfl, hm, rfl⟩⟩
    · refine ⟨_, _, _, _, _, rfl, hb, .inl ?_⟩
      have h3 := hv
      simp only [Bool.or_eq_false_iff] at h3
      exact ⟨h3.1.1, h3.1.2, h3.2, ⟨_, rfl⟩, .inr (.inr hv)⟩
/-- The Writer's state when the header's own block is laid. -/
def whS (s : WSt) (p : Nat) (H : Hd) : WSt := (((s.wr (List.replicate p 0)).pd 0).hd (whH H).cells)
/-- A map's keys, each once. -/
def KOk (D : DataW Unit) : Prop := (keysOf D).Nodup ∧ ∀ k, k ∈ keysOf D ↔ Maps.has D (.string k) = true
theorem SM.kok {w : World} {b n : Nat} {D : DataW Unit} (h : SM w b n D) : KOk D := by
  obtain ⟨es, hD, hpw, _⟩ := World.ownsMap.entries h law9
  obtain ⟨es', hD', hko⟩ := World.ownsMap.keysOf h
  obtain rfl : es = es' := by rw [hD] at hD'; simpa using hD'
  subst hD
  have hk : ∀ p ∈ es, ∃ x, p.1 = .string x := fun p hp => by obtain ⟨v, hv⟩ := hko p hp; obtain ⟨x, _, hx, _⟩ := Maps.keyOf_str Tryz.underlying9 hv; exact ⟨x, hx⟩
  have hpm : (keysOf (.map es)).Perm (strKeys (.map es)) := List.mergeSort_perm _ _
  refine ⟨hpm.nodup_iff.2 ?_, fun x => ?_⟩
  · show (es.map fun p => strOf p.1).Nodup
    refine List.pairwise_map.2 (hpw.imp_of_mem fun {p q} hp' hq' hne e => hne ?_)
    obtain ⟨a, ha⟩ := hk p hp'
    obtain ⟨b, hb⟩ := hk q hq'
    rw [ha, hb] at e ⊢
    exact congrArg _ e
  · rw [hpm.mem_iff, has_eq, List.any_eq_true]
    show x ∈ es.map (fun p => strOf p.1) ↔ _
    rw [List.mem_map]
    constructor
    · rintro ⟨p, hp', rfl⟩
      obtain ⟨a, ha⟩ := hk p hp'
      exact ⟨p, hp', by rw [ha]; simp [Lit.sameKey, strOf]⟩
    · rintro ⟨p, hp', hs⟩
      obtain ⟨a, ha⟩ := hk p hp'
      rw [ha] at hs
      exact ⟨p, hp', by rw [ha]; simpa [Lit.sameKey, strOf] using hs⟩
def PaxK (H : Hd) (R D : DataW Unit) : Prop := PaxOf H R D ∧ KOk D
def WhPost (G : GlP) (B bw bb : Nat) (s : WSt) (H : Hd) (R : DataW Unit) (fu fp fg : Bool) (w : World) (e : Ending) (w' : World) : Prop :=
  (∃ v bc', e = .returned (.iface 151 v) ∧ Wr B bw bb bc' s w' ∧ Fr B w w' ∧ (badH H = true ∨ (∃ D, PaxOf H R D ∧ ¬ AllRec D) ∨ (afU H R fu fp fg || afP H R fu fp fg || afG H R fu fp fg) = false)) ∨
  (badH H = false ∧ ∃ D bc', PaxK H R D ∧ AllRec D ∧ Fr B w w' ∧
    ((afU H R fu fp fg = true ∧ e = .returned .nilIface ∧ Wr B bw bb bc' (usSt s 0 H) w') ∨
     (afU H R fu fp fg = false ∧ afP H R fu fp fg = true ∧ (paxNeeds H D = true ∧ 1048576 < (paxData D).length) ∧ e = .returned (errV G.p4) ∧ Wr B bw bb bc' (s.er (errV G.p4)) w') ∨
     (afU H R fu fp fg = false ∧ afP H R fu fp fg = true ∧ ¬ (paxNeeds H D = true ∧ 1048576 < (paxData D).length) ∧ e = .returned .nilIface ∧ Wr B bw bb bc' (paxStAll s 0 H D) w') ∨
     (afU H R fu fp fg = false ∧ afP H R fu fp fg = false ∧ afG H R fu fp fg = true ∧ e = .returned .nilIface ∧ Wr B bw bb bc' (gnSt s 0 H) w')))
theorem er_same (s : WSt) (h : s.err = .nilIface) : s.er .nilIface = s := by cases s; cases h; rfl
end Go.Proofs.YtpkilegnokajmaaGreatDoor
namespace Go.Proofs.YtpkilegnokajmaaGreatDoor
open Go.RowKit Go.Maps
theorem gnSt_err (s : WSt) (p : Nat) (H : Hd) : (gnSt s p H).err = s.err := by
  show (gnS s p H).err = s.err
  unfold gnS
  rw [gnL_err, gnL_err]
theorem ite_err (c : Prop) [Decidable c] (a b : WSt) (v : Value) (h1 : a.err = v) (h2 : b.err = v) : (if c then a else b).err = v := by split; exact h1; exact h2
theorem paxSt1_err (s : WSt) (p : Nat) (H : Hd) (D : DataW Unit) : (paxSt1 s p H D).err = s.err := ite_err _ _ _ _ rfl rfl
theorem rawSt_err (s : WSt) (p : Nat) (z : Int) (f : UInt8) : (rawSt s p z f).err = s.err := rfl
theorem paxSt2_err (s : WSt) (p : Nat) (H : Hd) : (paxSt2 s p H).err = s.err := by unfold paxSt2; rw [rawSt_err, WSt.bk_err]
theorem paxSt_err (s : WSt) (p : Nat) (H : Hd) (D : DataW Unit) : (paxStAll s p H D).err = s.err :=
  ite_err _ _ _ _ (paxSt1_err s p H D) (by rw [paxSt2_err, paxSt1_err])
theorem wf_step {B bw bb bc : Nat} {s : WSt} {l : List Value} {w0 w : World} (h : Wr B bw bb bc (s.hd l) w ∧ Fr B w0 w) (hB : B ≤ w0.heap.size) (j : Nat) (hj : j < 20) (v : Value) : Wr B bw bb bc (s.hd (l.set j v)) (w.setCell ⟨bw, 3 + j, none⟩ v) ∧ Fr B w0 (w.setCell ⟨bw, 3 + j, none⟩ v) :=
  ⟨h.1.hdSet j hj v, h.2.trans (h.1.frSet (Nat.le_trans hB h.2.size) _ v)⟩
theorem wh_keeps (H : Hd) : (whH H).fmt = H.fmt ∧ (whH H).recs = H.recs ∧ (whH H).xat = H.xat ∧ (whH H).name = H.name ∧ (whH H).link = H.link := by
  have h1 : (hdProm H).fmt = H.fmt ∧ (hdProm H).recs = H.recs ∧ (hdProm H).xat = H.xat ∧ (hdProm H).name = H.name ∧ (hdProm H).link = H.link := by unfold hdProm; split <;> exact ⟨rfl, rfl, rfl, rfl, rfl⟩
  have h2 : ∀ K : Hd, (hdRound K).fmt = K.fmt ∧ (hdRound K).recs = K.recs ∧ (hdRound K).xat = K.xat ∧ (hdRound K).name = K.name ∧ (hdRound K).link = K.link := by intro K; unfold hdRound; split <;> exact ⟨rfl, rfl, rfl, rfl, rfl⟩
  have h3 := h2 (hdProm H)
  rw [h1.1, h1.2.1, h1.2.2.1, h1.2.2.2.1, h1.2.2.2.2] at h3
  exact h3
set_option maxRecDepth 100000 in
set_option maxHeartbeats 8000000 in
theorem wh_any (G : GlP) (B bw bb bc hb : Nat) (s : WSt) (w : World) (p : Nat) (H : Hd) (R : DataW Unit) (rn : Nat) (hgl : Gl G B w) (h : Wr B bw bb bc s w) (he : s.err = .nilIface) (hnb : s.nb ≤ 0) (hp : s.pad = (p : Int)) (hp2 : p ≤ 512) (hlim : s.out.length ≤ 8796093021696)
    (hhb : w.heap[hb]? = some (.cells H.cells.toArray 100 (0, 0))) (ok : H.Ok) (hn1 : H.name.size ≤ 1073741823) (hl1 : H.link.size ≤ 1073741823) (hr : RecM H.recs w.heap.size rn R w) (hxa : H.xat = .map none) (hRs : Small R) (hnr : 26 + rn < 1073741824)
    (fu fp fg : Bool) (hf : H.fmt = fm fu fp fg) (hlen : ∀ D, PaxK (whH H) R D → AllRec D → (paxData D).length ≤ 1073741824) :
    Calls Tryz.prog 17 #[.pointer (some ⟨bw, 0, none⟩), .pointer (some ⟨hb, 0, none⟩)] w (WhPost G B bw bb (whS s p H) (whH H) R fu fp fg w) := by
  have hB := hgl.size
  have hfl := flush_ok B bw bb bc s w p h hB he hnb hp hp2 (by omega)
  obtain ⟨s1, hs1⟩ : ∃ s1, Asd (s1 = (s.wr (List.replicate p 0)).pd 0) := ⟨_, ⟨rfl⟩⟩
  rw [← hs1.out] at hfl
  have e1 : s1.err = .nilIface := by rw [hs1.out]; exact he
  have e2 : s1.nb ≤ 0 := by rw [hs1.out]; exact hnb
  have e3 : s1.pad = ((0 : Nat) : Int) := by rw [hs1.out]; rfl
  have e4 : s1.out.length ≤ 8796093022208 := by rw [hs1.out]; show (s.out ++ List.replicate p 0).length ≤ _; rw [List.length_append, List.length_replicate]; omega
  have hone := hd_one H hxa (by rcases hr with ⟨h, _⟩ | ⟨b, h, _⟩ <;> exact ⟨_, h⟩)
  replace hone := Asd.mk hone
  replace he := Asd.mk he
  replace hp := Asd.mk hp
  replace hfl := Asd.mk hfl
  replace e1 := Asd.mk e1
  replace e3 := Asd.mk e3
  replace hxa := Asd.mk hxa
  replace hf := Asd.mk hf
  have okP := Asd.mk (hdProm_ok H ok)
  have okW := Asd.mk (whH_ok H ok)
  replace ok := Asd.mk ok
  replace hr := Asd.mk hr
  replace hlen := Asd.mk hlen
  replace hhb := Asd.mk hhb
  obtain ⟨C0, hC0⟩ : ∃ C0, Asd (C0 = H.cells) := ⟨_, ⟨rfl⟩⟩
  have l0 : C0.length = 20 := by rw [hC0.out]; rfl
  obtain ⟨H2, hH2⟩ : ∃ H2, Asd (H2 = whH H) := ⟨_, ⟨rfl⟩⟩
  obtain ⟨S2, hS2⟩ : ∃ S2, Asd (S2 = whS s p H) := ⟨_, ⟨rfl⟩⟩
  rw [← hH2.out, ← hS2.out]
  obtain ⟨PQ, hPQ⟩ : ∃ PQ, Asd (WhPost G B bw bb S2 H2 R fu fp fg w = PQ) := ⟨_, ⟨rfl⟩⟩
  rw [hPQ.out]
  go_enter Tryz.func17, Tryz.ntmps17
  go_upto_region 4 with (go_at_call 22; refine hfl.out.mono ?_; rintro e w1 ⟨rfl, h1, q1⟩)
  have hb1 : w1.heap[hb]? = some (.cells C0.toArray 100 (0, 0)) := q1.kept hb _ (by rw [hC0.out]; exact hhb.out) (by rintro ⟨c, fz, h | h | h | h⟩ <;> cases h)
  have hs1w := h1.hw
  rw [wCells_parts] at hs1w
  go_upto_region 5 with (first
    | (refine wpList_load_row rfl 100 (.tmp 16) rfl hb rfl 100 _ _ _ hb1 Tryz.underlying100 rfl (by rw [info100]; simp [l0]) ?_)
    | (refine wpList_storeMid rfl 100 (.tmp 19) (.tmp 17) rfl bw 3 _ s1.hdr _ C0 104 rfl rfl hs1w rfl (by rw [l0, h1.hl]) (by rw [info100]; simp [l0]) (by rw [hC0.out]; exact hone.out) ?_; intro w2 hw2 k2))
  have h2 : Wr B bw bb bc (s1.hd C0) w2 := h1.putHd C0 l0 hw2 k2
  have q2 : Fr B w w2 := q1.trans (h1.frKp (Nat.le_trans hB q1.size) k2)
  clear hw2 k2 hs1w hb1 h1 q1
  have hnm := ok.out.name
  have ct : w2.cell? ⟨bw, 3, none⟩ = some (.int .u8 H.tf.toNat) := h2.hdCell (j := 0) (by rw [hC0.out]; rfl)
  have cn : w2.cell? ⟨bw, 4, none⟩ = some (.string H.name) := h2.hdCell (j := 1) (by rw [hC0.out]; rfl)
  have gz := h2.fz 3
  obtain ⟨C1, hC1⟩ : ∃ C1, Asd (C1 = (hdProm H).cells) := ⟨_, ⟨rfl⟩⟩
  obtain ⟨z0, hz0⟩ : ∃ z, Asd (((H.tf.toNat : Int) == 0) = z) := ⟨_, ⟨rfl⟩⟩
  have ez := hz0.out
  go_upto_if 25 with fail
  clear ez
  go_cut [] from 26 to 39 (fun wx => Wr B bw bb bc (s1.hd C1) wx ∧ Fr B w wx)
  case first =>
    cases z0
    · have h0 : H.tf ≠ 0 := by intro h; have := hz0.out; rw [h] at this; cases this
      have eC : Asd (C1 = C0) := ⟨by rw [hC1.out, hC0.out]; unfold hdProm; rw [if_neg h0]⟩
      clear h0
      go_wp2_with fail
      go_meet
      case rel => exact ⟨by rw [eC.out]; exact h2, q2⟩
    · have h0 : H.tf = 0 := (tf_nat H.tf 0 (by omega)).2 (by have := hz0.out; simp only [beq_iff_eq] at this; omega)
      replace h0 := Asd.mk h0
      rcases (Bool.eq_false_or_eq_true (endsSlash H.name)) with hk | hk
      · have eC : Asd (C1 = C0.set 0 (.int .u8 53)) := ⟨by rw [hC1.out, hC0.out]; unfold hdProm; rw [if_pos h0.out, hk]; rfl⟩
        go_wp2_with (go_at_call 33; refine (slash_any H.name _ hnm).mono ?_; rw [hk]; rintro e w3 ⟨rfl, rfl⟩)
        go_meet
        case rel => exact ⟨by rw [eC.out]; exact h2.hdSet 0 (by omega) _, q2.trans (h2.frSet (Nat.le_trans hB q2.size) 3 _)⟩
      · have eC : Asd (C1 = C0.set 0 (.int .u8 48)) := ⟨by rw [hC1.out, hC0.out]; unfold hdProm; rw [if_pos h0.out, hk]; rfl⟩
        go_wp2_with (go_at_call 33; refine (slash_any H.name _ hnm).mono ?_; rw [hk]; rintro e w3 ⟨rfl, rfl⟩)
        go_meet
        case rel => exact ⟨by rw [eC.out]; exact h2.hdSet 0 (by omega) _, q2.trans (h2.frSet (Nat.le_trans hB q2.size) 3 _)⟩
  case rest =>
  clear ct cn gz h2 q2
  obtain ⟨h2, q2⟩ := hcut
  obtain ⟨H1, hH1⟩ : ∃ H1, Asd (H1 = hdProm H) := ⟨_, ⟨rfl⟩⟩
  have f1 : Asd (H1.fmt = H.fmt ∧ H1.recs = H.recs ∧ H1.xat = H.xat ∧ H1.name = H.name ∧ H1.link = H.link) := ⟨by rw [hH1.out]; unfold hdProm; split <;> exact ⟨rfl, rfl, rfl, rfl, rfl⟩⟩
  have hW : Asd (whH H = hdRound H1) := ⟨by rw [hH1.out]; rfl⟩
  rw [← hH1.out] at okP hC1
  have cf : wc.cell? ⟨bw, 22, none⟩ = some (.int .i64 H1.fmt) := h2.hdCell (j := 19) (by rw [hC1.out]; rfl)
  obtain ⟨C2, hC2⟩ : ∃ C2, Asd (C2 = (whH H).cells) := ⟨_, ⟨rfl⟩⟩
  obtain ⟨z1, hz1⟩ : ∃ z, Asd ((H1.fmt == 0) = z) := ⟨_, ⟨rfl⟩⟩
  have ez := hz1.out
  go_upto_if 45 with fail
  clear ez
  have l1 : C1.length = 20 := h2.hl
  go_cut [] from 46 to 65 (fun wx => Wr B bw bb bc (s1.hd C2) wx ∧ Fr B w wx)
  case first =>
    cases z1
    · have h0 : H1.fmt ≠ 0 := by intro h; have := hz1.out; rw [h] at this; cases this
      have eC : Asd (C2 = C1) := ⟨by rw [hC1.out, hC2.out, hW.out]; unfold hdRound; rw [if_neg h0]⟩
      clear h0
      go_wp2_with fail
      go_meet
      case rel => exact ⟨by rw [eC.out]; exact h2, q2⟩
    · have h0 : H1.fmt = 0 := by have := hz1.out; simpa using this
      have eC : Asd (C2 = (((((C1.set 9 (.int .u64 0)).set 10 (.int .i64 (roundT H1.mn H1.mx))).set 11 (.int .u64 0)).set 12 (.int .i64 0)).set 13 (.int .u64 0)).set 14 (.int .i64 0)) := ⟨by rw [hC1.out, hC2.out, hW.out]; unfold hdRound; rw [if_pos h0]; rfl⟩
      clear h0
      have k12 : wc.cell? ⟨bw, 12, none⟩ = some (.int .u64 H1.mn) := h2.hdCell (j := 9) (by rw [hC1.out]; rfl)
      have k13 : wc.cell? ⟨bw, 13, none⟩ = some (.int .i64 H1.mx) := h2.hdCell (j := 10) (by rw [hC1.out]; rfl)
      have hrd := Asd.mk (fun W => round_any H1.mn H1.mx W okP.out.mn okP.out.mx)
      unfold tmV at hrd
      go_wp2_with (go_at_call 34; refine (hrd.out _).mono ?_; rintro e w3 ⟨rfl, f3⟩; have h3 := h2.below f3; have m12 : w3.cell? ⟨bw, 12, none⟩ = some (.int .u64 H1.mn) := h3.hdCell (j := 9) (by rw [hC1.out]; rfl); have m13 : w3.cell? ⟨bw, 13, none⟩ = some (.int .i64 H1.mx) := h3.hdCell (j := 10) (by rw [hC1.out]; rfl); have m14 : w3.cell? ⟨bw, 14, none⟩ = some (.int .u64 H1.an) := h3.hdCell (j := 11) (by rw [hC1.out]; rfl); have m15 : w3.cell? ⟨bw, 15, none⟩ = some (.int .i64 H1.ax) := h3.hdCell (j := 12) (by rw [hC1.out]; rfl); have m16 : w3.cell? ⟨bw, 16, none⟩ = some (.int .u64 H1.cn) := h3.hdCell (j := 13) (by rw [hC1.out]; rfl); have m17 : w3.cell? ⟨bw, 17, none⟩ = some (.int .i64 H1.cx) := h3.hdCell (j := 14) (by rw [hC1.out]; rfl); have gz := h3.fz)
      go_meet
      case rel =>
        rw [eC.out]
        have q3 := q2.trans (Fr.of_below f3 (Nat.le_trans hB q2.size))
        exact wf_step (wf_step (wf_step (wf_step (wf_step (wf_step ⟨h3, q3⟩ hB 9 (by omega) _) hB 10 (by omega) _) hB 11 (by omega) _) hB 12 (by omega) _) hB 13 (by omega) _) hB 14 (by omega) _
  case rest =>
  clear cf h2 q2
  obtain ⟨h2, q2⟩ := hcut
  clear hz0 hz1 f1 hW okP hC1 hC0 l0 l1
  have hld := h2.hdRange
  have l2 : (Tryz.prog.info? 100).map (·.size) = some C2.length := by rw [info100]; have := h2.hl; show some 20 = some C2.length; rw [show C2.length = 20 from this]
  have kp := wh_keeps H
  have eS : Asd (S2 = s1.hd C2) := ⟨by rw [hS2.out]; unfold whS; rw [hs1.out, hC2.out]⟩
  have hn1' : H2.name.size ≤ 1073741823 := by rw [hH2.out, kp.2.2.2.1]; exact hn1
  have hl1' : H2.link.size ≤ 1073741823 := by rw [hH2.out, kp.2.2.2.2]; exact hl1
  have hA := allowed_any G B (whH H) R rn wc (q2.gl hgl) (by rw [kp.2.1]; exact hr.out.ofFr q2 q2.size) okW.out (by rw [kp.2.2.1]; exact hxa.out) hRs hnr fu fp fg (by rw [kp.1]; exact hf.out)
  rw [← hC2.out] at hA
  rw [← hH2.out] at hC2 okW hlen hA
  clear kp hH2
  replace hA := Asd.mk hA
  go_upto_region 15 with (first
    | (refine wpList_load_mid rfl 100 (.tmp 69) rfl bw 3 rfl C2 _ hld Tryz.underlying100 rfl l2 ?_)
    | (go_at_call 35; refine hA.out.mono ?_; rintro e w4 hpost; obtain ⟨u, pp, g, M, v, rfl, hbl, hres⟩ := af_form hpost))
  have h4 := h2.below hbl
  have q4 := q2.trans (Fr.of_below hbl (Nat.le_trans hB q2.size))
  have gl4 := q4.gl hgl
  clear hld h2 q2 l2
  have x1 : S2.err = .nilIface := by rw [eS.out]; exact e1.out
  have x2 : S2.nb ≤ 0 := by rw [eS.out]; exact e2
  have x3 : S2.pad = ((0 : Nat) : Int) := by rw [eS.out]; exact e3.out
  have x4 : S2.out.length ≤ 8796093022208 := by rw [eS.out]; exact e4
  have x5 : S2.hdr = H2.cells := by rw [eS.out]; exact hC2.out
  rw [← eS.out] at h4
  replace x1 := Asd.mk x1
  replace x3 := Asd.mk x3
  replace x5 := Asd.mk x5
  rcases hres with ⟨rfl, rfl, rfl, ⟨x, rfl⟩, hbad⟩ | ⟨hnbd, D, n, m, hD, hAll, hn, hu, hpp, hg, hany, rfl, hm, rfl⟩
  · go_wp2_with (first
      | (go_at_call 36; (with_reducible refine (has2_any false false false false rfl _).mono ?_); rintro e w5 ⟨rfl, rfl⟩)
      | (go_at_call 36; (with_reducible refine (has4_any false false false false rfl _).mono ?_); rintro e w5 ⟨rfl, rfl⟩)
      | (go_at_call 36; (with_reducible refine (has8_any false false false false rfl _).mono ?_); rintro e w5 ⟨rfl, rfl⟩))
    rw [← hPQ.out]
    exact .inl ⟨x, bc, rfl, h4, q4, hbad⟩
  · replace hu := Asd.mk hu
    replace hpp := Asd.mk hpp
    replace hg := Asd.mk hg
    have hK := Asd.mk hm.kok
    have hlD := hlen.out D ⟨hD, hm.kok⟩ hAll
    have hDs := paxOf_small okW.out hRs hD
    cases u
    · cases pp
      · cases g
        · cases hany
        · have hgn := gnu_any G B bw bb bc S2 w4 0 H2 gl4 h4 x1.out x2 x3.out (by omega) x4 x5.out okW.out hn1' hl1'
          replace hgn := Asd.mk hgn
          obtain ⟨S6, hS6⟩ : ∃ S6, Asd (S6 = gnSt S2 0 H2) := ⟨_, ⟨rfl⟩⟩
          rw [← hS6.out] at hgn
          have g6 : S6.err = .nilIface := by rw [hS6.out, gnSt_err]; exact x1.out
          replace g6 := Asd.mk g6
          go_wp2_with (first
            | (go_at_call 36; (with_reducible refine (has2_any false false true false rfl _).mono ?_); rintro e w5 ⟨rfl, rfl⟩)
            | (go_at_call 36; (with_reducible refine (has4_any false false true false rfl _).mono ?_); rintro e w5 ⟨rfl, rfl⟩)
            | (go_at_call 36; (with_reducible refine (has8_any false false true true rfl _).mono ?_); rintro e w5 ⟨rfl, rfl⟩)
            | (go_at_call 39; refine hgn.out.mono ?_; rintro e w6 ⟨rfl, bc', h6, q6⟩; have c6 := h6.cerr; have z6 := h6.fz 535))
          rw [← hPQ.out]
          have q7 := (q4.trans q6).trans (h6.frSet (Nat.le_trans hB (q4.trans q6).size) 535 .nilIface)
          have h7 := h6.setErr .nilIface
          rw [show ({ S6 with err := Value.nilIface } : WSt) = S6 from er_same S6 g6.out, hS6.out] at h7
          exact .inr ⟨hnbd, D, bc', ⟨hD, hK.out⟩, hAll, q7, .inr (.inr (.inr ⟨hu.out.symm, hpp.out.symm, hg.out.symm, rfl, h7⟩))⟩
      · have hpx := pax_any G B bw bb bc S2 w4 0 H2 D m n gl4 h4 x1.out x2 x3.out (by omega) x4 x5.out okW.out hm (by omega) hAll hDs hlD
        have h2t := fun W => has2_any false true g false rfl W
        replace h2t := Asd.mk h2t
        have h4t := fun W => has4_any false true g true rfl W
        replace h4t := Asd.mk h4t
        by_cases hbig : paxNeeds H2 D = true ∧ 1048576 < (paxData D).length
        · have hp2 : Calls Tryz.prog 38 #[.pointer (some ⟨bw, 0, none⟩), .pointer (some ⟨bw, 3, none⟩), .map (some m)] w4 fun e w' => e = .returned (.iface 182 (.pointer (some G.p4))) ∧ Wr B bw bb bc S2 w' ∧ Fr B w4 w' := by
            refine hpx.mono ?_
            rintro e w' (⟨_, h1, h2, h3⟩ | ⟨h0, _⟩)
            · exact ⟨h1, h2, h3⟩
            · exact absurd hbig h0
          replace hp2 := Asd.mk hp2
          replace hbig := Asd.mk hbig
          clear hpx
          go_wp2_with (first
            | (go_at_call 36; (with_reducible refine (h2t.out _).mono ?_); rintro e w5 ⟨rfl, rfl⟩)
            | (go_at_call 36; (with_reducible refine (h4t.out _).mono ?_); rintro e w5 ⟨rfl, rfl⟩)
            | (go_at_call 38; refine hp2.out.mono ?_; rintro e w6 ⟨rfl, h6, q6⟩; have c6 := h6.cerr; have z6 := h6.fz 535))
          rw [← hPQ.out]
          have q7 := (q4.trans q6).trans (h6.frSet (Nat.le_trans hB (q4.trans q6).size) 535 (errV G.p4))
          have h7 := h6.setErr (errV G.p4)
          exact .inr ⟨hnbd, D, bc, ⟨hD, hK.out⟩, hAll, q7, .inr (.inl ⟨hu.out.symm, hpp.out.symm, hbig.out, rfl, h7⟩)⟩
        · have hp2 : Calls Tryz.prog 38 #[.pointer (some ⟨bw, 0, none⟩), .pointer (some ⟨bw, 3, none⟩), .map (some m)] w4 fun e w' => e = .returned .nilIface ∧ ∃ bc', Wr B bw bb bc' (paxStAll S2 0 H2 D) w' ∧ Fr B w4 w' := by
            refine hpx.mono ?_
            rintro e w' (⟨h0, _⟩ | ⟨_, h1, h2⟩)
            · exact absurd h0 hbig
            · exact ⟨h1, h2⟩
          obtain ⟨S6, hS6⟩ : ∃ S6, Asd (S6 = paxStAll S2 0 H2 D) := ⟨_, ⟨rfl⟩⟩
          rw [← hS6.out] at hp2
          have g6 : S6.err = .nilIface := by rw [hS6.out, paxSt_err]; exact x1.out
          replace g6 := Asd.mk g6
          replace hp2 := Asd.mk hp2
          replace hbig := Asd.mk hbig
          clear hpx
          go_wp2_with (first
            | (go_at_call 36; (with_reducible refine (h2t.out _).mono ?_); rintro e w5 ⟨rfl, rfl⟩)
            | (go_at_call 36; (with_reducible refine (h4t.out _).mono ?_); rintro e w5 ⟨rfl, rfl⟩)
            | (go_at_call 38; refine hp2.out.mono ?_; rintro e w6 ⟨rfl, bc', h6, q6⟩; have c6 := h6.cerr; have z6 := h6.fz 535))
          rw [← hPQ.out]
          have q7 := (q4.trans q6).trans (h6.frSet (Nat.le_trans hB (q4.trans q6).size) 535 .nilIface)
          have h7 := h6.setErr .nilIface
          rw [show ({ S6 with err := Value.nilIface } : WSt) = S6 from er_same S6 g6.out, hS6.out] at h7
          exact .inr ⟨hnbd, D, bc', ⟨hD, hK.out⟩, hAll, q7, .inr (.inr (.inl ⟨hu.out.symm, hpp.out.symm, hbig.out, rfl, h7⟩))⟩
    · have hfit := afU_fits H2 R fu fp fg hu.out.symm
      have hus := ustar_any G B bw bb bc S2 w4 0 H2 gl4 h4 x1.out x2 x3.out (by omega) (by omega) x5.out okW.out hfit.1 hfit.2
      replace hus := Asd.mk hus
      clear hfit
      obtain ⟨S6, hS6⟩ : ∃ S6, Asd (S6 = usSt S2 0 H2) := ⟨_, ⟨rfl⟩⟩
      rw [← hS6.out] at hus
      have g6 : S6.err = .nilIface := by rw [hS6.out]; exact x1.out
      replace g6 := Asd.mk g6
      have h2t := fun W => has2_any true pp g true rfl W
      replace h2t := Asd.mk h2t
      go_wp2_with (first
        | (go_at_call 36; (with_reducible refine (h2t.out _).mono ?_); rintro e w5 ⟨rfl, rfl⟩)
        | (go_at_call 37; refine hus.out.mono ?_; rintro e w6 ⟨rfl, bc', h6, q6⟩; have c6 := h6.cerr; have z6 := h6.fz 535))
      rw [← hPQ.out]
      have q7 := (q4.trans q6).trans (h6.frSet (Nat.le_trans hB (q4.trans q6).size) 535 .nilIface)
      have h7 := h6.setErr .nilIface
      rw [show ({ S6 with err := Value.nilIface } : WSt) = S6 from er_same S6 g6.out, hS6.out] at h7
      exact .inr ⟨hnbd, D, bc', ⟨hD, hK.out⟩, hAll, q7, .inl ⟨hu.out.symm, rfl, h7⟩⟩
set_option maxRecDepth 100000 in
set_option maxHeartbeats 1000000 in
theorem wh_err (B bw bb bc : Nat) (s : WSt) (w : World) (x : Value) (t : TypeId) (v : Value) (h : Wr B bw bb bc s w) (he : s.err = .iface t v) :
    Calls Tryz.prog 17 #[.pointer (some ⟨bw, 0, none⟩), x] w fun e w' => e = .returned (.iface t v) ∧ w = w' := by
  go_enter Tryz.func17, Tryz.ntmps17
  go_wp2_with (go_at_call 22; refine (flush_err B bw bb bc s w t v h he).mono ?_; rintro e w1 ⟨rfl, rfl⟩)
  go_ret
  exact ⟨rfl, rfl⟩
set_option maxRecDepth 100000 in
set_option maxHeartbeats 1000000 in
theorem wh_miss (B bw bb bc : Nat) (s : WSt) (w : World) (x : Value) (h : Wr B bw bb bc s w) (hB : B ≤ w.heap.size) (he : s.err = .nilIface) (hnb : 0 < s.nb) :
    Calls Tryz.prog 17 #[.pointer (some ⟨bw, 0, none⟩), x] w fun e w' => ∃ n, B ≤ n ∧ e = .returned (.iface 182 (.pointer (some ⟨n, 0, none⟩))) ∧ Wr B bw bb bc s w' ∧ Fr B w w' := by
  have hf := Asd.mk (flush_miss B bw bb bc s w h hB he hnb)
  clear he
  go_enter Tryz.func17, Tryz.ntmps17
  go_wp2_with (go_at_call 22; refine hf.out.mono ?_; rintro e w1 ⟨n, hn, rfl, h1, q1⟩)
  go_ret
  exact ⟨n, hn, rfl, h1, q1⟩
end Go.Proofs.YtpkilegnokajmaaGreatDoor
namespace Go.Proofs.YtpkilegnokajmaaGreatDoor
open Go.RowKit
/-- The errors that variables hold lie apart, in blocks below B. -/
structure Es (G : GlP) (B : Nat) (w : World) : Prop where
  a0 : G.p0.block < B ∧ ∃ c t, w.heap[G.p0.block]? = some (.cells c t (0, 0))
  a1 : G.p1.block < B ∧ ∃ c t, w.heap[G.p1.block]? = some (.cells c t (0, 0))
  a2 : G.p2.block < B ∧ ∃ c t, w.heap[G.p2.block]? = some (.cells c t (0, 0))
  a3 : G.p3.block < B ∧ ∃ c t, w.heap[G.p3.block]? = some (.cells c t (0, 0))
  a4 : G.p4.block < B ∧ ∃ c t, w.heap[G.p4.block]? = some (.cells c t (0, 0))
  a5 : G.p5.block < B ∧ ∃ c t, w.heap[G.p5.block]? = some (.cells c t (0, 0))
  a6 : G.p6.block < B ∧ ∃ c t, w.heap[G.p6.block]? = some (.cells c t (0, 0))
  d01 : G.p0 ≠ G.p1
  d02 : G.p0 ≠ G.p2
  d03 : G.p0 ≠ G.p3
  d04 : G.p0 ≠ G.p4
  d05 : G.p0 ≠ G.p5
  d06 : G.p0 ≠ G.p6
  d12 : G.p1 ≠ G.p2
  d13 : G.p1 ≠ G.p3
  d14 : G.p1 ≠ G.p4
  d15 : G.p1 ≠ G.p5
  d16 : G.p1 ≠ G.p6
  d23 : G.p2 ≠ G.p3
  d24 : G.p2 ≠ G.p4
  d25 : G.p2 ≠ G.p5
  d26 : G.p2 ≠ G.p6
  d34 : G.p3 ≠ G.p4
  d35 : G.p3 ≠ G.p5
  d36 : G.p3 ≠ G.p6
  d45 : G.p4 ≠ G.p5
  d46 : G.p4 ≠ G.p6
  d56 : G.p5 ≠ G.p6
theorem Es.below {G : GlP} {B : Nat} {w w' : World} (h : Es G B w) (hb : Below B w w') : Es G B w' := by
  have hk : ∀ p : Addr, (p.block < B ∧ ∃ c t, w.heap[p.block]? = some (.cells c t (0, 0))) → (p.block < B ∧ ∃ c t, w'.heap[p.block]? = some (.cells c t (0, 0))) := fun p ⟨h1, c, t, h2⟩ => ⟨h1, c, t, by rw [hb.block _ h1]; exact h2⟩
  exact { h with a0 := hk _ h.a0, a1 := hk _ h.a1, a2 := hk _ h.a2, a3 := hk _ h.a3, a4 := hk _ h.a4, a5 := hk _ h.a5, a6 := hk _ h.a6 }
theorem Es.no {p q : Addr} {B : Nat} {w : World} (hne : p ≠ q) (ha : ∃ c t, w.heap[p.block]? = some (.cells c t (0, 0))) (hb : q.block < B ∧ ∃ c t, w.heap[q.block]? = some (.cells c t (0, 0))) : (binOp .eql 67 (.iface 182 (.pointer (some p))) (.iface 182 (.pointer (some q)))).run Tryz.prog w = .ok (.bool false) w := by
  obtain ⟨_, _, ha⟩ := ha
  obtain ⟨_, _, _, hb⟩ := hb
  exact eql_other hne ha hb
theorem eql_types (v : Value) (q : Addr) (w : World) : (binOp .eql 67 (.iface 151 v) (.iface 182 (.pointer (some q)))).run Tryz.prog w = .ok (.bool false) w := run_eql_iface_types (P := Tryz.prog) 151 182 _ _ Tryz.underlying67 (by decide) w
set_option maxRecDepth 100000 in
set_option maxHeartbeats 2000000 in
theorem end_nil (w : World) : Calls Tryz.prog 23 #[.nilIface] w fun e w' => e = .returned (.int .i64 0) ∧ w' = w := by
  go_enter Tryz.func23, Tryz.ntmps23
  go_wp2_with fail
  all_goals first | exact ⟨rfl, rfl⟩ | (go_ret; exact ⟨rfl, rfl⟩)
set_option maxRecDepth 100000 in
set_option maxHeartbeats 2000000 in
theorem end_p0 {G : GlP} {B : Nat} {w : World} (hg : Gl G B w) (h : Es G B w) : Calls Tryz.prog 23 #[errV G.p0] w fun e w' => e = .returned (.int .i64 3) ∧ w' = w := by
  unfold errV
  have g2 := hg.c2
  have e2 := Es.no (w := w) h.d02 h.a0.2 h.a2
  have g3 := hg.c3
  have e3 := Es.no (w := w) h.d03 h.a0.2 h.a3
  have g0 := hg.c0
  have e0 := eql_same G.p0 w
  go_enter Tryz.func23, Tryz.ntmps23
  go_wp2_with fail
  all_goals first | exact ⟨rfl, rfl⟩ | (go_ret; exact ⟨rfl, rfl⟩)
set_option maxRecDepth 100000 in
set_option maxHeartbeats 2000000 in
theorem end_p1 {G : GlP} {B : Nat} {w : World} (hg : Gl G B w) (h : Es G B w) : Calls Tryz.prog 23 #[errV G.p1] w fun e w' => e = .returned (.int .i64 5) ∧ w' = w := by
  unfold errV
  have g2 := hg.c2
  have e2 := Es.no (w := w) h.d12 h.a1.2 h.a2
  have g3 := hg.c3
  have e3 := Es.no (w := w) h.d13 h.a1.2 h.a3
  have g0 := hg.c0
  have e0 := Es.no (w := w) h.d01.symm h.a1.2 h.a0
  have g4 := hg.c4
  have e4 := Es.no (w := w) h.d14 h.a1.2 h.a4
  have g1 := hg.c1
  have e1 := eql_same G.p1 w
  go_enter Tryz.func23, Tryz.ntmps23
  go_wp2_with fail
  all_goals first | exact ⟨rfl, rfl⟩ | (go_ret; exact ⟨rfl, rfl⟩)
set_option maxRecDepth 100000 in
set_option maxHeartbeats 2000000 in
theorem end_p4 {G : GlP} {B : Nat} {w : World} (hg : Gl G B w) (h : Es G B w) : Calls Tryz.prog 23 #[errV G.p4] w fun e w' => e = .returned (.int .i64 4) ∧ w' = w := by
  unfold errV
  have g2 := hg.c2
  have e2 := Es.no (w := w) h.d24.symm h.a4.2 h.a2
  have g3 := hg.c3
  have e3 := Es.no (w := w) h.d34.symm h.a4.2 h.a3
  have g0 := hg.c0
  have e0 := Es.no (w := w) h.d04.symm h.a4.2 h.a0
  have g4 := hg.c4
  have e4 := eql_same G.p4 w
  go_enter Tryz.func23, Tryz.ntmps23
  go_wp2_with fail
  all_goals first | exact ⟨rfl, rfl⟩ | (go_ret; exact ⟨rfl, rfl⟩)
set_option maxRecDepth 100000 in
set_option maxHeartbeats 2000000 in
theorem end_new {G : GlP} {B : Nat} {w : World} (hg : Gl G B w) (h : Es G B w) (n : Nat) (hn : B ≤ n) (hc : ∃ c t, w.heap[n]? = some (.cells c t (0, 0))) : Calls Tryz.prog 23 #[.iface 182 (.pointer (some ⟨n, 0, none⟩))] w fun e w' => e = .returned (.int .i64 8) ∧ w' = w := by
  have hx : ∀ q : Addr, q.block < B → (⟨n, 0, none⟩ : Addr) ≠ q := fun q hq he => by rw [← he] at hq; exact absurd hq (by show ¬ n < B; omega)
  have g2 := hg.c2
  have e2 := Es.no (w := w) (hx _ h.a2.1) hc h.a2
  have g3 := hg.c3
  have e3 := Es.no (w := w) (hx _ h.a3.1) hc h.a3
  have g0 := hg.c0
  have e0 := Es.no (w := w) (hx _ h.a0.1) hc h.a0
  have g4 := hg.c4
  have e4 := Es.no (w := w) (hx _ h.a4.1) hc h.a4
  have g1 := hg.c1
  have e1 := Es.no (w := w) (hx _ h.a1.1) hc h.a1
  have g5 := hg.c5
  have e5 := Es.no (w := w) (hx _ h.a5.1) hc h.a5
  have g6 := hg.c6
  have e6 := Es.no (w := w) (hx _ h.a6.1) hc h.a6
  go_enter Tryz.func23, Tryz.ntmps23
  go_wp2_with fail
  all_goals first | exact ⟨rfl, rfl⟩ | (go_ret; exact ⟨rfl, rfl⟩)
set_option maxRecDepth 100000 in
set_option maxHeartbeats 2000000 in
theorem end_hdr {G : GlP} {B : Nat} {w : World} (hg : Gl G B w) (v : Value) : Calls Tryz.prog 23 #[.iface 151 v] w fun e w' => e = .returned (.int .i64 8) ∧ w' = w := by
  have g2 := hg.c2
  have e2 := eql_types v G.p2 w
  have g3 := hg.c3
  have e3 := eql_types v G.p3 w
  have g0 := hg.c0
  have e0 := eql_types v G.p0 w
  have g4 := hg.c4
  have e4 := eql_types v G.p4 w
  have g1 := hg.c1
  have e1 := eql_types v G.p1 w
  have g5 := hg.c5
  have e5 := eql_types v G.p5 w
  have g6 := hg.c6
  have e6 := eql_types v G.p6 w
  go_enter Tryz.func23, Tryz.ntmps23
  go_wp2_with fail
  all_goals first | exact ⟨rfl, rfl⟩ | (go_ret; exact ⟨rfl, rfl⟩)
def fmtU (k : Int) : Bool := decide (k = 1)
def fmtP (k : Int) : Bool := decide (k = 2)
def fmtG (k : Int) : Bool := decide (k = 3)
set_option maxRecDepth 100000 in
set_option maxHeartbeats 1000000 in
theorem format_any (k : Int) (w : World) : Calls Tryz.prog 41 #[.int .i64 k] w fun e w' => e = .returned (.int .i64 (fm (fmtU k) (fmtP k) (fmtG k))) ∧ w' = w := by
  by_cases h1 : k = 1
  · subst h1
    go_enter Tryz.func41, Tryz.ntmps41
    go_wp2_with fail
    all_goals first | exact ⟨rfl, rfl⟩ | (go_ret; exact ⟨rfl, rfl⟩)
  by_cases h2 : k = 2
  · subst h2
    go_enter Tryz.func41, Tryz.ntmps41
    go_wp2_with fail
    all_goals first | exact ⟨rfl, rfl⟩ | (go_ret; exact ⟨rfl, rfl⟩)
  by_cases h3 : k = 3
  · subst h3
    go_enter Tryz.func41, Tryz.ntmps41
    go_wp2_with fail
    all_goals first | exact ⟨rfl, rfl⟩ | (go_ret; exact ⟨rfl, rfl⟩)
  have e : fm (fmtU k) (fmtP k) (fmtG k) = 0 := by unfold fmtU fmtP fmtG; rw [decide_eq_false h1, decide_eq_false h2, decide_eq_false h3]; rfl
  rw [e]
  have e1 : (k == 1) = false := by simpa using h1
  have e2 : (k == 2) = false := by simpa using h2
  have e3 : (k == 3) = false := by simpa using h3
  clear e h1 h2 h3
  go_enter Tryz.func41, Tryz.ntmps41
  go_wp2_with fail
  all_goals first | exact ⟨rfl, rfl⟩ | (go_ret; exact ⟨rfl, rfl⟩)
theorem set_blk' {w : World} {p : Addr} {c : Array Value} {t : TypeId} {fr : Nat × Nat} {v : Value} (h : w.heap[p.block]? = some (.cells c t fr)) (hp : p.spot = none) : (w.setCell p v).heap[p.block]? = some (.cells (c.setIfInBounds p.off v) t fr) := by
  obtain ⟨b, o, sp⟩ := p
  cases hp
  simp [World.setCell, Array.getElem?_modify, h]
/-- A new error of errors.New's. -/
def newErr (B n : Nat) (w : World) : Prop := B ≤ n ∧ ∃ c t, w.heap[n]? = some (.cells c t (0, 0))
set_option maxRecDepth 100000 in
set_option maxHeartbeats 1000000 in
theorem flush_miss2 (B bw bb bc : Nat) (s : WSt) (w : World) (h : Wr B bw bb bc s w) (hB : B ≤ w.heap.size) (he : s.err = .nilIface) (hnb : 0 < s.nb) :
    Calls Tryz.prog 22 #[.pointer (some ⟨bw, 0, none⟩)] w fun e w' => ∃ n, newErr B n w' ∧ e = .returned (.iface 182 (.pointer (some ⟨n, 0, none⟩))) ∧ Wr B bw bb bc s w' ∧ Fr B w w' := by
  have c1 := h.cerr.trans (congrArg some he)
  have c3 := h.ccurr
  unfold ifC at c3
  have ml := m_lr bc _ _ w h.hc rfl
  unfold ifW at ml
  replace he : Asd (s.err = .nilIface) := Asd.mk he
  go_enter Tryz.func22, Tryz.ntmps22
  go_wp2_with (first | (go_at_call 223; go_in) | (go_at_call 42; go_in))
  go_ret
  have hb : Below w.heap.size w ((w.alloc (.cells #[ifW bb, .int .i64 s.nb] 91 (0, 0))).alloc (.cells #[.string ⟨#[97, 114, 99, 104, 105, 118, 101, 47, 116, 97, 114, 58, 32, 109, 105, 115, 115, 101, 100, 32, 119, 114, 105, 116, 105, 110, 103, 32, 98, 121, 116, 101, 115]⟩] 184 (0, 0))) :=
    ((Below.refl w.heap.size w).alloc (Nat.le_refl _) _).alloc (by show w.heap.size ≤ (w.heap.push _).size; simp) _
  exact ⟨w.heap.size + 1, ⟨by omega, _, _, heap_alloc2_new _ _ _⟩, rfl, h.below hb, Fr.of_below hb hB⟩
set_option maxRecDepth 100000 in
set_option maxHeartbeats 1000000 in
theorem wh_miss2 (B bw bb bc : Nat) (s : WSt) (w : World) (x : Value) (h : Wr B bw bb bc s w) (hB : B ≤ w.heap.size) (he : s.err = .nilIface) (hnb : 0 < s.nb) :
    Calls Tryz.prog 17 #[.pointer (some ⟨bw, 0, none⟩), x] w fun e w' => ∃ n, newErr B n w' ∧ e = .returned (.iface 182 (.pointer (some ⟨n, 0, none⟩))) ∧ Wr B bw bb bc s w' ∧ Fr B w w' := by
  have hf := Asd.mk (flush_miss2 B bw bb bc s w h hB he hnb)
  clear he
  go_enter Tryz.func17, Tryz.ntmps17
  go_wp2_with (go_at_call 22; refine hf.out.mono ?_; rintro e w1 ⟨n, hn, rfl, h1, q1⟩)
  go_ret
  exact ⟨n, hn, rfl, h1, q1⟩
theorem newErr.set {B n : Nat} {w : World} (h : newErr B n w) (p : Addr) (v : Value) (hp : p.spot = none) : newErr B n (w.setCell p v) := by
  obtain ⟨h1, c, t, h2⟩ := h
  refine ⟨h1, ?_⟩
  by_cases e : n = p.block
  · subst e
    exact ⟨_, t, set_blk' h2 hp⟩
  · exact ⟨c, t, by rw [Below.heap_setCell _ _ _ _ (fun e2 => e e2)]; exact h2⟩
set_option maxRecDepth 100000 in
theorem close_miss2 (B bw bb bc : Nat) (s : WSt) (w : World) (p1 : Addr) (hg : w.cell? ⟨1, 0, none⟩ = some (errV p1)) (hB1 : 1 < B) (h : Wr B bw bb bc s w) (hB : B ≤ w.heap.size) (he : s.err = .nilIface) (hnb : 0 < s.nb) :
    Calls Tryz.prog 21 #[.pointer (some ⟨bw, 0, none⟩)] w fun e w' => ∃ n, newErr B n w' ∧ e = .returned (.iface 182 (.pointer (some ⟨n, 0, none⟩))) ∧ Wr B bw bb bc (s.er (errV p1)) w' ∧ Fr B w w' := by
  have c1 := h.cerr.trans (congrArg some he)
  have hfl := flush_miss2 B bw bb bc s (w.drewN 1) (h.drewN 1) hB he hnb
  have gg : ∀ w2, Fr B w w2 → w2.cell? ⟨1, 0, none⟩ = some (.iface 182 (.pointer (some p1))) := fun w2 hf => by rw [hf.below.cell hB1]; exact hg
  unfold errV at hg
  have q1 : (binOp .eql 67 .nilIface (.iface 182 (.pointer (some p1)))).run Tryz.prog w.drew = .ok (.bool false) w.drew := run_eql_iface_nil_left (P := Tryz.prog) w.drew 182 _ Tryz.underlying67
  replace he := Asd.mk he
  go_enter Tryz.func21, Tryz.ntmps21
  go_wp2_with fail
  go_region
  go_wp2_with (
    go_at_call 22
    refine hfl.mono ?_
    rintro e w2 ⟨n, hn, rfl, k1, k2⟩)
  go_loopw [3, 4] (fun ev iv wr => ev = .iface 182 (.pointer (some ⟨n, 0, none⟩)) ∧ iv = .int .i64 0 ∧ w2 = wr) (fun _ _ _ => 0)
  case atStart => exact ⟨rfl, rfl, rfl⟩
  case round =>
    obtain ⟨rfl, rfl, rfl⟩ := hrel
    have k4 : Fr B w w2 := Fr.trans ((Fr.refl B w).drewN 1) k2
    have d0 := gg _ k4
    have d1 := k1.cerr.trans (congrArg some he.out)
    have d3 := k1.fz 535
    go_wp2_with fail
    go_ret
    exact ⟨n, hn.set _ _ rfl, rfl, k1.setErr (errV p1), k4.trans (k1.frSet (Nat.le_trans hB k4.size) _ _)⟩
end Go.Proofs.YtpkilegnokajmaaGreatDoor
