/- FnInPieces' plain part: what a header's call writes hangs on the header and on what is out alone; a header for all files. FnInPieces' plain part: files in pieces and at once are written alike. The statement's own small functions: files fit; a number in a range; equal bytes. impl.Write: files that are as the statement asks are written without an error. -/
import Derived.Test.YtpkilegnokajmaaGreatDoorE26
set_option linter.unusedVariables false
set_option linter.unusedSimpArgs false
set_option linter.unnecessarySimpa false
set_option linter.unusedSectionVars false
namespace Go.Proofs.YtpkilegnokajmaaGreatDoor
open Go.RowKit Go.Maps
theorem has_getS (D : DataW Unit) (k : List UInt8) : Maps.has D (.string k) = (getS D k).isSome := by
  unfold getS
  cases Maps.has D (.string k) <;> rfl
section
variable {D E : DataW Unit}
theorem keysOf_eq (hD : KOk D) (hE : KOk E) (h : ∀ k, getS D k = getS E k) : keysOf D = keysOf E := by
  have h1 : (keysOf D).Perm (keysOf E) := (List.perm_ext_iff_of_nodup hD.1 hE.1).2 fun k => by rw [hD.2 k, hE.2 k, has_getS, has_getS, h k]
  have h2 : (keysOf D).Perm (strKeys D) := List.mergeSort_perm _ _
  have h3 : (keysOf E).Perm (strKeys E) := List.mergeSort_perm _ _
  exact sort_perm (h2.symm.trans (h1.trans h3))
theorem sget_eq {k : List UInt8} (hk : Maps.has D (.string k) = true) (h : getS D k = getS E k) : sget D k = sget E k := by
  have h2 : Maps.has E (.string k) = true := by rw [has_getS, ← h, ← has_getS]; exact hk
  rw [getS_some hk, getS_some h2] at h
  exact Option.some.inj h
theorem paxData_eq (hD : KOk D) (hE : KOk E) (h : ∀ k, getS D k = getS E k) : paxData D = paxData E := by
  unfold paxData recL
  rw [← keysOf_eq hD hE h]
  exact congrArg List.flatten (List.map_congr_left fun k hk => by rw [sget_eq ((hD.2 k).1 hk) (h k)])
theorem size_keys (D : DataW Unit) : (keysOf D).length = Maps.size D := by
  unfold keysOf
  rw [List.length_mergeSort]
  cases D <;> first | rfl | exact List.length_map ..
theorem paxNeeds_eq (H : Hd) (hD : KOk D) (hE : KOk E) (h : ∀ k, getS D k = getS E k) : paxNeeds H D = paxNeeds H E := by
  unfold paxNeeds
  rw [← size_keys, ← size_keys, keysOf_eq hD hE h]
end
theorem paxK_same {H : Hd} {R D E : DataW Unit} (h1 : PaxK H R D) (h2 : PaxK H R E) : paxData D = paxData E ∧ paxNeeds H D = paxNeeds H E := by
  have h : ∀ k, getS D k = getS E k := fun k => (h1.1 k).trans (h2.1 k).symm
  exact ⟨paxData_eq h1.2 h2.2 h, paxNeeds_eq H h1.2 h2.2 h⟩
theorem paxAll_same {H : Hd} {R D E : DataW Unit} (h1 : PaxK H R D) (h2 : PaxK H R E) (s : WSt) : paxStAll s 0 H D = paxStAll s 0 H E := by
  obtain ⟨e1, e2⟩ := paxK_same h1 h2
  unfold paxStAll paxSt1 paxPad
  rw [e1, e2]
/-- The header's map lies elsewhere. -/
theorem whH_recs (K : Hd) (m : Value) : whH { K with recs := m } = { whH K with recs := m } := by
  unfold whH hdRound hdProm
  by_cases h : K.tf = 0 <;> by_cases h2 : K.fmt = 0 <;> simp [h, h2]
theorem usBlk_recs (H : Hd) (m : Value) : usBlk { H with recs := m } = usBlk H := by
  have e : usH { H with recs := m } = { usH H with recs := m } := by unfold usH; dsimp only; split <;> rfl
  have e2 : usPre { H with recs := m } = usPre H := rfl
  unfold usBlk
  rw [e, e2]
  rfl
theorem usSt_recs (s : WSt) (H : Hd) (m : Value) : (usSt s 0 { H with recs := m }).as 0 = (usSt s 0 H).as 0 := by
  show AS.mk (s.out ++ List.replicate 0 0 ++ usBlk { H with recs := m }) (bpad (szOf H.size H.tf)) (szOf H.size H.tf) 0 = AS.mk (s.out ++ List.replicate 0 0 ++ usBlk H) (bpad (szOf H.size H.tf)) (szOf H.size H.tf) 0
  rw [usBlk_recs]
theorem paxBlk_recs (H : Hd) (m : Value) : paxBlk { H with recs := m } = paxBlk H := by unfold paxBlk tplB; rfl
theorem paxStAll_recs (s : WSt) (H : Hd) (m : Value) (D : DataW Unit) : paxStAll s 0 { H with recs := m } D = paxStAll s 0 H D := by
  unfold paxStAll paxSt2
  rw [paxBlk_recs]
  rfl
theorem gnBlk_recs (H : Hd) (m : Value) : gnBlk { H with recs := m } = gnBlk H := by unfold gnBlk tplB; rfl
theorem gnSt_recs (s : WSt) (H : Hd) (m : Value) : gnSt s 0 { H with recs := m } = gnSt s 0 H := by
  unfold gnSt
  rw [gnBlk_recs]
  rfl
theorem afBase_recs (H : Hd) (R : DataW Unit) (m : Value) : afBase { H with recs := m } R = afBase H R := by unfold afBase; rfl
theorem stFin_recs (H : Hd) (R : DataW Unit) (m : Value) : stFin { H with recs := m } R = stFin H R := by
  unfold stFin
  rw [afBase_recs]
  rfl
section
variable {K : Hd} {R : DataW Unit} {fu fp fg : Bool} {a a' b b' : AS}
/-- A header's call that went well, by the header and what is out. -/
theorem wh_det (m m' : Value) (h1 : WhA { K with recs := m } R fu fp fg a a' 0) (h2 : WhA { K with recs := m' } R fu fp fg b b' 0) (ho : a.out = b.out) : a' = b' := by
  have u1 : ∀ m, afU { K with recs := m } R fu fp fg = afU K R fu fp fg := fun m => by unfold afU; rw [stFin_recs K R m]
  have p1 : ∀ m, afP { K with recs := m } R fu fp fg = afP K R fu fp fg := fun m => by unfold afP; rw [stFin_recs K R m]
  have k1 : ∀ m D, PaxK { K with recs := m } R D → PaxK K R D := fun m D h => by unfold PaxK PaxOf at h ⊢; rw [afBase_recs K R m] at h; exact h
  rcases h1 with ⟨e, _⟩ | ⟨_, D, hD, _, h1⟩
  · cases e
  rcases h2 with ⟨e, _⟩ | ⟨_, E, hE, _, h2⟩
  · cases e
  rw [u1 m, p1 m] at h1
  rw [u1 m', p1 m'] at h2
  have hs : a.st.out = b.st.out := ho
  rcases h1 with ⟨x1, _, rfl, _⟩ | ⟨_, _, _, e, _⟩ | ⟨x1, x2, _, _, rfl, _⟩ | ⟨x1, x2, _, _, rfl, _⟩
  · rcases h2 with ⟨y1, _, rfl, _⟩ | ⟨_, _, _, e, _⟩ | ⟨y1, _⟩ | ⟨y1, _⟩
    · rw [usSt_recs a.st K m, usSt_recs b.st K m']; exact usSt_as _ _ K hs
    · cases e
    · rw [x1] at y1; cases y1
    · rw [x1] at y1; cases y1
  · cases e
  · rcases h2 with ⟨y1, _⟩ | ⟨_, _, _, e, _⟩ | ⟨y1, y2, _, _, rfl, _⟩ | ⟨y1, y2, _⟩
    · rw [x1] at y1; cases y1
    · cases e
    · rw [paxStAll_recs a.st K m, paxStAll_recs b.st K m', paxAll_same (k1 _ _ hD) (k1 _ _ hE)]
      exact paxStAll_as _ _ K E hs
    · rw [x2] at y2; cases y2
  · rcases h2 with ⟨y1, _⟩ | ⟨_, _, _, e, _⟩ | ⟨y1, y2, _⟩ | ⟨y1, y2, _, _, rfl, _⟩
    · rw [x1] at y1; cases y1
    · cases e
    · rw [x2] at y2; cases y2
    · rw [gnSt_recs a.st K m, gnSt_recs b.st K m']
      exact gnSt_as _ _ K hs
end
theorem wh_det2 (h : InH) (m m' : Value) {R : DataW Unit} {fu fp fg : Bool} {a a' b b' : AS} (h1 : WhA (whH (h.hd m)) R fu fp fg a a' 0) (h2 : WhA (whH (h.hd m')) R fu fp fg b b' 0) (ho : a.out = b.out) : a' = b' := by
  have e : ∀ m, whH (h.hd m) = { whH (hdC h (hdA h h.hd0)) with recs := m } := fun m => whH_recs _ m
  rw [e] at h1 h2
  exact wh_det m m' h1 h2 ho
/-- A header that the statement takes for one for all files. -/
structure GlobC (h : InH) (rs : List (ByteArray × ByteArray)) : Prop where
  tf : h.tf = 103
  name : h.name.data.toList = []
  link : h.link.data.toList = []
  uname : h.uname.data.toList = []
  gname : h.gname.data.toList = []
  z : h.size = 0 ∧ h.mode = 0 ∧ h.uid = 0 ∧ h.gid = 0 ∧ h.maj = 0 ∧ h.min = 0
  t : h.ms = -62135596800 ∧ h.mn = 0 ∧ h.ha = false ∧ h.hc = false
  fmt : h.fmt = 0 ∨ h.fmt = 2
  ok : ∀ kv ∈ rs, RecOk kv.1
  tot : totR rs ≤ 524288
theorem nil_toList : (⟨#[]⟩ : ByteArray).toList = [] := by unfold ByteArray.toList ByteArray.toList.loop; rfl
theorem ba_nil {s : ByteArray} (h : s.data.toList = []) : s = ⟨#[]⟩ := baExt2 h
section
variable {B : Nat} {h : InH} {o : Option Addr} {n c : Nat} {rs : List (ByteArray × ByteArray)} {w : World} {m : Value}
theorem glob_hd (g : GlobC h rs) (m : Value) : ∃ f, whH (h.hd m) = ⟨103, ⟨#[]⟩, ⟨#[]⟩, 0, 0, 0, 0, ⟨#[]⟩, ⟨#[]⟩, 0, 0, 0, 0, 0, 0, 0, 0, .map none, m, f⟩ := by
  obtain ⟨tf, name, link, size, mode, uid, gid, uname, gname, ms, mn, ha, acs, acn, hc, cs, cn, maj, min, rv, fmt⟩ := h
  obtain ⟨g1, g2, g3, g4, g5, ⟨z1, z2, z3, z4, z5, z6⟩, ⟨t1, t2, t3, t4⟩, g6, _, _⟩ := g
  dsimp only at g1 g2 g3 g4 g5 z1 z2 z3 z4 z5 z6 t1 t2 t3 t4
  have g2 := ba_nil g2
  have g3 := ba_nil g3
  have g4 := ba_nil g4
  have g5 := ba_nil g5
  subst g1 g2 g3 g4 g5 z1 z2 z3 z4 z5 z6 t1 t2 t3 t4
  refine ⟨fm (fmtU fmt) (fmtP fmt) (fmtG fmt), ?_⟩
  have e : InH.hd ⟨103, ⟨#[]⟩, ⟨#[]⟩, 0, 0, 0, 0, ⟨#[]⟩, ⟨#[]⟩, -62135596800, 0, false, acs, acn, false, cs, cn, 0, 0, rv, fmt⟩ m = ⟨103, ⟨#[]⟩, ⟨#[]⟩, 0, 0, 0, 0, ⟨#[]⟩, ⟨#[]⟩, 0, 0, 0, 0, 0, 0, 0, 0, .map none, m, fm (fmtU fmt) (fmtP fmt) (fmtG fmt)⟩ := by
    show (⟨103, ⟨#[]⟩, ⟨#[]⟩, 0, 0, 0, 0, ⟨#[]⟩, ⟨#[]⟩, unixN 0, unixX (-62135596800) 0, 0, 0, 0, 0, 0, 0, .map none, m, fm (fmtU fmt) (fmtP fmt) (fmtG fmt)⟩ : Hd) = _
    rw [show unixX (-62135596800) 0 = 0 by unfold unixX wrap64; omega]
    rfl
  rw [e]
  unfold whH hdProm
  rw [if_neg (by show (103 : UInt8) ≠ 0; decide)]
  unfold hdRound
  split
  · rfl
  · rfl
theorem lawGlob (x : HdI B w h o n c rs) (m : Value) (g : GlobC h rs) {a a' : AS} {e : Int} (hw : WhA (whH (h.hd m)) (recD rs) (fmtU h.fmt) (fmtP h.fmt) (fmtG h.fmt) a a' e) : e = 0 ∧ (whH (h.hd m)).tf = 103 := by
  have hl : ∀ D, PaxK (whH (h.hd m)) (recD rs) D → (paxData D).length ≤ 1048576 := by
    intro D hD
    have h1 := hd_len x m hD
    have z : ∀ {s : ByteArray}, s.data.toList = [] → s.size = 0 := fun h => by rw [ba_nil h]; rfl
    rw [z g.name, z g.link, z g.uname, z g.gname] at h1
    have := g.tot
    omega
  obtain ⟨f, e1⟩ := glob_hd g m
  have hb : badH (whH (h.hd m)) = false := by
    rw [e1]
    unfold badH badSw hdPlain
    dsimp only
    rw [nil_toList]
    rfl
  have hA : ∀ D, PaxOf (whH (h.hd m)) (recD rs) D → AllRec D := by
    intro D hD
    refine allRec_ok ?_ ?_ ?_ ?_ g.ok D hD <;> rw [e1] <;> rfl
  refine ⟨wh_good hw hb hA hl ?_, by rw [e1]⟩
  have hp : (stFin (whH (h.hd m)) (recD rs)).p = true := by rw [stFin_p, base_p, e1]; show (fitO 8 0 && fitO 8 0 && fitO 8 0) = true; decide
  unfold afP finP
  rw [hp]
  rcases g.fmt with e | e <;> rw [e] <;> simp [fmtU, fmtP, fmtG]
theorem globInv {H : Hd} {R : DataW Unit} {fu fp fg : Bool} {a a' : AS} {x : Int} (h : WhA H R fu fp fg a a' x) (hx : x = 0) (ht : H.tf = 103) (hu : afU H R fu fp fg = false) (hg : afG H R fu fp fg = false) (hm : a.out.length % 512 = 0) : Inv a' ∧ a'.nb = 0 := by
  rcases h with ⟨rfl, _, _⟩ | ⟨_, D, hD, _, h | h | h | h⟩
  · cases hx
  · rw [hu] at h; cases h.1
  · obtain ⟨_, _, _, rfl, _⟩ := h
    cases hx
  · obtain ⟨_, _, hbig, _, rfl, hb⟩ := h
    have e0 : paxStAll a.st 0 H D = paxSt1 a.st 0 H D := by unfold paxStAll; rw [if_pos ht]
    have e1 : paxNeeds H D = true := by unfold paxNeeds; rw [ht]; rfl
    have e2 : paxSt1 a.st 0 H D = rawFileSt a.st 0 false (paxName H) ⟨(paxData D).toArray⟩ (paxFlag H) := by unfold paxSt1; rw [if_pos e1]
    rw [e0, e2]
    have h1 := bpad_mod (paxData D).length
    have h2 := bpad_rng (paxData D).length
    have h3 : (⟨(paxData D).toArray⟩ : ByteArray).size = (paxData D).length := rfl
    refine ⟨⟨rfl, Int.le_refl _, h2.1, ?_⟩, rfl⟩
    show (((rawFileSt a.st 0 false (paxName H) ⟨(paxData D).toArray⟩ (paxFlag H)).out.length : Int) + bpad (paxData D).length + 0) % 512 = 0
    rw [rawFileSt_len]
    have h4 : a.st.out.length = a.out.length := rfl
    omega
  · rw [hg] at h; cases h.2.2.1
theorem glob_u (g : GlobC h rs) (m : Value) : afU (whH (h.hd m)) (recD rs) (fmtU h.fmt) (fmtP h.fmt) (fmtG h.fmt) = false ∧ afG (whH (h.hd m)) (recD rs) (fmtU h.fmt) (fmtP h.fmt) (fmtG h.fmt) = false := by
  obtain ⟨f, e1⟩ := glob_hd g m
  have ht : (whH (h.hd m)).tf = 103 := by rw [e1]
  have h2 : (stFin (whH (h.hd m)) (recD rs)).u = false ∧ (stFin (whH (h.hd m)) (recD rs)).g = false := by
    unfold stFin paxSt swSt
    rw [if_pos ht]
    split <;> exact ⟨rfl, rfl⟩
  unfold afU finU afG finG
  rw [h2.1, h2.2]
  constructor <;> split <;> rfl
end
/-- A file that came in. -/
structure FileI where
  h : InH
  a : Option Addr
  n : Nat
  c : Nat
  rs : List (ByteArray × ByteArray)
  da : Option Addr
  dn : Nat
  dc : Nat
  data : List UInt8
  en : Int
def FileI.cells (f : FileI) : List Value := f.h.cells ++ [.slice f.da f.dn f.dc, .int .i64 f.en]
structure FileIn (B : Nat) (w : World) (f : FileI) : Prop where
  hd : HdI B w f.h f.a f.n f.c f.rs
  dt : DatI B w f.da f.dn f.dc f.data
theorem FileIn.below {B : Nat} {w w' : World} {f : FileI} (h : FileIn B w f) (hb : Below B w w') : FileIn B w' f := ⟨h.hd.below hb, h.dt.below hb⟩
/-- What the statement asks of a file. -/
def FileOk (f : FileI) : Prop :=
  (f.h.tf ≠ 103 ∧ ∃ ra rc, RightC (f.h.sp ra f.n rc) f.rs ∧ (f.data.length : Int) = szOf f.h.size (f.h.sp ra f.n rc).prom.tf) ∨ (GlobC f.h f.rs ∧ f.data = [])
/-- Between two files. -/
structure St (a : AS) (o : List UInt8) : Prop where
  i : Inv a
  n : a.nb = 0
  o : a.fl.out = o
theorem St.fl {a : AS} {o : List UInt8} (h : St a o) : a.fl = ⟨o, 0, 0, 0⟩ := by
  show AS.mk (a.out ++ List.replicate a.pad.toNat 0) 0 a.nb a.er = _
  rw [h.n, h.i.1, ← h.o]
  rfl
/-- A file's bytes. -/
def FS (f : FileI) (o o' : List UInt8) : Prop := ∃ m a1, WhA (whH (f.h.hd m)) (recD f.rs) (fmtU f.h.fmt) (fmtP f.h.fmt) (fmtG f.h.fmt) ⟨o, 0, 0, 0⟩ a1 0 ∧ o' = a1.out ++ f.data ++ List.replicate a1.pad.toNat 0
def FSs : List FileI → List UInt8 → List UInt8 → Prop
  | [], o, o' => o' = o
  | f :: fs, o, o' => ∃ p, FS f o p ∧ FSs fs p o'
theorem fs_det {f : FileI} {o p q : List UInt8} (h1 : FS f o p) (h2 : FS f o q) : p = q := by
  obtain ⟨m, a1, h1, rfl⟩ := h1
  obtain ⟨m', a2, h2, rfl⟩ := h2
  rw [wh_det2 f.h m m' h1 h2 rfl]
theorem fss_det : ∀ {fs : List FileI} {o p q : List UInt8}, FSs fs o p → FSs fs o q → p = q
  | [], _, _, _, h1, h2 => h1.trans h2.symm
  | f :: fs, _, _, _, ⟨p1, h1, h2⟩, ⟨q1, h3, h4⟩ => by
    have e := fs_det h1 h3
    subst e
    exact fss_det h2 h4
theorem fss_snoc {f : FileI} {p q : List UInt8} (hf : FS f p q) : ∀ {fs : List FileI} {o : List UInt8}, FSs fs o p → FSs (fs ++ [f]) o q
  | [], _, h => by cases h; exact ⟨q, hf, rfl⟩
  | g :: fs, _, ⟨r, h1, h2⟩ => ⟨r, h1, fss_snoc hf h2⟩
section
variable {f : FileI} {a a' : AS} {o : List UInt8} {x : Int} {B : Nat} {w : World}
theorem file_head (hd : HdI B w f.h f.a f.n f.c f.rs) (ok : FileOk f) (m : Value) (hw : WhA (whH (f.h.hd m)) (recD f.rs) (fmtU f.h.fmt) (fmtP f.h.fmt) (fmtG f.h.fmt) a.fl a' x) (hs : St a o) : x = 0 ∧ Inv a' ∧ a'.nb = f.data.length := by
  have hn : a.nb ≤ 0 := by rw [hs.n]; exact Int.le_refl _
  have hf := inv_fl hs.i hn
  rcases ok with ⟨_, ra, rc, hv, hz⟩ | ⟨hg, hz⟩
  · obtain ⟨e, t1, t2, t3, t4⟩ := lawRight hd m ra rc hv hw
    obtain ⟨v1, v2, v3, v4⟩ := wh_inv hw e t1 hf.1
    rw [t2, t3] at v2 v3
    have hb := bpad_mod (szOf f.h.size (f.h.sp ra f.n rc).prom.tf)
    have hr := bpad_rng (szOf f.h.size (f.h.sp ra f.n rc).prom.tf)
    have hz2 := (szOf_range (x := f.h.size) (f := (f.h.sp ra f.n rc).prom.tf) (fun _ => t4) hd.num.1.2).1
    exact ⟨e, ⟨v1, by omega, by omega, by omega⟩, by rw [v2, hz]⟩
  · obtain ⟨e, ht⟩ := lawGlob hd m hg hw
    have hu := glob_u hg m
    have hi := globInv hw e ht hu.1 hu.2 hf.1
    exact ⟨e, hi.1, by rw [hi.2, hz]; rfl⟩
/-- A header's call between two files. -/
theorem hdA_ok (hd : HdI B w f.h f.a f.n f.c f.rs) (ok : FileOk f) (m : Value) (h : HdA (f.h.hd m) (recD f.rs) (fmtU f.h.fmt) (fmtP f.h.fmt) (fmtG f.h.fmt) a a' x) (hs : St a o) :
    x = 0 ∧ Inv a' ∧ a'.nb = f.data.length ∧ FS f o (a'.out ++ f.data ++ List.replicate a'.pad.toNat 0) := by
  have he := hs.i.1
  have hn := hs.n
  rcases h with ⟨e, _⟩ | ⟨e, _⟩ | ⟨_, e, _⟩ | ⟨_, _, h⟩
  · omega
  · omega
  · omega
  · obtain ⟨e, hi, hn⟩ := file_head hd ok m h hs
    rw [hs.fl, e] at h
    exact ⟨e, hi, hn, m, a', h, rfl⟩
theorem wrA_ok {d : List UInt8} {n : Nat} (h : WrA d a a' n x) (hi : Inv a) (hl : (d.length : Int) ≤ a.nb) : x = 0 ∧ Inv a' ∧ a'.nb = a.nb - d.length ∧ a'.out = a.out ++ d ∧ a'.pad = a.pad := by
  obtain ⟨i1, i2, i3, i4⟩ := hi
  rcases h with ⟨e, _⟩ | ⟨e, _⟩ | ⟨_, hn, hx, ha⟩
  · omega
  · omega
  · rw [if_neg (by omega)] at hx
    unfold wNum at hn
    have hd : n = d.length := by omega
    subst hd
    rw [List.take_length] at ha
    subst ha
    refine ⟨hx, ⟨rfl, by show 0 ≤ a.nb - _; omega, i3, ?_⟩, rfl, rfl, rfl⟩
    show (((a.out ++ d).length : Int) + a.pad + (a.nb - d.length)) % 512 = 0
    rw [List.length_append]
    omega
theorem st_file (hi : Inv a') (hn : a'.nb = 0) : St a' (a'.out ++ List.replicate a'.pad.toNat 0) := ⟨hi, hn, rfl⟩
end
/-- A header's call, a piece's, a flush, the close. -/
def zInH : InH := ⟨0, ⟨#[]⟩, ⟨#[]⟩, 0, 0, 0, 0, ⟨#[]⟩, ⟨#[]⟩, 0, 0, false, 0, 0, false, 0, 0, 0, 0, .slice none 0 0, 0⟩
def hop (f : FileI) : OpI := ⟨0, f.h, f.a, f.n, f.c, f.rs, none, 0, 0, []⟩
def zop (k : Int) (da : Option Addr) (dn dc : Nat) (d : List UInt8) : OpI := ⟨k, zInH, none, 0, 0, [], da, dn, dc, d⟩
def Pcs (ps : List OpI) (d : List UInt8) : Prop := (∀ x ∈ ps, x.kind = 1) ∧ ps.flatMap (·.data) = d
def flO (fl : Bool) : List OpI := if fl then [zop 2 none 0 0 []] else []
def AllPc (fl : Bool) : List FileI → List OpI → Prop
  | [], xs => xs = []
  | f :: fs, xs => ∃ ps ys, Pcs ps f.data ∧ xs = hop f :: (ps ++ (flO fl ++ ys)) ∧ AllPc fl fs ys
theorem allPc_snoc {fl : Bool} {f : FileI} {ps : List OpI} (hp : Pcs ps f.data) : ∀ {fs : List FileI} {xs : List OpI}, AllPc fl fs xs → AllPc fl (fs ++ [f]) (xs ++ hop f :: (ps ++ flO fl))
  | [], _, h => by cases h; exact ⟨ps, [], hp, by simp, rfl⟩
  | g :: fs, _, ⟨qs, ys, h1, h2, h3⟩ => ⟨qs, ys ++ hop f :: (ps ++ flO fl), h1, by rw [h2]; simp, allPc_snoc hp h3⟩
theorem pcs_snoc {ps : List OpI} {d : List UInt8} {x : OpI} (h : Pcs ps d) (hx : x.kind = 1) : Pcs (ps ++ [x]) (d ++ x.data) := by
  refine ⟨fun y hy => ?_, ?_⟩
  · rcases List.mem_append.1 hy with hy | hy
    · exact h.1 y hy
    · rw [List.mem_singleton.1 hy]; exact hx
  · rw [List.flatMap_append, h.2]; simp
/-- Pieces are written as their data at once. -/
theorem run_pieces : ∀ {ps : List OpI} {d : List UInt8} {a b : AS} {ds : List DoneI} {rest : List OpI}, Pcs ps d → Run (ps ++ rest) a ds b → Inv a → (d.length : Int) ≤ a.nb →
    ∃ c ds1 ds2, ds = ds1 ++ ds2 ∧ (∀ e ∈ ds1, e.e = 0) ∧ Inv c ∧ c.nb = a.nb - d.length ∧ c.out = a.out ++ d ∧ c.pad = a.pad ∧ Run rest c ds2 b
  | [], d, a, b, ds, rest, hp, h, hi, hl => by
    have hd : d = [] := hp.2.symm
    subst hd
    exact ⟨a, [], ds, rfl, (fun e he => by cases he), hi, by simp, by simp, rfl, h⟩
  | x :: ps, d, a, b, ds, rest, hp, h, hi, hl => by
    obtain ⟨h0, h1⟩ := hp
    have hd : d = x.data ++ ps.flatMap (·.data) := h1.symm
    obtain ⟨e, ds', c, rfl, hst, hr⟩ := h
    have hk := h0 x (List.mem_cons_self ..)
    have hw : WrA x.data a c e.n e.e := by
      obtain ⟨_, h | h | h | h⟩ := hst
      · have := h.1; omega
      · exact h.2
      · have := h.1; omega
      · exact absurd hk h.2.1
    rw [hd, List.length_append] at hl
    obtain ⟨e0, i1, n1, o1, p1⟩ := wrA_ok hw hi (by omega)
    obtain ⟨c2, ds1, ds2, rfl, e2, i2, n2, o2, p2, r2⟩ := run_pieces (ps := ps) ⟨fun y hy => h0 y (List.mem_cons_of_mem _ hy), rfl⟩ hr i1 (by omega)
    refine ⟨c2, e :: ds1, ds2, rfl, ?_, i2, ?_, ?_, p2.trans p1, r2⟩
    · intro y hy
      rcases List.mem_cons.1 hy with rfl | hy
      · exact e0
      · exact e2 y hy
    · rw [n2, n1, hd, List.length_append]; omega
    · rw [o2, o1, hd, List.append_assoc]
theorem run_flush {fl : Bool} {a b : AS} {o : List UInt8} {ds : List DoneI} {rest : List OpI} (h : Run (flO fl ++ rest) a ds b) (hs : St a o) : ∃ c ds1 ds2, ds = ds1 ++ ds2 ∧ (∀ e ∈ ds1, e.e = 0) ∧ St c o ∧ Run rest c ds2 b := by
  cases fl with
  | false => exact ⟨a, [], ds, rfl, (fun e he => by cases he), hs, h⟩
  | true =>
    obtain ⟨e, ds', c, rfl, hst, hr⟩ := h
    have he := hs.i.1
    have hn := hs.n
    have hf : FlA a c e.e := by
      obtain ⟨_, h | h | h | h⟩ := hst
      · exact absurd h.1 (by decide)
      · exact absurd h.1 (by decide)
      · exact absurd h.1 (by decide)
      · exact h.2.2.2.2
    have hx : e.e = 0 ∧ c = a.fl := by
      rcases hf with ⟨e1, _⟩ | ⟨e1, _⟩ | ⟨_, e1, _⟩ | ⟨_, _, e1, e2⟩
      · omega
      · omega
      · omega
      · exact ⟨e1, e2⟩
    obtain ⟨x0, rfl⟩ := hx
    refine ⟨_, [e], ds', rfl, fun y hy => by rw [List.mem_singleton.1 hy]; exact x0, ⟨(inv_fl hs.i (by omega)).2, hn, ?_⟩, hr⟩
    show a.fl.out ++ List.replicate 0 0 = o
    rw [hs.o]; simp
/-- All files in pieces. -/
theorem run_all {fl : Bool} : ∀ {fs : List FileI} {xs : List OpI} {a b : AS} {o : List UInt8} {ds : List DoneI} {rest : List OpI}, AllPc fl fs xs → (∀ f ∈ fs, FileOk f ∧ ∃ B w, HdI B w f.h f.a f.n f.c f.rs) → Run (xs ++ rest) a ds b → St a o →
    ∃ c ds1 ds2 o', ds = ds1 ++ ds2 ∧ (∀ e ∈ ds1, e.e = 0) ∧ St c o' ∧ FSs fs o o' ∧ Run rest c ds2 b
  | [], xs, a, b, o, ds, rest, hp, _, h, hs => by
    cases hp
    exact ⟨a, [], ds, o, rfl, (fun e he => by cases he), hs, rfl, h⟩
  | f :: fs, xs, a, b, o, ds, rest, hp, hok, h, hs => by
    obtain ⟨ps, ys, hps, rfl, hys⟩ := hp
    obtain ⟨ok, B, w, hd⟩ := hok f (List.mem_cons_self ..)
    have e0 : (hop f :: (ps ++ (flO fl ++ ys))) ++ rest = hop f :: (ps ++ (flO fl ++ (ys ++ rest))) := by simp
    rw [e0] at h
    obtain ⟨e, ds', c, rfl, hst, hr⟩ := h
    have hh : ∃ m, HdA (f.h.hd m) (recD f.rs) (fmtU f.h.fmt) (fmtP f.h.fmt) (fmtG f.h.fmt) a c e.e := by
      obtain ⟨_, h | h | h | h⟩ := hst
      · exact h.2.2
      · exact absurd h.1 (by show (0 : Int) ≠ 1; decide)
      · exact absurd h.1 (by show (0 : Int) ≠ 3; decide)
      · exact absurd rfl h.1
    obtain ⟨m, hh⟩ := hh
    obtain ⟨x0, i1, n1, fs1⟩ := hdA_ok hd ok m hh hs
    obtain ⟨c2, d1, d2, rfl, e2, i2, n2, o2, p2, r2⟩ := run_pieces hps hr i1 (by omega)
    have s2 : St c2 (c.out ++ f.data ++ List.replicate c.pad.toNat 0) := by
      have := st_file i2 (by omega)
      rw [o2, p2] at this
      exact this
    obtain ⟨c3, d3, d4, rfl, e3, s3, r3⟩ := run_flush r2 s2
    obtain ⟨c4, d5, d6, o', rfl, e4, s4, f4, r4⟩ := run_all hys (fun g hg => hok g (List.mem_cons_of_mem _ hg)) r3 s3
    refine ⟨c4, e :: (d1 ++ (d3 ++ d5)), d6, o', by simp, ?_, s4, ⟨_, fs1, f4⟩, r4⟩
    intro y hy
    simp only [List.mem_cons, List.mem_append] at hy
    rcases hy with rfl | hy | hy | hy
    · exact x0
    · exact e2 y hy
    · exact e3 y hy
    · exact e4 y hy
theorem clA_ok {a a' : AS} {o : List UInt8} {x : Int} (h : ClA a a' x) (hs : St a o) : x = 0 ∧ a'.out = o ++ List.replicate 1024 0 := by
  have he := hs.i.1
  have hn := hs.n
  rcases h with ⟨e1, _⟩ | ⟨e1, _⟩ | ⟨_, e1, _⟩ | ⟨_, _, e1, rfl⟩
  · omega
  · omega
  · omega
  · exact ⟨e1, by rw [← hs.o]; rfl⟩
/-- The law: no call fails, and the bytes are the files'. -/
theorem law_pieces {fl : Bool} {fs : List FileI} {xs : List OpI} {b : AS} {ds : List DoneI} (hp : AllPc fl fs xs) (hok : ∀ f ∈ fs, FileOk f ∧ ∃ B w, HdI B w f.h f.a f.n f.c f.rs) (h : Run (xs ++ [zop 3 none 0 0 []]) a0 ds b) :
    (∀ d ∈ ds, d.e = 0) ∧ ∃ o, FSs fs [] o ∧ b.out = o ++ List.replicate 1024 0 := by
  obtain ⟨c, d1, d2, o, rfl, e1, s1, f1, r1⟩ := run_all hp hok h (o := []) ⟨⟨rfl, Int.le_refl _, Int.le_refl _, rfl⟩, rfl, rfl⟩
  obtain ⟨e, ds', c2, rfl, hst, hr⟩ := r1
  obtain ⟨rfl, rfl⟩ := hr
  have hc : ClA c b e.e := by
    obtain ⟨_, h | h | h | h⟩ := hst
    · exact absurd h.1 (by decide)
    · exact absurd h.1 (by decide)
    · exact h.2.2
    · exact absurd rfl h.2.2.1
  obtain ⟨x0, hb⟩ := clA_ok hc s1
  refine ⟨fun d hd => ?_, o, f1, hb⟩
  rcases List.mem_append.1 hd with hd | hd
  · exact e1 d hd
  · rw [List.mem_singleton.1 hd]; exact x0
theorem FileI.len (x : FileI) : x.cells.length = 23 := rfl
theorem FileI.oneA (x : FileI) (hr : x.h.rv.oneCell' = true) : x.cells.toArray.all (·.oneCell') = true := by
  refine all_oneCell_toArray ?_
  intro v hv
  unfold FileI.cells at hv
  simp only [List.mem_append, List.mem_cons, List.not_mem_nil, or_false] at hv
  rcases hv with hv | rfl | rfl
  · exact x.h.one hr v hv
  · rfl
  · rfl
theorem FileI.head (x : FileI) {w : World} {b o : Nat} (h : w.rangeAt b o x.cells) : w.rangeAt b o x.h.cells := by
  intro j v hv
  refine h j v ?_
  unfold FileI.cells
  rw [List.getElem?_append_left (List.getElem?_eq_some_iff.1 hv).1]
  exact hv
theorem FileI.dat (x : FileI) {w : World} {b o : Nat} (h : w.rangeAt b o x.cells) : w.cell? ⟨b, o + 21, none⟩ = some (.slice x.da x.dn x.dc) := h 21 _ rfl
/-- The files, as they came in. -/
structure FilesI (B : Nat) (w : World) (oa : Option Addr) (n c : Nat) (xs : List FileI) : Prop where
  len : xs.length = n
  cap : n ≤ c ∧ c ≤ maxLen
  big : n ≤ 1048576
  src : n = 0 ∨ ∃ b o, oa = some ⟨b, o, none⟩ ∧ b < B ∧ ∀ (j : Nat) x, xs[j]? = some x → w.rangeAt b (o + j * 23) x.cells
  ok : ∀ x ∈ xs, FileIn B w x
theorem FilesI.below {B : Nat} {w w' : World} {oa : Option Addr} {n c : Nat} {xs : List FileI} (h : FilesI B w oa n c xs) (hb : Below B w w') : FilesI B w' oa n c xs :=
  ⟨h.len, h.cap, h.big, h.src.imp id (fun ⟨b, o, h1, h2, h3⟩ => ⟨b, o, h1, h2, fun j x hj => rangeAt_below (h3 j x hj) hb h2⟩), fun x hx => (h.ok x hx).below hb⟩
theorem FilesI.get {B : Nat} {w : World} {oa : Option Addr} {n c : Nat} {xs : List FileI} (h : FilesI B w oa n c xs) (k : Nat) (hk : k < n) :
    ∃ b o x, oa = some ⟨b, o, none⟩ ∧ b < B ∧ xs[k]? = some x ∧ w.rangeAt b (o + k * 23) x.cells ∧ FileIn B w x := by
  rcases h.src with h1 | ⟨b, o, h2, h3, h4⟩
  · omega
  · have hk2 : k < xs.length := by rw [h.len]; exact hk
    exact ⟨b, o, xs[k], h2, h3, List.getElem?_eq_getElem hk2, h4 k _ (List.getElem?_eq_getElem hk2), h.ok _ (List.getElem_mem hk2)⟩
theorem info52 : (Tryz.prog.info? 52).map (·.size) = some 23 := by kernel_rfl
set_option maxRecDepth 100000 in
theorem fits2_any (B : Nat) (x : FileI) (w : World) (ok : FileIn B w x) (hB : B ≤ w.heap.size) : Calls Tryz.prog 30 #[.agg x.cells.toArray] w fun e w' => e = .returned (.bool true) ∧ Below w.heap.size w w' := by
  obtain ⟨C, hC⟩ : ∃ C, Asd (C = x.cells) := ⟨_, ⟨rfl⟩⟩
  obtain ⟨N, hN⟩ : ∃ N, Asd (w.heap.size = N) := ⟨_, ⟨rfl⟩⟩
  rw [← hC.out]
  have hdn : (x.dn : Int) ≤ 1048576 := by have := ok.dt.big; omega
  have hdc : (x.dn : Int) ≤ x.dc := by have := ok.dt.cap; omega
  go_enter Tryz.func30, Tryz.ntmps30
  go_upto_region 1 with fail
  obtain ⟨W, hW⟩ : ∃ W, Asd (W = w.alloc (.cells C.toArray 52 (0, 0))) := ⟨_, ⟨rfl⟩⟩
  have b0 := heap_alloc_new w (.cells C.toArray 52 (0, 0))
  have hb : Below w.heap.size w (w.alloc (.cells C.toArray 52 (0, 0))) := (Below.refl _ _).alloc (Nat.le_refl _) _
  rw [← hW.out] at b0 hb
  rw [hN.out] at b0
  rw [← hW.out, hN.out]
  clear hW
  have r0 : W.rangeAt N 0 x.cells := by rw [← hC.out]; exact rng0 b0
  have r1 := x.head r0
  have hf := Asd.mk (fits3_any B x.h x.a x.n x.c x.rs W (ok.hd.below (hb.mono hB)) (Nat.le_trans hB hb.size))
  obtain ⟨CH, hCH⟩ : ∃ C, Asd (C = x.h.cells) := ⟨_, ⟨rfl⟩⟩
  rw [← hCH.out] at r1 hf
  have lCH : Asd (CH.length = 21) := ⟨by rw [hCH.out]; rfl⟩
  have c21 : W.cell? ⟨N, 21, none⟩ = some (.slice x.da x.dn x.dc) := x.dat r0
  replace b0 := Asd.mk b0
  replace hb := Asd.mk hb
  replace r0 := Asd.mk r0
  replace r1 := Asd.mk r1
  replace ok := Asd.mk ok
  go_upto_if 6 with (first
    | (refine wpList_load_mid rfl 32 (.tmp 3) rfl N 0 rfl CH _ r1.out Tryz.underlying32 rfl (by rw [info32, lCH.out]) ?_)
    | (go_at_call 32; refine hf.out.mono ?_; rintro e w3 ⟨rfl, k3⟩))
  have l3 := Asd.mk (hb.out.trans (k3.mono hb.out.size))
  have d21 : w3.cell? ⟨N, 21, none⟩ = some (.slice x.da x.dn x.dc) := by rw [k3.cell (p := ⟨N, 21, none⟩) (by show N < W.heap.size; exact blk_lt b0.out)]; exact c21
  clear k3 c21
  go_wp2
  go_ret
  exact ⟨rfl, l3.out⟩
set_option maxRecDepth 100000 in
set_option maxHeartbeats 2000000 in
theorem fits1_any (B : Nat) (oa : Option Addr) (n c : Nat) (xs : List FileI) (w : World) (ho : FilesI B w oa n c xs) (hB : B ≤ w.heap.size) : Calls Tryz.prog 10 #[.slice oa n c] w fun e w' => e = .returned (.bool true) ∧ Below w.heap.size w w' := by
  have hn : n ≤ 1048576 := ho.big
  have hnc : (n : Int) ≤ c := by have := ho.cap; omega
  replace ho := Asd.mk ho
  go_enter Tryz.func10, Tryz.ntmps10
  go_wp2
  go_loopw [10] (fun i wr => ∃ k : Nat, k ≤ n ∧ i = .int .i64 k ∧ Below w.heap.size w wr) (fun i _ => n - (intOf i).toNat)
  case atStart => exact ⟨0, by omega, rfl, Below.refl _ _⟩
  case round =>
    obtain ⟨k, hk, rfl, hl⟩ := hrel
    by_cases hlt : k < n
    · obtain ⟨b, o, x, haa, hbB, hget, hr, hok⟩ := (ho.out.below (hl.mono hB)).get k hlt
      obtain ⟨C, hC⟩ : ∃ C, Asd (C = x.cells) := ⟨_, ⟨rfl⟩⟩
      have lC : Asd (C.length = 23) := ⟨by rw [hC.out]; rfl⟩
      have oC : Asd (C.toArray.all (·.oneCell') = true) := ⟨by rw [hC.out]; exact x.oneA (by rw [hok.hd.rv]; rfl)⟩
      obtain ⟨X, hX⟩ : ∃ X, Asd (wr.heap.size = X) := ⟨_, ⟨rfl⟩⟩
      rw [← hC.out] at hr
      have hf := Asd.mk (fun W (h : Below wr.heap.size wr W) => fits2_any B x W (hok.below (h.mono (Nat.le_trans hB hl.size))) (Nat.le_trans (Nat.le_trans hB hl.size) h.size))
      rw [← hC.out] at hf
      replace hl := Asd.mk hl
      replace hr := Asd.mk hr
      clear hget hok hbB
      rw [haa]
      go_upto_region 6 with (first
        | (refine wpList_load_mid rfl 52 (.tmp 12) rfl b (o + k * 23) rfl C _ hr.out Tryz.underlying52 rfl (by rw [info52, lC.out]) ?_)
        | (refine wpList_store_row rfl 52 (.tmp 4) (.tmp 13) rfl wr.heap.size C.toArray rfl rfl 52 _ (heap_alloc_new _ _) (by rw [info52, List.size_toArray, lC.out]) (by show (23 : Nat) = _; rw [List.size_toArray, lC.out]) oC.out ?_; rw [World.setRow_alloc_new]))
      have ba : Below wr.heap.size wr (wr.alloc (.cells C.toArray 52)) := (Below.refl _ _).alloc (Nat.le_refl _) _
      go_wp2_with (first
        | (refine wpList_load_row rfl 52 (.tmp 4) rfl wr.heap.size rfl 52 C.toArray (0, 0) _ (heap_alloc_new _ _) Tryz.underlying52 rfl (by rw [info52, List.size_toArray, lC.out]) ?_)
        | (go_at_call 30; refine (hf.out _ ba).mono ?_; rintro e w1 ⟨rfl, h1⟩; have hl1 := Asd.mk (hl.out.trans ((ba.trans (h1.mono ba.size)).mono hl.out.size)); clear ba h1))
      go_roundw
      case rel => exact ⟨k + 1, by omega, by go_num, hl1.out⟩
      case measure => simp [intOf]; omega
    · replace hl := Asd.mk hl
      go_wp2
      go_ret
      exact ⟨rfl, hl.out⟩
set_option maxRecDepth 100000 in
theorem below_any (x n : Int) (w : World) (hn : 0 < n) (hn2 : n ≤ 4294967296) (hx : i64R x) : Calls Tryz.prog 12 #[.int .i64 x, .int .i64 n] w fun e w' => ∃ y : Int, e = .returned (.int .i64 y) ∧ 0 ≤ y ∧ y < n ∧ w = w' := by
  unfold i64R at hx
  have h1 := Int.tmod_lt_of_pos x hn
  have h2 : -n < x.tmod n := by
    have := Int.tmod_lt_of_pos (-x) hn
    rw [Int.neg_tmod] at this
    omega
  obtain ⟨r, hr⟩ : ∃ r, Asd (x.tmod n = r) := ⟨_, ⟨rfl⟩⟩
  rw [hr.out] at h1 h2
  have hn0 : n ≠ 0 := by omega
  have hw : wrap64 r = r := by unfold wrap64; omega
  have hq : (x.tmod n) = r := hr.out
  go_enter Tryz.func12, Tryz.ntmps12
  by_cases h0 : r < 0
  · have hw2 : wrap64 (r + n) = r + n := by unfold wrap64; omega
    go_wp2
    go_ret
    exact ⟨r + n, rfl, by omega, by omega, rfl⟩
  · go_wp2
    go_ret
    exact ⟨r, rfl, by omega, by omega, rfl⟩
theorem conv_row {base : Nat} {v : Value} {l : List UInt8} {w : World} (h : w.ownsRow base 5 1 v l.length (cells l)) : (convert 25 9 v).run Tryz.prog w = .ok (.string ⟨l.toArray⟩) w := by
  rcases h.2 with ⟨rfl, h0⟩ | ⟨g, cap, cur, rfl, hg, hh, hn, _, hsz, htake⟩
  · have h1 : l = [] := List.eq_nil_of_length_eq_zero h0
    subst h1
    exact Lib.run_convert_nil_bytes (P := Tryz.prog) w 25 9 5 0 Tryz.underlying25 Tryz.underlying5 Tryz.underlying9
  · refine run_convert_bytes_back (P := Tryz.prog) w 25 9 5 ⟨g, 0, none⟩ cap l Tryz.underlying25 Tryz.underlying5 Tryz.underlying9 (fun j hj => ?_)
    have e : (⟨g, 0, none⟩ : Addr).add j = ⟨g, j, none⟩ := by unfold Addr.add; split <;> simp_all
    rw [e, h.cellAt j (by omega), cells_get, List.getElem?_eq_getElem hj]; rfl
set_option maxRecDepth 100000 in
theorem same_any {b1 b2 : Nat} {v1 v2 : Value} {l : List UInt8} {w : World} (h1 : w.ownsRow b1 5 1 v1 l.length (cells l)) (h2 : w.ownsRow b2 5 1 v2 l.length (cells l)) :
    Calls Tryz.prog 14 #[v1, v2] w fun e w' => e = .returned (.bool true) ∧ w = w' := by
  have c1 := conv_row h1
  have c2 := conv_row h2
  clear h1 h2
  obtain ⟨s, hs⟩ : ∃ s : ByteArray, Asd (⟨l.toArray⟩ = s) := ⟨_, ⟨rfl⟩⟩
  rw [hs.out] at c1 c2
  go_enter Tryz.func14, Tryz.ntmps14
  go_wp2
  go_ret
  exact ⟨by simp, rfl⟩
theorem endV_zero {G : GlP} {B : Nat} {v : Value} {w : World} (h : EndV G B v 0 w) : v = .nilIface := by
  rcases h with ⟨h, _⟩ | ⟨_, h⟩ | ⟨_, h⟩ | ⟨_, h⟩ | ⟨_, _, _, h⟩ | ⟨_, _, h⟩
  · exact h
  all_goals cases h
theorem dat0 (B : Nat) (w : World) : DatI B w none 0 0 [] := ⟨rfl, Nat.le_refl _, Nat.zero_le _, Nat.zero_le _, fun _ => ⟨rfl, rfl⟩, fun a h => by cases h⟩
/-- A header's call: what comes of it, and how much it writes. -/
theorem head_step {B : Nat} {w : World} {f : FileI} (hd : HdI B w f.h f.a f.n f.c f.rs) (ok : FileOk f) (m : Value) {a a' : AS} {o : List UInt8} {x : Int} (h : HdA (f.h.hd m) (recD f.rs) (fmtU f.h.fmt) (fmtP f.h.fmt) (fmtG f.h.fmt) a a' x) (hs : St a o) (hp : a.pad ≤ 512) :
    x = 0 ∧ Inv a' ∧ a'.nb = f.data.length ∧ FS f o (a'.out ++ f.data ++ List.replicate a'.pad.toNat 0) ∧ a'.out.length ≤ a.out.length + 4194304 := by
  obtain ⟨h1, h2, h3, h4⟩ := hdA_ok hd ok m h hs
  refine ⟨h1, h2, h3, h4, ?_⟩
  have hst : OpStep (hop f) a a' ⟨0, x, a'.out.length⟩ := ⟨rfl, .inl ⟨rfl, rfl, m, h⟩⟩
  exact (step_len (w := w) (B := B) ⟨hd, dat0 B w⟩ hp hst).2
set_option maxRecDepth 100000 in
set_option maxHeartbeats 4000000 in
theorem write_any (G : GlP) (B : Nat) (oa : Option Addr) (n c : Nat) (xs : List FileI) (w : World) (hgl : Gl G B w) (hes : Es G B w) (ho : FilesI B w oa n c xs) (hfo : ∀ f ∈ xs, FileOk f) :
    Calls Tryz.prog 13 #[.slice oa n c] w fun e w' => ∃ bv o, e = .returned (.tuple #[bv, .int .i64 0]) ∧ FSs xs [] o ∧ w'.ownsRow w.heap.size 5 1 bv (o ++ List.replicate 1024 0).length (cells (o ++ List.replicate 1024 0)) ∧ Below w.heap.size w w' := by
  have hB := hgl.size
  have hn : n ≤ 1048576 := ho.big
  have hnc : (n : Int) ≤ c := by have := ho.cap; omega
  have hlen := Asd.mk ho.len
  have hgl2 := hgl.mono hB (Nat.le_refl _)
  have hes2 := hes.mono hB
  have hbuf := Lib.fresh_isBuffer 62 5 w
  have hw0 : Below w.heap.size w (w.alloc (.cells #[.slice none 0 0, .int .i64 0, .int .i8 0] 62)) := (Below.refl _ _).alloc (Nat.le_refl _) _
  have hnw := newWriter_any w.heap.size w.heap.size (w.alloc (.cells #[.slice none 0 0, .int .i64 0, .int .i8 0] 62)) hw0.size hbuf (by show w.heap.size < (w.heap.push _).size; simp)
  unfold ifW at hnw
  replace hnw := Asd.mk hnw
  replace hw0 := Asd.mk hw0
  replace hgl2 := Asd.mk hgl2
  replace hes2 := Asd.mk hes2
  replace ho := Asd.mk ho
  replace hfo := Asd.mk hfo
  clear hbuf hgl hes
  go_enter Tryz.func13, Tryz.ntmps13
  go_wp2_with (go_at_call 16; refine hnw.out.mono ?_; rintro e w1 ⟨bw, bc0, rfl, hW1, hF1⟩)
  have hbl1 := (Fr.of_below hw0.out (Nat.le_refl _)).below.trans hF1.below
  clear hF1 hw0 hnw
  replace hW1 := Asd.mk hW1
  replace hbl1 := Asd.mk hbl1
  go_loopw [16] (fun i wr => ∃ k s a o bc, k ≤ n ∧ i = .int .i64 (k : Nat) ∧ FSs (xs.take k) [] o ∧ St a o ∧ Wr w.heap.size bw w.heap.size bc s wr ∧ AbS G s a ∧ a.out.length ≤ k * 8388608 ∧ Below w.heap.size w wr) (fun i _ => n - (intOf i).toNat)
  case atStart =>
    exact ⟨0, _, a0, [], bc0, by omega, rfl, rfl, ⟨⟨rfl, Int.le_refl _, Int.le_refl _, rfl⟩, rfl, rfl⟩, hW1.out, ⟨rfl, rfl, by decide, by decide, rfl, by decide, by decide, rfl, by decide⟩, Nat.zero_le _, hbl1.out⟩
  case round =>
    obtain ⟨k, s, a, o, bc, hk, rfl, hfs, hst, hW, hA, hlen2, hbl⟩ := hrel
    by_cases hlt : k < n
    · obtain ⟨b, off, x, haa, hbB, hget, hr, hok⟩ := (ho.out.below (hbl.mono hB)).get k hlt
      have hfok := Asd.mk (hfo.out x (List.mem_of_getElem? hget))
      have hok0 := Asd.mk (ho.out.ok x (List.mem_of_getElem? hget))
      have htk : Asd (xs.take (k + 1) = xs.take k ++ [x]) := ⟨by rw [List.take_add_one, hget]; rfl⟩
      obtain ⟨C, hC⟩ : ∃ C, Asd (C = x.cells) := ⟨_, ⟨rfl⟩⟩
      have lC : Asd (C.length = 23) := ⟨by rw [hC.out]; rfl⟩
      have oC : Asd (C.toArray.all (·.oneCell') = true) := ⟨by rw [hC.out]; exact x.oneA (by rw [hok.hd.rv]; rfl)⟩
      rw [← hC.out] at hr
      replace hr := Asd.mk hr
      replace hok := Asd.mk hok
      replace hfs := Asd.mk hfs
      replace hst := Asd.mk hst
      replace hW := Asd.mk hW
      replace hA := Asd.mk hA
      replace hbl := Asd.mk hbl
      replace hlen2 := Asd.mk hlen2
      clear hget hbB
      rw [haa]
      go_upto_region 6 with (first
        | (refine wpList_load_mid rfl 52 (.tmp 18) rfl b (off + k * 23) rfl C _ hr.out Tryz.underlying52 rfl (by rw [info52, lC.out]) ?_)
        | (refine wpList_store_row rfl 52 (.tmp 7) (.tmp 19) rfl wr.heap.size C.toArray rfl rfl 52 _ (heap_alloc_new _ _) (by rw [info52, List.size_toArray, lC.out]) (by show (23 : Nat) = _; rw [List.size_toArray, lC.out]) oC.out ?_; rw [World.setRow_alloc_new]))
      obtain ⟨N, hN⟩ : ∃ N, Asd (wr.heap.size = N) := ⟨_, ⟨rfl⟩⟩
      obtain ⟨W1, hW1⟩ : ∃ W1, Asd (W1 = wr.alloc (.cells C.toArray 52)) := ⟨_, ⟨rfl⟩⟩
      have b0 := heap_alloc_new wr (.cells C.toArray 52)
      have ba : Below wr.heap.size wr (wr.alloc (.cells C.toArray 52)) := (Below.refl _ _).alloc (Nat.le_refl _) _
      have W2 := hW.out.alloc (.cells C.toArray 52)
      have bl2 := hbl.out.trans (ba.mono hbl.out.size)
      have ok2 := hok.out.below (ba.mono (Nat.le_trans hB hbl.out.size))
      rw [← hW1.out] at b0 W2 bl2 ok2
      rw [← hW1.out, hN.out]
      rw [hN.out] at b0
      clear hW1 ba
      have r0 : W1.rangeAt N 0 x.cells := by rw [← hC.out]; exact rng0 b0
      have r1 := x.head r0
      obtain ⟨CH, hCH⟩ : ∃ C, Asd (C = x.h.cells) := ⟨_, ⟨rfl⟩⟩
      have lCH : Asd (CH.length = 21) := ⟨by rw [hCH.out]; rfl⟩
      have hh := header_any ok2.hd (Nat.le_trans hB bl2.size)
      have gl2 := hgl2.out.below bl2
      have lim : a.out.length ≤ 8796093021696 := by have := hlen2.out; omega
      have hdn : (x.dn : Int) ≤ 1048576 := by have := ok2.dt.big; omega
      have hdc : (x.dn : Int) ≤ x.dc := by have := ok2.dt.cap; omega
      have hdl := Asd.mk ok2.dt.len
      have hbbW : w.heap.size < W1.heap.size := W2.blt
      rw [← hCH.out] at r1 hh
      replace b0 := Asd.mk b0
      replace r1 := Asd.mk r1
      replace W2 := Asd.mk W2
      replace bl2 := Asd.mk bl2
      replace ok2 := Asd.mk ok2
      replace hh := Asd.mk hh
      replace gl2 := Asd.mk gl2
      replace lim := Asd.mk lim
      replace hbbW := Asd.mk hbbW
      clear r0
      go_upto_region 9 with (first
        | (refine wpList_load_mid rfl 32 (.tmp 21) rfl N 0 rfl CH _ r1.out Tryz.underlying32 rfl (by rw [info32, lCH.out]) ?_)
        | (go_at_call 18; refine hh.out.mono ?_; rintro e w2 ⟨hb, m, rfl, h2, hR, hb2⟩; have hd2 := Asd.mk (hd_call (gl2.out.below (hb2.mono bl2.out.size)) (W2.out.below hb2) hA.out lim.out hok.out.hd hb m h2 hR); have bl2b := Asd.mk (bl2.out.trans (hb2.mono bl2.out.size)); have b2 := Asd.mk (blk_below b0.out hb2); clear hh h2 hR hb2)
        | (go_at_call 17; refine hd2.out.mono ?_; rintro e w3 ⟨v, y, a3, s3, bc3, rfl, hE, hW3, hA3, hF3, hQ⟩; clear hd2; obtain ⟨rfl, hi3, hn3, hf3, hl3⟩ := head_step hok.out.hd hfok.out m hQ hst.out hA.out.p1; obtain rfl := endV_zero hE; have bl3 := Asd.mk (bl2b.out.trans hF3.below); have b3 := hF3.kept _ _ b2.out (by rintro ⟨c, fz, e | e | e | e⟩ <;> (injection e with _ e2 _; exact absurd e2 (by decide))); clear hE hQ hF3 b2 bl2b; replace hW3 := Asd.mk hW3; replace hA3 := Asd.mk hA3; replace hi3 := Asd.mk hi3; replace hn3 := Asd.mk hn3; replace hf3 := Asd.mk hf3; replace hl3 := Asd.mk hl3))
      have c21 : w3.cell? ⟨N, 21, none⟩ = some (.slice x.da x.dn x.dc) := by
        refine x.dat (b := N) (o := 0) ?_
        rw [← hC.out]
        exact rng0 b3
      replace b3 := Asd.mk b3
      by_cases hd0 : x.dn = 0
      · have hd0' : ((x.dn : Int) == 0) = true := by simpa using hd0
        have hdat : Asd (x.data = []) := ⟨List.eq_nil_of_length_eq_zero (hdl.out.trans hd0)⟩
        clear hd0
        go_wp2
        go_roundw
        case rel =>
          have hf4 := hf3.out
          rw [hdat.out, List.append_nil] at hf4
          refine ⟨k + 1, s3, a3, _, bc3, by omega, by go_num, by rw [htk.out]; exact fss_snoc hf4 hfs.out, st_file hi3.out (by rw [hn3.out, hdat.out]; rfl), hW3.out, hA3.out, ?_, bl3.out⟩
          have := hlen2.out
          have := hl3.out
          omega
        case measure => simp [intOf]; omega
      · have hd0' : ((x.dn : Int) == 0) = false := by simpa using hd0
        have hcl := Asd.mk (clone_any (hok0.out.below (bl3.out.mono hB)).dt)
        have hbb3 := Asd.mk hW3.out.blt
        have lim3 : Asd (a3.out.length + x.dn ≤ 140737488355328) := ⟨by have := lim.out; have := hl3.out; omega⟩
        clear hd0
        go_wp2_with (first
          | (go_at_call 20; refine hcl.out.mono ?_; rintro e w4 ⟨ao, c', rfl, hS, hb4⟩; have hd4 := Asd.mk (wr_step (hgl2.out.below (bl3.out.trans (hb4.mono bl3.out.size))) (hW3.out.below hb4) hA3.out ao x.dn c' x.data (hS _ hbb3.out) lim3.out); have bl4 := Asd.mk (bl3.out.trans (hb4.mono bl3.out.size)); clear hcl hS hb4)
          | (go_at_call 19; refine hd4.out.mono ?_; rintro e w5 ⟨n5, v, y, a5, s5, bc5, rfl, hE, hW5, hA5, hF5, hQ⟩; clear hd4; obtain ⟨rfl, hi5, hn5, ho5, hp5⟩ := wrA_ok hQ hi3.out (by rw [hn3.out]; omega); obtain rfl := endV_zero hE; have bl5 := Asd.mk (bl4.out.trans hF5.below); clear hE hQ hF5; replace hW5 := Asd.mk hW5; replace hA5 := Asd.mk hA5; replace hi5 := Asd.mk hi5; replace hn5 := Asd.mk hn5; replace ho5 := Asd.mk ho5; replace hp5 := Asd.mk hp5))
        go_roundw
        case rel =>
          have hf4 := hf3.out
          rw [← ho5.out, ← hp5.out] at hf4
          refine ⟨k + 1, s5, a5, _, bc5, by omega, by go_num, by rw [htk.out]; exact fss_snoc hf4 hfs.out, st_file hi5.out (by rw [hn5.out, hn3.out]; omega), hW5.out, hA5.out, ?_, bl5.out⟩
          have := hlen2.out
          have := hl3.out
          have := hdl.out
          rw [ho5.out, List.length_append]
          omega
        case measure => simp [intOf]; omega
    · have htk : Asd (xs.take k = xs) := ⟨List.take_of_length_le (by rw [hlen.out]; omega)⟩
      have hkn : k = n := by omega
      subst hkn
      have hcl := cl_step (hgl2.out.below hbl) (hes2.out.below hbl) hW hA (by have := hlen2; omega)
      rw [htk.out] at hfs
      replace hcl := Asd.mk hcl
      replace hfs := Asd.mk hfs
      replace hst := Asd.mk hst
      replace hbl := Asd.mk hbl
      clear hW hA
      go_wp2_with (first
        | (go_at_call 21; refine hcl.out.mono ?_; rintro e w3 ⟨v, y, a3, s3, bc3, rfl, hE, hW3, hA3, hF3, hQ⟩; obtain ⟨rfl, ho3⟩ := clA_ok hQ hst.out; obtain rfl := endV_zero hE; have hbb := hW3.hb; rw [hA3.out, ho3] at hbb; have bl3 := Asd.mk (hbl.out.trans hF3.below); replace hbb := Asd.mk hbb; clear hcl hE hW3 hA3 hF3 hQ)
        | (go_at_call 25; (refine (Tryz.Buffer_Bytes _ _ (cells (o ++ List.replicate 1024 0)) _ hbb.out).mono ?_; rintro e w5 ⟨bv, rfl, hrow, q, rfl⟩))
        | (go_at_call 23; refine (end_nil _).mono ?_; rintro e w4 ⟨rfl, rfl⟩))
      go_ret2
      exact ⟨bv, o, rfl, hfs.out, by rw [cells_len] at hrow; exact hrow, bl3.out.trans ⟨rfl, rfl, rfl, Nat.le_refl _, fun _ _ => rfl⟩⟩
end Go.Proofs.YtpkilegnokajmaaGreatDoor
