/- allowedFormats: behind the fields. allowedFormats: the size, the header's own records. allowedFormats: the records are looked at; the format that is wanted; the end. allowedFormats: what is owed behind the fields, joined. -/
import Derived.Test.YtpkilegnokajmaaGreatDoorA06
import Derived.Test.YtpkilegnokajmaaGreatDoorA09
import Derived.Test.YtpkilegnokajmaaGreatDoorA01
import Derived.Deep.DeepCutAuto
import Derived.Deep.WholeRow
import Derived.BigQuiet
import Derived.Deep.QuietTactic
import Derived.RegionTactic
import Derived.ChangeAlike
set_option linter.unusedVariables false
set_option linter.unusedSimpArgs false
set_option linter.unnecessarySimpa false
set_option linter.unusedSectionVars false
namespace Go.Proofs.YtpkilegnokajmaaGreatDoor
open Go.RowKit Go.Maps
/-- What follows n statements. -/
def dropSeq : Nat → Code → Code
  | 0, c => c
  | n + 1, .seq _ b => dropSeq n b
  | _ + 1, c => c
noncomputable def code35 (n : Nat) : Code := dropSeq n (Tryz.f35.body.getD .skip)
def gnuSp : List UInt8 := [71, 78, 85, 46, 115, 112, 97, 114, 115, 101, 46]
def basicK (k : List UInt8) : Bool := Maps.has basicD (.string k)
/-- Which records of the header's own go along. -/
def keepRec (tf : UInt8) (k : List UInt8) : Bool := decide (tf = 103) || (!(basicK k) && !(Lib.hasPrefix k gnuSp))
def Merged (D1 R : DataW Unit) (keep : List UInt8 → Bool) (D : DataW Unit) : Prop := ∀ k, getS D k = match getS D1 k with | some v => some v | none => if keep k then getS R k else none
def AllRec (D : DataW Unit) : Prop := ∀ k v : ByteArray, getS D k.data.toList = some v.data.toList → vRec k v = true
def endsSlash (s : ByteArray) : Bool := Lib.hasSuffix s.data.toList [47]
def noSlashTf (t : UInt8) : Bool := decide (t = 48) || decide (t = 51) || decide (t = 52) || decide (t = 54) || decide (t = 83)
def ownTf (t : UInt8) : Bool := decide (t = 120) || decide (t = 76) || decide (t = 75)
def badSw (h : Hd) : Bool := (noSlashTf h.tf && endsSlash h.name) || ownTf h.tf || (decide (h.tf = 103) && !(hdPlain h))
def badH (h : Hd) : Bool := badSw h || (!(hdrOnly h.tf) && decide (h.size < 0))
def swSt (h : Hd) (st : AfS) : AfS := if h.tf = 103 then ⟨false, st.p, false, st.pref, st.D⟩ else st
def paxSt (R : DataW Unit) (st : AfS) : AfS := if Maps.size R = 0 then st else ⟨false, st.p, false, st.pref, st.D⟩
/-- A header of the package is refused as it stands. -/
def AfBad (N : Nat) (w : World) (e : Ending) (w' : World) : Prop := ∃ v, e = .returned (.tuple #[.int .i64 0, .map none, .iface 151 v]) ∧ Below N w w'
theorem hdrEq_any (H : Hd) (w : World) : Calls Tryz.prog 89 #[.agg H.cells.toArray, .agg (gHd H).cells.toArray] w fun e w' => e = .returned (.bool (hdPlain H)) ∧ Below w.heap.size w w' := by
  rcases (Bool.eq_false_or_eq_true (H.link.toList.isEmpty)).symm with h0 | h0
  · have e : hdPlain H = false := by unfold hdPlain; rw [h0]; simp
    rw [e]
    exact hdrEq_0 H w  h0
  rcases (Bool.eq_false_or_eq_true ((H.size == 0))).symm with h1 | h1
  · have e : hdPlain H = false := by unfold hdPlain; rw [h0, h1]; simp
    rw [e]
    exact hdrEq_1 H w h0 h1
  rcases (Bool.eq_false_or_eq_true ((H.mode == 0))).symm with h2 | h2
  · have e : hdPlain H = false := by unfold hdPlain; rw [h0, h1, h2]; simp
    rw [e]
    exact hdrEq_2 H w h0 h1 h2
  rcases (Bool.eq_false_or_eq_true ((H.uid == 0))).symm with h3 | h3
  · have e : hdPlain H = false := by unfold hdPlain; rw [h0, h1, h2, h3]; simp
    rw [e]
    exact hdrEq_3 H w h0 h1 h2 h3
  rcases (Bool.eq_false_or_eq_true ((H.gid == 0))).symm with h4 | h4
  · have e : hdPlain H = false := by unfold hdPlain; rw [h0, h1, h2, h3, h4]; simp
    rw [e]
    exact hdrEq_4 H w h0 h1 h2 h3 h4
  rcases (Bool.eq_false_or_eq_true (H.uname.toList.isEmpty)).symm with h5 | h5
  · have e : hdPlain H = false := by unfold hdPlain; rw [h0, h1, h2, h3, h4, h5]; simp
    rw [e]
    exact hdrEq_5 H w h0 h1 h2 h3 h4 h5
  rcases (Bool.eq_false_or_eq_true (H.gname.toList.isEmpty)).symm with h6 | h6
  · have e : hdPlain H = false := by unfold hdPlain; rw [h0, h1, h2, h3, h4, h5, h6]; simp
    rw [e]
    exact hdrEq_6 H w h0 h1 h2 h3 h4 h5 h6
  rcases (Bool.eq_false_or_eq_true (isZ H.mn H.mx)).symm with h7 | h7
  · have e : hdPlain H = false := by unfold hdPlain; rw [h0, h1, h2, h3, h4, h5, h6, h7]; simp
    rw [e]
    exact hdrEq_7 H w h0 h1 h2 h3 h4 h5 h6 h7
  rcases (Bool.eq_false_or_eq_true (isZ H.an H.ax)).symm with h8 | h8
  · have e : hdPlain H = false := by unfold hdPlain; rw [h0, h1, h2, h3, h4, h5, h6, h7, h8]; simp
    rw [e]
    exact hdrEq_8 H w h0 h1 h2 h3 h4 h5 h6 h7 h8
  rcases (Bool.eq_false_or_eq_true (isZ H.cn H.cx)).symm with h9 | h9
  · have e : hdPlain H = false := by unfold hdPlain; rw [h0, h1, h2, h3, h4, h5, h6, h7, h8, h9]; simp
    rw [e]
    exact hdrEq_9 H w h0 h1 h2 h3 h4 h5 h6 h7 h8 h9
  rcases (Bool.eq_false_or_eq_true ((H.maj == 0))).symm with h10 | h10
  · have e : hdPlain H = false := by unfold hdPlain; rw [h0, h1, h2, h3, h4, h5, h6, h7, h8, h9, h10]; simp
    rw [e]
    exact hdrEq_10 H w h0 h1 h2 h3 h4 h5 h6 h7 h8 h9 h10
  rcases (Bool.eq_false_or_eq_true ((H.min == 0))).symm with h11 | h11
  · have e : hdPlain H = false := by unfold hdPlain; rw [h0, h1, h2, h3, h4, h5, h6, h7, h8, h9, h10, h11]; simp
    rw [e]
    exact hdrEq_11 H w h0 h1 h2 h3 h4 h5 h6 h7 h8 h9 h10 h11
  have e : hdPlain H = true := by unfold hdPlain; rw [h0, h1, h2, h3, h4, h5, h6, h7, h8, h9, h10, h11]; rfl
  rw [e]
  exact hdrEq_12 H w h0 h1 h2 h3 h4 h5 h6 h7 h8 h9 h10 h11
/-- allowedFormats from its statement k on: what is known of the frame. -/
def Fr35 (k N : Nat) (x : ByteArray) (Post : Ending → World → Prop) (w : World) : Prop :=
  ∀ (c0 c9 c10 c11 c12 c13 c14 c15 c18 c19 c20 c21 c22 c23 c24 c25 c26 c27 c28 c29 c30 c31 c32 c33 c34 c35 c36 c37 c38 c39 c40 c41 c42 c43 c44 c45 c46 c47 c48 c49 c50 c51 c52 c53 c54 c55 c56 c57 c58 c59 c60 c61 c62 c63 c64 c65 c66 c67 c68 c69 c70 c71 c72 c73 c74 c75 c76 c77 c78 c79 c80 c81 c82 c83 c84 c85 c86 c87 c88 c89 c90 c91 c92 c93 c94 c95 c96 c97 c98 c99 c100 c101 c102 c103 c104 c105 c106 c107 c108 c109 c110 c111 c112 c113 c114 c115 c116 c117 c118 c119 c120 c121 c122 c123 c124 c125 c126 c127 c128 c129 c130 c131 c132 c133 c134 c135 c136 c137 c138 c139 c140 c141 c142 c143 c144 c145 c146 c147 c148 c149 c150 c151 c152 c153 c154 c155 c156 c157 c158 c159 c160 c161 c162 c163 c164 c165 c166 c167 c168 c169 c170 c171 c172 c173 c174 c175 c176 c177 c178 c179 c180 c181 c182 c183 c184 c185 c186 c187 c188 c189 c190 c191 c192 c193 c194 c195 c196 c197 c198 c199 c200 c201 c202 c203 c204 c205 c206 c207 c208 c209 c210 c211 c212 c213 c214 c215 c216 c217 c218 c219 c220 c221 c222 c223 c224 c225 c226 c227 c228 c229 c230 c231 c232 c233 c234 c235 c236 c237 c238 c239 c240 c241 c242 c243 c244 c245 c246 c247 c248 c249 c250 c251 c252 c253 c254 c255 c256 c257 c258 c259 c260 c261 c262 c263 c264 c265 c266 c267 c268 c269 c270 c271 c272 c273 c274 c275 c276 c277 c278 c279 c280 c281 c282 c283 c284 c285 c286 c287 c288 c289 c290 c291 c292 : Value), Code.wp Tryz.prog (code35 k) (bodyPost Tryz.prog Tryz.f35 Post) ⟨#[c0, .pointer (some ⟨N, 0, none⟩), .pointer (some ⟨N + 1, 0, none⟩), .pointer (some ⟨N + 2, 0, none⟩), .nilIface, .pointer (some ⟨N + 4, 0, none⟩), .pointer (some ⟨N + 5, 0, none⟩), .pointer (some ⟨N + 6, 0, none⟩), .pointer (some ⟨N + 7, 0, none⟩), c9, c10, c11, c12, c13, c14, c15, .string x, .string ⟨#[]⟩, c18, c19, c20, c21, c22, c23, c24, c25, c26, c27, c28, c29, c30, c31, c32, c33, c34, c35, c36, c37, c38, c39, c40, c41, c42, c43, c44, c45, c46, c47, c48, c49, c50, c51, c52, c53, c54, c55, c56, c57, c58, c59, c60, c61, c62, c63, c64, c65, c66, c67, c68, c69, c70, c71, c72, c73, c74, c75, c76, c77, c78, c79, c80, c81, c82, c83, c84, c85, c86, c87, c88, c89, c90, c91, c92, c93, c94, c95, c96, c97, c98, c99, c100, c101, c102, c103, c104, c105, c106, c107, c108, c109, c110, c111, c112, c113, c114, c115, c116, c117, c118, c119, c120, c121, c122, c123, c124, c125, c126, c127, c128, c129, c130, c131, c132, c133, c134, c135, c136, c137, c138, c139, c140, c141, c142, c143, c144, c145, c146, c147, c148, c149, c150, c151, c152, c153, c154, c155, c156, c157, c158, c159, c160, c161, c162, c163, c164, c165, c166, c167, c168, c169, c170, c171, c172, c173, c174, c175, c176, c177, c178, c179, c180, c181, c182, c183, c184, c185, c186, c187, c188, c189, c190, c191, c192, c193, c194, c195, c196, c197, c198, c199, c200, c201, c202, c203, c204, c205, c206, c207, c208, c209, c210, c211, c212, c213, c214, c215, c216, c217, c218, c219, c220, c221, c222, c223, c224, c225, c226, c227, c228, c229, c230, c231, c232, c233, c234, c235, c236, c237, c238, c239, c240, c241, c242, c243, c244, c245, c246, c247, c248, c249, c250, c251, c252, c253, c254, c255, c256, c257, c258, c259, c260, c261, c262, c263, c264, c265, c266, c267, c268, c269, c270, c271, c272, c273, c274, c275, c276, c277, c278, c279, c280, c281, c282, c283, c284, c285, c286, c287, c288, c289, c290, c291, c292], []⟩ w
/-- What is owed behind the switch. -/
def Nx27 (G : GlP) (B : Nat) (H : Hd) (R : DataW Unit) (rn N n : Nat) (st : AfS) (w0 : World) (Post : Ending → World → Prop) : Prop :=
  ∀ (x : ByteArray) (w' : World), Af G B H R rn N n st w0 w' → Fr35 27 N x Post w'
def headSeq : Code → Code
  | .seq a _ => a
  | c => c
theorem code35_26 : code35 26 = .seq (headSeq (code35 26)) (code35 27) := by kernel_rfl
theorem info100 : (Tryz.prog.info? 100).map (·.size) = some 20 := by kernel_rfl
theorem built100 (tf : UInt8) (name : ByteArray) (mb : Option Nat) (fmt : Int) : Tryz.prog.built 100 [(1, .string name), (0, .int .u8 tf.toNat), (14, .map none), (15, .map mb), (16, .int .i64 fmt)] =
    some #[.int .u8 tf.toNat, .string name, .string ⟨#[]⟩, .int .i64 0, .int .i64 0, .int .i64 0, .int .i64 0, .string ⟨#[]⟩, .string ⟨#[]⟩, .int .u64 0, .int .i64 0, .int .u64 0, .int .i64 0, .int .u64 0, .int .i64 0, .int .i64 0, .int .i64 0, .map none, .map mb, .int .i64 fmt] := by kernel_rfl
theorem wpList_g (H : Hd) (hx : H.xat = .map none) (mb : Option Nat) (hr : H.recs = .map mb) {ops : Array Oper} {rest : List Oper} {o : Oper} {a : Act} {w : World} {Q : Exit → Act → World → Prop} (hg : o.guard = none) (x1 x0 x14 x15 x16 : Operand)
    (ho : o.op = .build 100 #[(1, x1), (0, x0), (14, x14), (15, x15), (16, x16)]) (e1 : a.eval x1 = .string H.name) (e0 : a.eval x0 = .int .u8 H.tf.toNat) (e14 : a.eval x14 = H.xat) (e15 : a.eval x15 = H.recs) (e16 : a.eval x16 = .int .i64 H.fmt)
    (h : wpList Tryz.prog ops Q rest (a.put o.dst (.agg (gHd H).cells.toArray)) w) : wpList Tryz.prog ops Q (o :: rest) a w := by
  have hb : Tryz.prog.built 100 ((#[(1, x1), (0, x0), (14, x14), (15, x15), (16, x16)] : Array (Nat × Operand)).map fun (i, x) => (i, a.eval x)).toList = some (gHd H).cells.toArray := by
    simp only [List.map_toArray, List.map_cons, List.map_nil, e1, e0, e14, e15, e16, hx, hr]
    rw [built100]
    unfold gHd Hd.cells
    simp only [hx, hr]
    rfl
  exact wpList_build hg 100 _ ho (by rw [hb]; rfl) (by rw [hb]; exact h)
theorem slash_any (s : ByteArray) (w : World) (hs : s.size ≤ 1073741824) : Calls Tryz.prog 33 #[.string s, .string ⟨#[47]⟩] w fun e w' => e = .returned (.bool (endsSlash s)) ∧ w = w' := by
  refine (Tryz.strings_HasSuffix s ⟨#[47]⟩ w (by omega)).mono ?_
  rintro e w' ⟨rfl, rfl⟩
  exact ⟨rfl, rfl⟩
/-- A refusal: zero and nil are laid down, the error is a new slice. -/
theorem Af.refuse {G : GlP} {B : Nat} {H : Hd} {R : DataW Unit} {rn N n : Nat} {st : AfS} {w0 w : World} (h : Af G B H R rn N n st w0 w) (o : Obj) :
    ((((w.setCell ⟨N + 1, 0, none⟩ (.int .i64 0))).setCell ⟨N + 2, 0, none⟩ (.map none)).alloc o).cell? ⟨N + 1, 0, none⟩ = some (.int .i64 0) ∧
    ((((w.setCell ⟨N + 1, 0, none⟩ (.int .i64 0))).setCell ⟨N + 2, 0, none⟩ (.map none)).alloc o).cell? ⟨N + 2, 0, none⟩ = some (.map none) ∧
    Below N w0 ((((w.setCell ⟨N + 1, 0, none⟩ (.int .i64 0))).setCell ⟨N + 2, 0, none⟩ (.map none)).alloc o) := by
  have hl := h.lt
  have h1 : (w.setCell ⟨N + 1, 0, none⟩ (.int .i64 0)).heap[N + 1]? = some (.cells #[.int .i64 0] 98 (0, 0)) := set1 h.f
  have h2 : (w.setCell ⟨N + 1, 0, none⟩ (.int .i64 0)).heap[N + 2]? = some (.cells #[.map (some (N + 3))] 97 (0, 0)) := (kset w (N + 1) 0 (.int .i64 0)).get h.x (by omega)
  have h3 := (kset (w.setCell ⟨N + 1, 0, none⟩ (.int .i64 0)) (N + 2) 0 (.map none)).get h1 (by omega)
  have h4 : ((w.setCell ⟨N + 1, 0, none⟩ (.int .i64 0)).setCell ⟨N + 2, 0, none⟩ (.map none)).heap[N + 2]? = some (.cells #[.map none] 97 (0, 0)) := set1 h2
  have hb : ∀ W : World, Below W.heap.size W (W.alloc o) := fun W => (Below.refl _ _).alloc (Nat.le_refl _) _
  have hB := (h.below.setCell (p := ⟨N + 1, 0, none⟩) (by show N ≤ N + 1; omega) (.int .i64 0)).setCell (p := ⟨N + 2, 0, none⟩) (by show N ≤ N + 2; omega) (.map none)
  refine ⟨cell_blk (C := [_]) (blk_below h3 (hb _)) rfl, cell_blk (C := [_]) (blk_below h4 (hb _)) rfl, hB.alloc ?_ _⟩
  have := blk_lt h3
  omega
theorem res35 {N : Nat} {a b v : Value} (tmps : Array Value) (W : World) (h2 : tmps.getD 2 undef = .pointer (some ⟨N + 1, 0, none⟩)) (h3 : tmps.getD 3 undef = .pointer (some ⟨N + 2, 0, none⟩)) (h4 : tmps.getD 4 undef = v)
    (c2 : W.cell? ⟨N + 1, 0, none⟩ = some a) (c3 : W.cell? ⟨N + 2, 0, none⟩ = some b) : (results Tryz.f35 tmps).run Tryz.prog W = .ok (.tuple #[a, b, v]) W := by
  have h2' : tmps[2]?.getD undef = .pointer (some ⟨N + 1, 0, none⟩) := by simpa using h2
  have h3' : tmps[3]?.getD undef = .pointer (some ⟨N + 2, 0, none⟩) := by simpa using h3
  have h4' : tmps[4]?.getD undef = v := by simpa using h4
  simp [results, Tryz.results35, go_sem, h2', h3', h4', c2, c3]
theorem tf_nat (t : UInt8) (k : Nat) (hk : k < 256) : (t = UInt8.ofNat k) ↔ t.toNat = k := by
  constructor
  · rintro rfl
    simp [UInt8.toNat_ofNat, Nat.mod_eq_of_lt hk]
  · intro h
    rw [← h]
    simp
set_option maxRecDepth 100000 in
set_option maxHeartbeats 8000000 in
theorem sw_48 (G : GlP) (B : Nat) (H : Hd) (R : DataW Unit) (rn N n : Nat) (st : AfS) (w0 w : World) (hA : Af G B H R rn N n st w0 w) (ok : Asd H.Ok) (hxa : H.xat = .map none) (Post : Ending → World → Prop) (hk : H.tf.toNat = 48)
    (hbad : badSw H = true → ∀ e w', AfBad N w0 e w' → Post e w')
    (hnext : badSw H = false → Nx27 G B H R rn N n (swSt H st) w0 Post) :
    Fr35 26 N ⟨#[]⟩ Post w := by
  unfold Fr35
  intros
  rw [code35_26]
  conv => arg 2; arg 1; whnf
  have hnx := Asd.mk hnext
  have hbd := Asd.mk hbad
  clear hnext hbad
  obtain ⟨Q', hQ⟩ : ∃ Q', Asd (bodyPost Tryz.prog Tryz.f35 Post = Q') := ⟨_, ⟨rfl⟩⟩
  rw [hQ.out]
  have ct := hA.hd (j := 0) (v := .int .u8 H.tf.toNat) rfl
  have cn := hA.hd (j := 1) (v := .string H.name) rfl
  have cf := hA.cf
  have gf := hA.fz.1
  have cx := hA.cx
  have ef : N + 1 < w.heap.size := by have := hA.lt; omega
  have ex : N + 2 < w.heap.size := by have := hA.lt; omega
  have gx : w.frozen? ⟨N + 2, 0, none⟩ = false := frozen_blk (C := [_]) hA.x
  have hnm : Asd (H.name.size ≤ 1073741824) := ⟨ok.out.name⟩
  have f48 : ((H.tf.toNat : Int) == 48) = true := by rw [hk]; rfl
  have ht : H.tf = 48 := (tf_nat H.tf 48 (by omega)).2 hk
  have hns : Asd (noSlashTf H.tf = true ∧ ownTf H.tf = false ∧ swSt H st = st) := ⟨by rw [ht]; rfl, by rw [ht]; rfl, by unfold swSt; rw [ht]; rfl⟩
  have hn3 : Asd ((decide (H.tf = 103)) = false) := ⟨by rw [ht]; rfl⟩
  clear hk ht
  by_cases hs : endsSlash H.name = true
  · have hb : Asd (badSw H = true) := ⟨by unfold badSw; rw [hns.out.1, hs]; rfl⟩
    go_wp2_with (go_at_call 33; refine (slash_any H.name _ hnm.out).mono ?_; rintro e w1 ⟨rfl, rfl⟩)
    rw [← hQ.out]
    have hrf := fun o => hA.refuse o
    refine bodyPost_ret (res35 (N := N) _ _ rfl rfl rfl (hrf _).1 (hrf _).2.1) rfl ?_
    exact hbd.out hb.out _ _ ⟨_, rfl, (hrf _).2.2⟩
  · replace hs : endsSlash H.name = false := by simpa using hs
    have hb : Asd (badSw H = false) := ⟨by unfold badSw; rw [hns.out.1, hs, hns.out.2.1, hn3.out]; rfl⟩
    go_wp2_with (go_at_call 33; refine (slash_any H.name _ hnm.out).mono ?_; rintro e w1 ⟨rfl, rfl⟩)
    rw [← hQ.out]
    apply hnx.out hb.out ⟨#[]⟩ _ (by rw [hns.out.2.2]; exact hA)
set_option maxRecDepth 100000 in
set_option maxHeartbeats 8000000 in
theorem sw_51 (G : GlP) (B : Nat) (H : Hd) (R : DataW Unit) (rn N n : Nat) (st : AfS) (w0 w : World) (hA : Af G B H R rn N n st w0 w) (ok : Asd H.Ok) (hxa : H.xat = .map none) (Post : Ending → World → Prop) (hk : H.tf.toNat = 51)
    (hbad : badSw H = true → ∀ e w', AfBad N w0 e w' → Post e w')
    (hnext : badSw H = false → Nx27 G B H R rn N n (swSt H st) w0 Post) :
    Fr35 26 N ⟨#[]⟩ Post w := by
  unfold Fr35
  intros
  rw [code35_26]
  conv => arg 2; arg 1; whnf
  have hnx := Asd.mk hnext
  have hbd := Asd.mk hbad
  clear hnext hbad
  obtain ⟨Q', hQ⟩ : ∃ Q', Asd (bodyPost Tryz.prog Tryz.f35 Post = Q') := ⟨_, ⟨rfl⟩⟩
  rw [hQ.out]
  have ct := hA.hd (j := 0) (v := .int .u8 H.tf.toNat) rfl
  have cn := hA.hd (j := 1) (v := .string H.name) rfl
  have cf := hA.cf
  have gf := hA.fz.1
  have cx := hA.cx
  have ef : N + 1 < w.heap.size := by have := hA.lt; omega
  have ex : N + 2 < w.heap.size := by have := hA.lt; omega
  have gx : w.frozen? ⟨N + 2, 0, none⟩ = false := frozen_blk (C := [_]) hA.x
  have hnm : Asd (H.name.size ≤ 1073741824) := ⟨ok.out.name⟩
  have f48 : ((H.tf.toNat : Int) == 48) = false := by rw [hk]; rfl
  have f51 : ((H.tf.toNat : Int) == 51) = true := by rw [hk]; rfl
  have ht : H.tf = 51 := (tf_nat H.tf 51 (by omega)).2 hk
  have hns : Asd (noSlashTf H.tf = true ∧ ownTf H.tf = false ∧ swSt H st = st) := ⟨by rw [ht]; rfl, by rw [ht]; rfl, by unfold swSt; rw [ht]; rfl⟩
  have hn3 : Asd ((decide (H.tf = 103)) = false) := ⟨by rw [ht]; rfl⟩
  clear hk ht
  by_cases hs : endsSlash H.name = true
  · have hb : Asd (badSw H = true) := ⟨by unfold badSw; rw [hns.out.1, hs]; rfl⟩
    go_wp2_with (go_at_call 33; refine (slash_any H.name _ hnm.out).mono ?_; rintro e w1 ⟨rfl, rfl⟩)
    rw [← hQ.out]
    have hrf := fun o => hA.refuse o
    refine bodyPost_ret (res35 (N := N) _ _ rfl rfl rfl (hrf _).1 (hrf _).2.1) rfl ?_
    exact hbd.out hb.out _ _ ⟨_, rfl, (hrf _).2.2⟩
  · replace hs : endsSlash H.name = false := by simpa using hs
    have hb : Asd (badSw H = false) := ⟨by unfold badSw; rw [hns.out.1, hs, hns.out.2.1, hn3.out]; rfl⟩
    go_wp2_with (go_at_call 33; refine (slash_any H.name _ hnm.out).mono ?_; rintro e w1 ⟨rfl, rfl⟩)
    rw [← hQ.out]
    apply hnx.out hb.out ⟨#[]⟩ _ (by rw [hns.out.2.2]; exact hA)
set_option maxRecDepth 100000 in
set_option maxHeartbeats 8000000 in
theorem sw_52 (G : GlP) (B : Nat) (H : Hd) (R : DataW Unit) (rn N n : Nat) (st : AfS) (w0 w : World) (hA : Af G B H R rn N n st w0 w) (ok : Asd H.Ok) (hxa : H.xat = .map none) (Post : Ending → World → Prop) (hk : H.tf.toNat = 52)
    (hbad : badSw H = true → ∀ e w', AfBad N w0 e w' → Post e w')
    (hnext : badSw H = false → Nx27 G B H R rn N n (swSt H st) w0 Post) :
    Fr35 26 N ⟨#[]⟩ Post w := by
  unfold Fr35
  intros
  rw [code35_26]
  conv => arg 2; arg 1; whnf
  have hnx := Asd.mk hnext
  have hbd := Asd.mk hbad
  clear hnext hbad
  obtain ⟨Q', hQ⟩ : ∃ Q', Asd (bodyPost Tryz.prog Tryz.f35 Post = Q') := ⟨_, ⟨rfl⟩⟩
  rw [hQ.out]
  have ct := hA.hd (j := 0) (v := .int .u8 H.tf.toNat) rfl
  have cn := hA.hd (j := 1) (v := .string H.name) rfl
  have cf := hA.cf
  have gf := hA.fz.1
  have cx := hA.cx
  have ef : N + 1 < w.heap.size := by have := hA.lt; omega
  have ex : N + 2 < w.heap.size := by have := hA.lt; omega
  have gx : w.frozen? ⟨N + 2, 0, none⟩ = false := frozen_blk (C := [_]) hA.x
  have hnm : Asd (H.name.size ≤ 1073741824) := ⟨ok.out.name⟩
  have f48 : ((H.tf.toNat : Int) == 48) = false := by rw [hk]; rfl
  have f51 : ((H.tf.toNat : Int) == 51) = false := by rw [hk]; rfl
  have f52 : ((H.tf.toNat : Int) == 52) = true := by rw [hk]; rfl
  have ht : H.tf = 52 := (tf_nat H.tf 52 (by omega)).2 hk
  have hns : Asd (noSlashTf H.tf = true ∧ ownTf H.tf = false ∧ swSt H st = st) := ⟨by rw [ht]; rfl, by rw [ht]; rfl, by unfold swSt; rw [ht]; rfl⟩
  have hn3 : Asd ((decide (H.tf = 103)) = false) := ⟨by rw [ht]; rfl⟩
  clear hk ht
  by_cases hs : endsSlash H.name = true
  · have hb : Asd (badSw H = true) := ⟨by unfold badSw; rw [hns.out.1, hs]; rfl⟩
    go_wp2_with (go_at_call 33; refine (slash_any H.name _ hnm.out).mono ?_; rintro e w1 ⟨rfl, rfl⟩)
    rw [← hQ.out]
    have hrf := fun o => hA.refuse o
    refine bodyPost_ret (res35 (N := N) _ _ rfl rfl rfl (hrf _).1 (hrf _).2.1) rfl ?_
    exact hbd.out hb.out _ _ ⟨_, rfl, (hrf _).2.2⟩
  · replace hs : endsSlash H.name = false := by simpa using hs
    have hb : Asd (badSw H = false) := ⟨by unfold badSw; rw [hns.out.1, hs, hns.out.2.1, hn3.out]; rfl⟩
    go_wp2_with (go_at_call 33; refine (slash_any H.name _ hnm.out).mono ?_; rintro e w1 ⟨rfl, rfl⟩)
    rw [← hQ.out]
    apply hnx.out hb.out ⟨#[]⟩ _ (by rw [hns.out.2.2]; exact hA)
set_option maxRecDepth 100000 in
set_option maxHeartbeats 8000000 in
theorem sw_54 (G : GlP) (B : Nat) (H : Hd) (R : DataW Unit) (rn N n : Nat) (st : AfS) (w0 w : World) (hA : Af G B H R rn N n st w0 w) (ok : Asd H.Ok) (hxa : H.xat = .map none) (Post : Ending → World → Prop) (hk : H.tf.toNat = 54)
    (hbad : badSw H = true → ∀ e w', AfBad N w0 e w' → Post e w')
    (hnext : badSw H = false → Nx27 G B H R rn N n (swSt H st) w0 Post) :
    Fr35 26 N ⟨#[]⟩ Post w := by
  unfold Fr35
  intros
  rw [code35_26]
  conv => arg 2; arg 1; whnf
  have hnx := Asd.mk hnext
  have hbd := Asd.mk hbad
  clear hnext hbad
  obtain ⟨Q', hQ⟩ : ∃ Q', Asd (bodyPost Tryz.prog Tryz.f35 Post = Q') := ⟨_, ⟨rfl⟩⟩
  rw [hQ.out]
  have ct := hA.hd (j := 0) (v := .int .u8 H.tf.toNat) rfl
  have cn := hA.hd (j := 1) (v := .string H.name) rfl
  have cf := hA.cf
  have gf := hA.fz.1
  have cx := hA.cx
  have ef : N + 1 < w.heap.size := by have := hA.lt; omega
  have ex : N + 2 < w.heap.size := by have := hA.lt; omega
  have gx : w.frozen? ⟨N + 2, 0, none⟩ = false := frozen_blk (C := [_]) hA.x
  have hnm : Asd (H.name.size ≤ 1073741824) := ⟨ok.out.name⟩
  have f48 : ((H.tf.toNat : Int) == 48) = false := by rw [hk]; rfl
  have f51 : ((H.tf.toNat : Int) == 51) = false := by rw [hk]; rfl
  have f52 : ((H.tf.toNat : Int) == 52) = false := by rw [hk]; rfl
  have f54 : ((H.tf.toNat : Int) == 54) = true := by rw [hk]; rfl
  have ht : H.tf = 54 := (tf_nat H.tf 54 (by omega)).2 hk
  have hns : Asd (noSlashTf H.tf = true ∧ ownTf H.tf = false ∧ swSt H st = st) := ⟨by rw [ht]; rfl, by rw [ht]; rfl, by unfold swSt; rw [ht]; rfl⟩
  have hn3 : Asd ((decide (H.tf = 103)) = false) := ⟨by rw [ht]; rfl⟩
  clear hk ht
  by_cases hs : endsSlash H.name = true
  · have hb : Asd (badSw H = true) := ⟨by unfold badSw; rw [hns.out.1, hs]; rfl⟩
    go_wp2_with (go_at_call 33; refine (slash_any H.name _ hnm.out).mono ?_; rintro e w1 ⟨rfl, rfl⟩)
    rw [← hQ.out]
    have hrf := fun o => hA.refuse o
    refine bodyPost_ret (res35 (N := N) _ _ rfl rfl rfl (hrf _).1 (hrf _).2.1) rfl ?_
    exact hbd.out hb.out _ _ ⟨_, rfl, (hrf _).2.2⟩
  · replace hs : endsSlash H.name = false := by simpa using hs
    have hb : Asd (badSw H = false) := ⟨by unfold badSw; rw [hns.out.1, hs, hns.out.2.1, hn3.out]; rfl⟩
    go_wp2_with (go_at_call 33; refine (slash_any H.name _ hnm.out).mono ?_; rintro e w1 ⟨rfl, rfl⟩)
    rw [← hQ.out]
    apply hnx.out hb.out ⟨#[]⟩ _ (by rw [hns.out.2.2]; exact hA)
set_option maxRecDepth 100000 in
set_option maxHeartbeats 8000000 in
theorem sw_83 (G : GlP) (B : Nat) (H : Hd) (R : DataW Unit) (rn N n : Nat) (st : AfS) (w0 w : World) (hA : Af G B H R rn N n st w0 w) (ok : Asd H.Ok) (hxa : H.xat = .map none) (Post : Ending → World → Prop) (hk : H.tf.toNat = 83)
    (hbad : badSw H = true → ∀ e w', AfBad N w0 e w' → Post e w')
    (hnext : badSw H = false → Nx27 G B H R rn N n (swSt H st) w0 Post) :
    Fr35 26 N ⟨#[]⟩ Post w := by
  unfold Fr35
  intros
  rw [code35_26]
  conv => arg 2; arg 1; whnf
  have hnx := Asd.mk hnext
  have hbd := Asd.mk hbad
  clear hnext hbad
  obtain ⟨Q', hQ⟩ : ∃ Q', Asd (bodyPost Tryz.prog Tryz.f35 Post = Q') := ⟨_, ⟨rfl⟩⟩
  rw [hQ.out]
  have ct := hA.hd (j := 0) (v := .int .u8 H.tf.toNat) rfl
  have cn := hA.hd (j := 1) (v := .string H.name) rfl
  have cf := hA.cf
  have gf := hA.fz.1
  have cx := hA.cx
  have ef : N + 1 < w.heap.size := by have := hA.lt; omega
  have ex : N + 2 < w.heap.size := by have := hA.lt; omega
  have gx : w.frozen? ⟨N + 2, 0, none⟩ = false := frozen_blk (C := [_]) hA.x
  have hnm : Asd (H.name.size ≤ 1073741824) := ⟨ok.out.name⟩
  have f48 : ((H.tf.toNat : Int) == 48) = false := by rw [hk]; rfl
  have f51 : ((H.tf.toNat : Int) == 51) = false := by rw [hk]; rfl
  have f52 : ((H.tf.toNat : Int) == 52) = false := by rw [hk]; rfl
  have f54 : ((H.tf.toNat : Int) == 54) = false := by rw [hk]; rfl
  have f83 : ((H.tf.toNat : Int) == 83) = true := by rw [hk]; rfl
  have ht : H.tf = 83 := (tf_nat H.tf 83 (by omega)).2 hk
  have hns : Asd (noSlashTf H.tf = true ∧ ownTf H.tf = false ∧ swSt H st = st) := ⟨by rw [ht]; rfl, by rw [ht]; rfl, by unfold swSt; rw [ht]; rfl⟩
  have hn3 : Asd ((decide (H.tf = 103)) = false) := ⟨by rw [ht]; rfl⟩
  clear hk ht
  by_cases hs : endsSlash H.name = true
  · have hb : Asd (badSw H = true) := ⟨by unfold badSw; rw [hns.out.1, hs]; rfl⟩
    go_wp2_with (go_at_call 33; refine (slash_any H.name _ hnm.out).mono ?_; rintro e w1 ⟨rfl, rfl⟩)
    rw [← hQ.out]
    have hrf := fun o => hA.refuse o
    refine bodyPost_ret (res35 (N := N) _ _ rfl rfl rfl (hrf _).1 (hrf _).2.1) rfl ?_
    exact hbd.out hb.out _ _ ⟨_, rfl, (hrf _).2.2⟩
  · replace hs : endsSlash H.name = false := by simpa using hs
    have hb : Asd (badSw H = false) := ⟨by unfold badSw; rw [hns.out.1, hs, hns.out.2.1, hn3.out]; rfl⟩
    go_wp2_with (go_at_call 33; refine (slash_any H.name _ hnm.out).mono ?_; rintro e w1 ⟨rfl, rfl⟩)
    rw [← hQ.out]
    apply hnx.out hb.out ⟨#[]⟩ _ (by rw [hns.out.2.2]; exact hA)
set_option maxRecDepth 100000 in
set_option maxHeartbeats 8000000 in
theorem sw_120 (G : GlP) (B : Nat) (H : Hd) (R : DataW Unit) (rn N n : Nat) (st : AfS) (w0 w : World) (hA : Af G B H R rn N n st w0 w) (ok : Asd H.Ok) (hxa : H.xat = .map none) (Post : Ending → World → Prop) (hk : H.tf.toNat = 120)
    (hbad : badSw H = true → ∀ e w', AfBad N w0 e w' → Post e w')
    (hnext : badSw H = false → Nx27 G B H R rn N n (swSt H st) w0 Post) :
    Fr35 26 N ⟨#[]⟩ Post w := by
  unfold Fr35
  intros
  rw [code35_26]
  conv => arg 2; arg 1; whnf
  have hnx := Asd.mk hnext
  have hbd := Asd.mk hbad
  clear hnext hbad
  obtain ⟨Q', hQ⟩ : ∃ Q', Asd (bodyPost Tryz.prog Tryz.f35 Post = Q') := ⟨_, ⟨rfl⟩⟩
  rw [hQ.out]
  have ct := hA.hd (j := 0) (v := .int .u8 H.tf.toNat) rfl
  have cn := hA.hd (j := 1) (v := .string H.name) rfl
  have cf := hA.cf
  have gf := hA.fz.1
  have cx := hA.cx
  have ef : N + 1 < w.heap.size := by have := hA.lt; omega
  have ex : N + 2 < w.heap.size := by have := hA.lt; omega
  have gx : w.frozen? ⟨N + 2, 0, none⟩ = false := frozen_blk (C := [_]) hA.x
  have hnm : Asd (H.name.size ≤ 1073741824) := ⟨ok.out.name⟩
  have f48 : ((H.tf.toNat : Int) == 48) = false := by rw [hk]; rfl
  have f51 : ((H.tf.toNat : Int) == 51) = false := by rw [hk]; rfl
  have f52 : ((H.tf.toNat : Int) == 52) = false := by rw [hk]; rfl
  have f54 : ((H.tf.toNat : Int) == 54) = false := by rw [hk]; rfl
  have f83 : ((H.tf.toNat : Int) == 83) = false := by rw [hk]; rfl
  have f120 : ((H.tf.toNat : Int) == 120) = true := by rw [hk]; rfl
  have ht : H.tf = 120 := (tf_nat H.tf 120 (by omega)).2 hk
  have hb : Asd (badSw H = true) := ⟨by
    have h1 : ownTf H.tf = true := by rw [ht]; rfl
    unfold badSw
    rw [h1]
    simp⟩
  clear hk ht
  go_wp2_with (go_at_call 33; refine (slash_any H.name _ hnm.out).mono ?_; rintro e w1 ⟨rfl, rfl⟩)
  rw [← hQ.out]
  have hrf := fun o => hA.refuse o
  refine bodyPost_ret (res35 (N := N) _ _ rfl rfl rfl (hrf _).1 (hrf _).2.1) rfl ?_
  exact hbd.out hb.out _ _ ⟨_, rfl, (hrf _).2.2⟩
set_option maxRecDepth 100000 in
set_option maxHeartbeats 8000000 in
theorem sw_76 (G : GlP) (B : Nat) (H : Hd) (R : DataW Unit) (rn N n : Nat) (st : AfS) (w0 w : World) (hA : Af G B H R rn N n st w0 w) (ok : Asd H.Ok) (hxa : H.xat = .map none) (Post : Ending → World → Prop) (hk : H.tf.toNat = 76)
    (hbad : badSw H = true → ∀ e w', AfBad N w0 e w' → Post e w')
    (hnext : badSw H = false → Nx27 G B H R rn N n (swSt H st) w0 Post) :
    Fr35 26 N ⟨#[]⟩ Post w := by
  unfold Fr35
  intros
  rw [code35_26]
  conv => arg 2; arg 1; whnf
  have hnx := Asd.mk hnext
  have hbd := Asd.mk hbad
  clear hnext hbad
  obtain ⟨Q', hQ⟩ : ∃ Q', Asd (bodyPost Tryz.prog Tryz.f35 Post = Q') := ⟨_, ⟨rfl⟩⟩
  rw [hQ.out]
  have ct := hA.hd (j := 0) (v := .int .u8 H.tf.toNat) rfl
  have cn := hA.hd (j := 1) (v := .string H.name) rfl
  have cf := hA.cf
  have gf := hA.fz.1
  have cx := hA.cx
  have ef : N + 1 < w.heap.size := by have := hA.lt; omega
  have ex : N + 2 < w.heap.size := by have := hA.lt; omega
  have gx : w.frozen? ⟨N + 2, 0, none⟩ = false := frozen_blk (C := [_]) hA.x
  have hnm : Asd (H.name.size ≤ 1073741824) := ⟨ok.out.name⟩
  have f48 : ((H.tf.toNat : Int) == 48) = false := by rw [hk]; rfl
  have f51 : ((H.tf.toNat : Int) == 51) = false := by rw [hk]; rfl
  have f52 : ((H.tf.toNat : Int) == 52) = false := by rw [hk]; rfl
  have f54 : ((H.tf.toNat : Int) == 54) = false := by rw [hk]; rfl
  have f83 : ((H.tf.toNat : Int) == 83) = false := by rw [hk]; rfl
  have f120 : ((H.tf.toNat : Int) == 120) = false := by rw [hk]; rfl
  have f76 : ((H.tf.toNat : Int) == 76) = true := by rw [hk]; rfl
  have ht : H.tf = 76 := (tf_nat H.tf 76 (by omega)).2 hk
  have hb : Asd (badSw H = true) := ⟨by
    have h1 : ownTf H.tf = true := by rw [ht]; rfl
    unfold badSw
    rw [h1]
    simp⟩
  clear hk ht
  go_wp2_with (go_at_call 33; refine (slash_any H.name _ hnm.out).mono ?_; rintro e w1 ⟨rfl, rfl⟩)
  rw [← hQ.out]
  have hrf := fun o => hA.refuse o
  refine bodyPost_ret (res35 (N := N) _ _ rfl rfl rfl (hrf _).1 (hrf _).2.1) rfl ?_
  exact hbd.out hb.out _ _ ⟨_, rfl, (hrf _).2.2⟩
set_option maxRecDepth 100000 in
set_option maxHeartbeats 8000000 in
theorem sw_75 (G : GlP) (B : Nat) (H : Hd) (R : DataW Unit) (rn N n : Nat) (st : AfS) (w0 w : World) (hA : Af G B H R rn N n st w0 w) (ok : Asd H.Ok) (hxa : H.xat = .map none) (Post : Ending → World → Prop) (hk : H.tf.toNat = 75)
    (hbad : badSw H = true → ∀ e w', AfBad N w0 e w' → Post e w')
    (hnext : badSw H = false → Nx27 G B H R rn N n (swSt H st) w0 Post) :
    Fr35 26 N ⟨#[]⟩ Post w := by
  unfold Fr35
  intros
  rw [code35_26]
  conv => arg 2; arg 1; whnf
  have hnx := Asd.mk hnext
  have hbd := Asd.mk hbad
  clear hnext hbad
  obtain ⟨Q', hQ⟩ : ∃ Q', Asd (bodyPost Tryz.prog Tryz.f35 Post = Q') := ⟨_, ⟨rfl⟩⟩
  rw [hQ.out]
  have ct := hA.hd (j := 0) (v := .int .u8 H.tf.toNat) rfl
  have cn := hA.hd (j := 1) (v := .string H.name) rfl
  have cf := hA.cf
  have gf := hA.fz.1
  have cx := hA.cx
  have ef : N + 1 < w.heap.size := by have := hA.lt; omega
  have ex : N + 2 < w.heap.size := by have := hA.lt; omega
  have gx : w.frozen? ⟨N + 2, 0, none⟩ = false := frozen_blk (C := [_]) hA.x
  have hnm : Asd (H.name.size ≤ 1073741824) := ⟨ok.out.name⟩
  have f48 : ((H.tf.toNat : Int) == 48) = false := by rw [hk]; rfl
  have f51 : ((H.tf.toNat : Int) == 51) = false := by rw [hk]; rfl
  have f52 : ((H.tf.toNat : Int) == 52) = false := by rw [hk]; rfl
  have f54 : ((H.tf.toNat : Int) == 54) = false := by rw [hk]; rfl
  have f83 : ((H.tf.toNat : Int) == 83) = false := by rw [hk]; rfl
  have f120 : ((H.tf.toNat : Int) == 120) = false := by rw [hk]; rfl
  have f76 : ((H.tf.toNat : Int) == 76) = false := by rw [hk]; rfl
  have f75 : ((H.tf.toNat : Int) == 75) = true := by rw [hk]; rfl
  have ht : H.tf = 75 := (tf_nat H.tf 75 (by omega)).2 hk
  have hb : Asd (badSw H = true) := ⟨by
    have h1 : ownTf H.tf = true := by rw [ht]; rfl
    unfold badSw
    rw [h1]
    simp⟩
  clear hk ht
  go_wp2_with (go_at_call 33; refine (slash_any H.name _ hnm.out).mono ?_; rintro e w1 ⟨rfl, rfl⟩)
  rw [← hQ.out]
  have hrf := fun o => hA.refuse o
  refine bodyPost_ret (res35 (N := N) _ _ rfl rfl rfl (hrf _).1 (hrf _).2.1) rfl ?_
  exact hbd.out hb.out _ _ ⟨_, rfl, (hrf _).2.2⟩
set_option maxRecDepth 100000 in
set_option maxHeartbeats 8000000 in
theorem sw_else (G : GlP) (B : Nat) (H : Hd) (R : DataW Unit) (rn N n : Nat) (st : AfS) (w0 w : World) (hA : Af G B H R rn N n st w0 w) (ok : Asd H.Ok) (hxa : H.xat = .map none) (Post : Ending → World → Prop) (hk : H.tf.toNat ≠ 48 ∧ H.tf.toNat ≠ 51 ∧ H.tf.toNat ≠ 52 ∧ H.tf.toNat ≠ 54 ∧ H.tf.toNat ≠ 83 ∧ H.tf.toNat ≠ 120 ∧ H.tf.toNat ≠ 76 ∧ H.tf.toNat ≠ 75 ∧ H.tf.toNat ≠ 103)
    (hbad : badSw H = true → ∀ e w', AfBad N w0 e w' → Post e w')
    (hnext : badSw H = false → Nx27 G B H R rn N n (swSt H st) w0 Post) :
    Fr35 26 N ⟨#[]⟩ Post w := by
  unfold Fr35
  intros
  rw [code35_26]
  conv => arg 2; arg 1; whnf
  have hnx := Asd.mk hnext
  have hbd := Asd.mk hbad
  clear hnext hbad
  obtain ⟨Q', hQ⟩ : ∃ Q', Asd (bodyPost Tryz.prog Tryz.f35 Post = Q') := ⟨_, ⟨rfl⟩⟩
  rw [hQ.out]
  have ct := hA.hd (j := 0) (v := .int .u8 H.tf.toNat) rfl
  have cn := hA.hd (j := 1) (v := .string H.name) rfl
  have cf := hA.cf
  have gf := hA.fz.1
  have cx := hA.cx
  have ef : N + 1 < w.heap.size := by have := hA.lt; omega
  have ex : N + 2 < w.heap.size := by have := hA.lt; omega
  have gx : w.frozen? ⟨N + 2, 0, none⟩ = false := frozen_blk (C := [_]) hA.x
  have hnm : Asd (H.name.size ≤ 1073741824) := ⟨ok.out.name⟩
  have f48 : ((H.tf.toNat : Int) == 48) = false := by rw [beq_eq_false_iff_ne]; omega
  have f51 : ((H.tf.toNat : Int) == 51) = false := by rw [beq_eq_false_iff_ne]; omega
  have f52 : ((H.tf.toNat : Int) == 52) = false := by rw [beq_eq_false_iff_ne]; omega
  have f54 : ((H.tf.toNat : Int) == 54) = false := by rw [beq_eq_false_iff_ne]; omega
  have f83 : ((H.tf.toNat : Int) == 83) = false := by rw [beq_eq_false_iff_ne]; omega
  have f120 : ((H.tf.toNat : Int) == 120) = false := by rw [beq_eq_false_iff_ne]; omega
  have f76 : ((H.tf.toNat : Int) == 76) = false := by rw [beq_eq_false_iff_ne]; omega
  have f75 : ((H.tf.toNat : Int) == 75) = false := by rw [beq_eq_false_iff_ne]; omega
  have f103 : ((H.tf.toNat : Int) == 103) = false := by rw [beq_eq_false_iff_ne]; omega
  have hne : ∀ k : Nat, k < 256 → H.tf.toNat ≠ k → decide (H.tf = UInt8.ofNat k) = false := by
    intro k hk2 h
    rw [decide_eq_false_iff_not]
    exact fun e => h ((tf_nat H.tf k hk2).1 e)
  have d103 : decide (H.tf = 103) = false := hne 103 (by omega) hk.2.2.2.2.2.2.2.2
  have hb : Asd (badSw H = false ∧ swSt H st = st) := ⟨by
    unfold badSw noSlashTf ownTf
    rw [show decide (H.tf = 48) = false from hne 48 (by omega) hk.1, show decide (H.tf = 51) = false from hne 51 (by omega) hk.2.1, show decide (H.tf = 52) = false from hne 52 (by omega) hk.2.2.1, show decide (H.tf = 54) = false from hne 54 (by omega) hk.2.2.2.1,
      show decide (H.tf = 83) = false from hne 83 (by omega) hk.2.2.2.2.1, show decide (H.tf = 120) = false from hne 120 (by omega) hk.2.2.2.2.2.1, show decide (H.tf = 76) = false from hne 76 (by omega) hk.2.2.2.2.2.2.1, show decide (H.tf = 75) = false from hne 75 (by omega) hk.2.2.2.2.2.2.2.1, d103]
    exact ⟨rfl, by unfold swSt; rw [if_neg (by simpa using d103)]⟩⟩
  clear hk hne d103
  go_wp2_with (go_at_call 33; refine (slash_any H.name _ hnm.out).mono ?_; rintro e w1 ⟨rfl, rfl⟩)
  rw [← hQ.out]
  apply hnx.out hb.out.1 ⟨#[]⟩ _ (by rw [hb.out.2]; exact hA)
set_option maxRecDepth 100000 in
set_option maxHeartbeats 8000000 in
theorem sw_103 (G : GlP) (B : Nat) (H : Hd) (R : DataW Unit) (rn N n : Nat) (st : AfS) (w0 w : World) (hA : Af G B H R rn N n st w0 w) (ok : Asd H.Ok) (hxa : H.xat = .map none) (Post : Ending → World → Prop) (hk : H.tf.toNat = 103)
    (hbad : badSw H = true → ∀ e w', AfBad N w0 e w' → Post e w')
    (hnext : badSw H = false → Nx27 G B H R rn N n (swSt H st) w0 Post) :
    Fr35 26 N ⟨#[]⟩ Post w := by
  unfold Fr35
  intros
  rw [code35_26]
  conv => arg 2; arg 1; whnf
  have hnx := Asd.mk hnext
  have hbd := Asd.mk hbad
  clear hnext hbad
  obtain ⟨Q', hQ⟩ : ∃ Q', Asd (bodyPost Tryz.prog Tryz.f35 Post = Q') := ⟨_, ⟨rfl⟩⟩
  rw [hQ.out]
  have ct := hA.hd (j := 0) (v := .int .u8 H.tf.toNat) rfl
  have cn := hA.hd (j := 1) (v := .string H.name) rfl
  have cf := hA.cf
  have gf := hA.fz.1
  have cx := hA.cx
  have ef : N + 1 < w.heap.size := by have := hA.lt; omega
  have ex : N + 2 < w.heap.size := by have := hA.lt; omega
  have gx : w.frozen? ⟨N + 2, 0, none⟩ = false := frozen_blk (C := [_]) hA.x
  have hnm : Asd (H.name.size ≤ 1073741824) := ⟨ok.out.name⟩
  have f48 : ((H.tf.toNat : Int) == 48) = false := by rw [hk]; rfl
  have f51 : ((H.tf.toNat : Int) == 51) = false := by rw [hk]; rfl
  have f52 : ((H.tf.toNat : Int) == 52) = false := by rw [hk]; rfl
  have f54 : ((H.tf.toNat : Int) == 54) = false := by rw [hk]; rfl
  have f83 : ((H.tf.toNat : Int) == 83) = false := by rw [hk]; rfl
  have f120 : ((H.tf.toNat : Int) == 120) = false := by rw [hk]; rfl
  have f76 : ((H.tf.toNat : Int) == 76) = false := by rw [hk]; rfl
  have f75 : ((H.tf.toNat : Int) == 75) = false := by rw [hk]; rfl
  have f103 : ((H.tf.toNat : Int) == 103) = true := by rw [hk]; rfl
  obtain ⟨mb, hmb⟩ : ∃ mb, Asd (H.recs = .map mb) := (by
    rcases hA.rc with ⟨h1, _⟩ | ⟨b, h1, _⟩
    · exact ⟨_, ⟨h1⟩⟩
    · exact ⟨_, ⟨h1⟩⟩)
  have hone : Asd ((gHd H).cells.toArray.all (·.oneCell') = true) := ⟨by unfold gHd Hd.cells; simp [hxa, hmb.out, Value.oneCell']⟩
  replace hxa := Asd.mk hxa
  have ht : H.tf = 103 := (tf_nat H.tf 103 (by omega)).2 hk
  have hns : Asd (noSlashTf H.tf = false ∧ ownTf H.tf = false ∧ swSt H st = ⟨false, st.p, false, st.pref, st.D⟩) := ⟨by rw [ht]; rfl, by rw [ht]; rfl, by unfold swSt; rw [ht]; rfl⟩
  have hn3 : Asd ((decide (H.tf = 103)) = true) := ⟨by rw [ht]; rfl⟩
  have hEq := fun W => hdrEq_any H W
  replace hEq := Asd.mk hEq
  have d14 := hA.hd (j := 17) (v := H.xat) rfl
  have d15 := hA.hd (j := 18) (v := H.recs) rfl
  have d16 := hA.hd (j := 19) (v := .int .i64 H.fmt) rfl
  clear hk ht
  by_cases hp : hdPlain H = true
  · have hb : Asd (badSw H = false) := ⟨by unfold badSw; rw [hns.out.1, hns.out.2.1, hp]; simp⟩
    go_wp2_with (first
      | (refine wpList_load_row rfl 100 (.tmp 1) rfl N rfl 100 _ _ _ ((hA.blw ((Below.refl _ _).alloc (Nat.le_refl _) _)).h) Tryz.underlying100 rfl info100 ?_)
      | (refine wpList_g H hxa.out mb hmb.out rfl (.tmp 148) (.tmp 150) (.tmp 152) (.tmp 154) (.tmp 156) rfl rfl rfl rfl rfl rfl ?_)
      | (refine wpList_store_row rfl 100 (.tmp 18) (.tmp 157) rfl w.heap.size (gHd H).cells.toArray rfl rfl 100 _ (heap_alloc_new _ _) info100 rfl hone.out ?_; rw [World.setRow_alloc_new])
      | (refine wpList_load_row rfl 100 (.tmp 18) rfl w.heap.size rfl 100 _ _ _ (heap_alloc_new _ _) Tryz.underlying100 rfl info100 ?_)
      | (go_at_call 89; refine (hEq.out _).mono ?_; rw [hp]; rintro e w1 ⟨rfl, f1⟩; have hA1 := (hA.blw ((Below.refl _ _).alloc (Nat.le_refl _) _)).blw f1; have cf1 := hA1.cf; have gf1 := hA1.fz.1; have cx1 := hA1.cx; have ef1 : N + 1 < w1.heap.size := (by have := hA1.lt; omega); have ex1 : N + 2 < w1.heap.size := (by have := hA1.lt; omega); have gx1 : w1.frozen? ⟨N + 2, 0, none⟩ = false := frozen_blk (C := [_]) hA1.x)
      | (go_at_call 90; refine (mayOnlyBe_any _ _ _ _ hA1.cf hA1.fz.1).mono ?_; rintro e w2 ⟨rfl, hw2⟩; have hA2 : Af G B H R rn N n ⟨false, st.p, false, st.pref, st.D⟩ w0 w2 := (by rw [hw2, fm_and4]; exact hA1.setF false st.p false); clear hw2))
    rw [← hQ.out]
    apply hnx.out hb.out _ _ (by rw [hns.out.2.2]; exact hA2)
  · replace hp : hdPlain H = false := by simpa using hp
    have hb : Asd (badSw H = true) := ⟨by unfold badSw; rw [hn3.out, hp]; simp⟩
    go_wp2_with (first
      | (refine wpList_load_row rfl 100 (.tmp 1) rfl N rfl 100 _ _ _ ((hA.blw ((Below.refl _ _).alloc (Nat.le_refl _) _)).h) Tryz.underlying100 rfl info100 ?_)
      | (refine wpList_g H hxa.out mb hmb.out rfl (.tmp 148) (.tmp 150) (.tmp 152) (.tmp 154) (.tmp 156) rfl rfl rfl rfl rfl rfl ?_)
      | (refine wpList_store_row rfl 100 (.tmp 18) (.tmp 157) rfl w.heap.size (gHd H).cells.toArray rfl rfl 100 _ (heap_alloc_new _ _) info100 rfl hone.out ?_; rw [World.setRow_alloc_new])
      | (refine wpList_load_row rfl 100 (.tmp 18) rfl w.heap.size rfl 100 _ _ _ (heap_alloc_new _ _) Tryz.underlying100 rfl info100 ?_)
      | (go_at_call 89; refine (hEq.out _).mono ?_; rw [hp]; rintro e w1 ⟨rfl, f1⟩; have hA1 := (hA.blw ((Below.refl _ _).alloc (Nat.le_refl _) _)).blw f1; have cf1 := hA1.cf; have gf1 := hA1.fz.1; have cx1 := hA1.cx; have ef1 : N + 1 < w1.heap.size := (by have := hA1.lt; omega); have ex1 : N + 2 < w1.heap.size := (by have := hA1.lt; omega); have gx1 : w1.frozen? ⟨N + 2, 0, none⟩ = false := frozen_blk (C := [_]) hA1.x)
      | (go_at_call 90; refine (mayOnlyBe_any _ _ _ _ hA1.cf hA1.fz.1).mono ?_; rintro e w2 ⟨rfl, hw2⟩; have hA2 : Af G B H R rn N n ⟨false, st.p, false, st.pref, st.D⟩ w0 w2 := (by rw [hw2, fm_and4]; exact hA1.setF false st.p false); clear hw2))
    rw [← hQ.out]
    have hrf := fun o => hA1.refuse o
    refine bodyPost_ret (res35 (N := N) _ _ rfl rfl rfl (hrf _).1 (hrf _).2.1) rfl ?_
    exact hbd.out hb.out _ _ ⟨_, rfl, (hrf _).2.2⟩
/-- What is owed behind the header's own records. -/
def Nx30 (G : GlP) (B : Nat) (H : Hd) (R : DataW Unit) (rn N n : Nat) (st : AfS) (w0 : World) (Post : Ending → World → Prop) : Prop :=
  ∀ (x : ByteArray) (w' : World), Af G B H R rn N n st w0 w' → Fr35 30 N x Post w'
def rest27 : Code → Code
  | .seq _ (.seq _ (.seq c _)) => c
  | c => c
def mid28 : Code → Code
  | .seq _ (.seq b _) => b
  | c => c
theorem code35_27 : code35 27 = .seq (headSeq (code35 27)) (.seq (headSeq (code35 28)) (.seq (headSeq (code35 29)) (code35 30))) := by kernel_rfl
def negSize (H : Hd) : Bool := !(hdrOnly H.tf) && decide (H.size < 0)
set_option maxRecDepth 100000 in
set_option maxHeartbeats 8000000 in
theorem n27_neg (G : GlP) (B : Nat) (H : Hd) (R : DataW Unit) (rn N n : Nat) (st : AfS) (w0 w : World) (hA : Af G B H R rn N n st w0 w) (ok : Asd H.Ok) (hxa : H.xat = .map none) (Post : Ending → World → Prop) (hneg : negSize H = true)
    (x : ByteArray) (hbad : ∀ e w', AfBad N w0 e w' → Post e w') :
    Fr35 27 N x Post w := by
  unfold Fr35
  intros
  rw [code35_27]
  conv => arg 2; arg 1; whnf
  conv => arg 2; arg 2; arg 1; whnf
  conv => arg 2; arg 2; arg 2; arg 1; whnf
  obtain ⟨Q', hQ⟩ : ∃ Q', Asd (bodyPost Tryz.prog Tryz.f35 Post = Q') := ⟨_, ⟨rfl⟩⟩
  rw [hQ.out]
  have ct := hA.hd (j := 0) (v := .int .u8 H.tf.toNat) rfl
  have cs := hA.hd (j := 3) (v := .int .i64 H.size) rfl
  have cxa : w.cell? ⟨N, 17, none⟩ = some (.map none) := by rw [hA.hd (j := 17) (v := H.xat) rfl, hxa]
  replace hxa := Asd.mk hxa
  have cr := hA.hd (j := 18) (v := H.recs) rfl
  have cf := hA.cf
  have gf := hA.fz.1
  have cx := hA.cx
  have ef : N + 1 < w.heap.size := by have := hA.lt; omega
  have ex : N + 2 < w.heap.size := by have := hA.lt; omega
  have gx : w.frozen? ⟨N + 2, 0, none⟩ = false := frozen_blk (C := [_]) hA.x
  have hbd := Asd.mk hbad
  clear hbad
  have h1 : hdrOnly H.tf = false := by cases h : hdrOnly H.tf <;> simp [negSize, h] at hneg ⊢
  have h2 : H.size < 0 := by simpa [negSize, h1] using hneg
  clear hneg
  go_wp2_with (go_at_call 91; refine (isHeaderOnlyType_any H.tf _).mono ?_; rw [h1]; rintro e w1 ⟨rfl, rfl⟩)
  rw [← hQ.out]
  have hrf := fun o => hA.refuse o
  refine bodyPost_ret (res35 (N := N) _ _ rfl rfl rfl (hrf _).1 (hrf _).2.1) rfl ?_
  exact hbd.out _ _ ⟨_, rfl, (hrf _).2.2⟩
set_option maxRecDepth 100000 in
set_option maxHeartbeats 8000000 in
theorem n27_noneA (G : GlP) (B : Nat) (H : Hd) (R : DataW Unit) (rn N n : Nat) (st : AfS) (w0 w : World) (hA : Af G B H R rn N n st w0 w) (ok : Asd H.Ok) (hxa : H.xat = .map none) (Post : Ending → World → Prop) (hh : hdrOnly H.tf = true) (hr : H.recs = .map none ∨ ∃ b, H.recs = .map (some b) ∧ SM w b rn R) (hz : Maps.size R = 0)
    (x : ByteArray) (hnext : Nx30 G B H R rn N n st w0 Post) :
    Fr35 27 N x Post w := by
  unfold Fr35
  intros
  rw [code35_27]
  conv => arg 2; arg 1; whnf
  conv => arg 2; arg 2; arg 1; whnf
  conv => arg 2; arg 2; arg 2; arg 1; whnf
  obtain ⟨Q', hQ⟩ : ∃ Q', Asd (bodyPost Tryz.prog Tryz.f35 Post = Q') := ⟨_, ⟨rfl⟩⟩
  rw [hQ.out]
  have ct := hA.hd (j := 0) (v := .int .u8 H.tf.toNat) rfl
  have cs := hA.hd (j := 3) (v := .int .i64 H.size) rfl
  have cxa : w.cell? ⟨N, 17, none⟩ = some (.map none) := by rw [hA.hd (j := 17) (v := H.xat) rfl, hxa]
  replace hxa := Asd.mk hxa
  have cr := hA.hd (j := 18) (v := H.recs) rfl
  have cf := hA.cf
  have gf := hA.fz.1
  have cx := hA.cx
  have ef : N + 1 < w.heap.size := by have := hA.lt; omega
  have ex : N + 2 < w.heap.size := by have := hA.lt; omega
  have gx : w.frozen? ⟨N + 2, 0, none⟩ = false := frozen_blk (C := [_]) hA.x
  have hnx := Asd.mk hnext
  clear hnext
  replace hz := Asd.mk hz
  rcases hr with hr | ⟨b, hr, hm⟩
  all_goals rw [hr] at cr
  all_goals replace hr := Asd.mk hr
  · go_wp2_with (go_at_call 91; refine (isHeaderOnlyType_any H.tf _).mono ?_; rw [hh]; rintro e w1 ⟨rfl, rfl⟩)
    rw [← hQ.out]
    apply hnx.out _ _ hA
  · have hl := World.ownsMap.len hm Tryz.underlying97
    rw [hz.out] at hl
    go_wp2_with (go_at_call 91; refine (isHeaderOnlyType_any H.tf _).mono ?_; rw [hh]; rintro e w1 ⟨rfl, rfl⟩)
    rw [← hQ.out]
    apply hnx.out _ _ hA
set_option maxRecDepth 100000 in
set_option maxHeartbeats 8000000 in
theorem n27_noneB (G : GlP) (B : Nat) (H : Hd) (R : DataW Unit) (rn N n : Nat) (st : AfS) (w0 w : World) (hA : Af G B H R rn N n st w0 w) (ok : Asd H.Ok) (hxa : H.xat = .map none) (Post : Ending → World → Prop) (hh : hdrOnly H.tf = false) (h2 : 0 ≤ H.size) (hr : H.recs = .map none ∨ ∃ b, H.recs = .map (some b) ∧ SM w b rn R) (hz : Maps.size R = 0)
    (x : ByteArray) (hnext : Nx30 G B H R rn N n st w0 Post) :
    Fr35 27 N x Post w := by
  unfold Fr35
  intros
  rw [code35_27]
  conv => arg 2; arg 1; whnf
  conv => arg 2; arg 2; arg 1; whnf
  conv => arg 2; arg 2; arg 2; arg 1; whnf
  obtain ⟨Q', hQ⟩ : ∃ Q', Asd (bodyPost Tryz.prog Tryz.f35 Post = Q') := ⟨_, ⟨rfl⟩⟩
  rw [hQ.out]
  have ct := hA.hd (j := 0) (v := .int .u8 H.tf.toNat) rfl
  have cs := hA.hd (j := 3) (v := .int .i64 H.size) rfl
  have cxa : w.cell? ⟨N, 17, none⟩ = some (.map none) := by rw [hA.hd (j := 17) (v := H.xat) rfl, hxa]
  replace hxa := Asd.mk hxa
  have cr := hA.hd (j := 18) (v := H.recs) rfl
  have cf := hA.cf
  have gf := hA.fz.1
  have cx := hA.cx
  have ef : N + 1 < w.heap.size := by have := hA.lt; omega
  have ex : N + 2 < w.heap.size := by have := hA.lt; omega
  have gx : w.frozen? ⟨N + 2, 0, none⟩ = false := frozen_blk (C := [_]) hA.x
  have hnx := Asd.mk hnext
  clear hnext
  replace hz := Asd.mk hz
  rcases hr with hr | ⟨b, hr, hm⟩
  all_goals rw [hr] at cr
  all_goals replace hr := Asd.mk hr
  · go_wp2_with (go_at_call 91; refine (isHeaderOnlyType_any H.tf _).mono ?_; rw [hh]; rintro e w1 ⟨rfl, rfl⟩)
    rw [← hQ.out]
    apply hnx.out _ _ hA
  · have hl := World.ownsMap.len hm Tryz.underlying97
    rw [hz.out] at hl
    go_wp2_with (go_at_call 91; refine (isHeaderOnlyType_any H.tf _).mono ?_; rw [hh]; rintro e w1 ⟨rfl, rfl⟩)
    rw [← hQ.out]
    apply hnx.out _ _ hA
section
variable {G : GlP} {B : Nat} {H : Hd} {R : DataW Unit} {rn N n : Nat} {st : AfS} {w0 w w' : World}
/-- Another block turns, above the variables. -/
theorem Af.kpr (h : Af G B H R rn N n st w0 w) {r : Nat} (hk : Kp (fun k => k = r) w w') (hr : N + 7 < r) : Af G B H R rn N n st w0 w' := by
  obtain ⟨x4, h4⟩ := h.s4
  obtain ⟨x5, h5⟩ := h.s5
  obtain ⟨x6, h6⟩ := h.s6
  obtain ⟨k1, k2, k3⟩ := h.keep hk (by omega)
  exact ⟨hk.get h.h (by omega), hk.get h.f (by omega), hk.get h.x (by omega), h.m.kp hk (by omega), ⟨x4, hk.get h4 (by omega)⟩, ⟨x5, hk.get h5 (by omega)⟩, ⟨x6, hk.get h6 (by omega)⟩, hk.get h.pr (by omega), h.hN, h.hB, k1, k2, k3⟩
end
theorem pre_any (s : ByteArray) (w : World) : Calls Tryz.prog 92 #[.string s, .string ⟨#[71, 78, 85, 46, 115, 112, 97, 114, 115, 101, 46]⟩] w fun e w' => e = .returned (.bool (Lib.hasPrefix s.data.toList gnuSp)) ∧ w = w' := by
  refine (Tryz.strings_HasPrefix s ⟨#[71, 78, 85, 46, 115, 112, 97, 114, 115, 101, 46]⟩ w).mono ?_
  rintro e w' ⟨rfl, rfl⟩
  exact ⟨rfl, rfl⟩
theorem size_of_small {D : DataW Unit} (h : Small D) {x c : ByteArray} (hx : getS D x.data.toList = some c.data.toList) : x.size ≤ 1073741824 ∧ c.size ≤ 1073741824 := by
  have := h _ _ hx
  simpa using this
set_option maxRecDepth 100000 in
set_option maxHeartbeats 8000000 in
theorem n27_loopA (G : GlP) (B : Nat) (H : Hd) (R : DataW Unit) (rn N n : Nat) (st : AfS) (w0 w : World) (hA : Af G B H R rn N n st w0 w) (ok : Asd H.Ok) (hxa : H.xat = .map none) (Post : Ending → World → Prop) (hh : hdrOnly H.tf = true) (b : Nat) (hr : H.recs = .map (some b)) (hbN : b < N) (hm : SM w b rn R) (hz : Maps.size R ≠ 0) (hRs : Small R) (hD1 : Small st.D) (hnr : n + rn < 1073741824)
    (x : ByteArray) (hnext : ∀ D n', Merged st.D R (keepRec H.tf) D → n' ≤ n + rn → Nx30 G B H R rn N n' ⟨false, st.p, false, st.pref, D⟩ w0 Post) :
    Fr35 27 N x Post w := by
  unfold Fr35
  intros
  rw [code35_27]
  conv => arg 2; arg 1; whnf
  conv => arg 2; arg 2; arg 1; whnf
  conv => arg 2; arg 2; arg 2; arg 1; whnf
  obtain ⟨Q', hQ⟩ : ∃ Q', Asd (bodyPost Tryz.prog Tryz.f35 Post = Q') := ⟨_, ⟨rfl⟩⟩
  rw [hQ.out]
  have ct := hA.hd (j := 0) (v := .int .u8 H.tf.toNat) rfl
  have cs := hA.hd (j := 3) (v := .int .i64 H.size) rfl
  have cxa : w.cell? ⟨N, 17, none⟩ = some (.map none) := by rw [hA.hd (j := 17) (v := H.xat) rfl, hxa]
  replace hxa := Asd.mk hxa
  have cr := hA.hd (j := 18) (v := H.recs) rfl
  have cf := hA.cf
  have gf := hA.fz.1
  have cx := hA.cx
  have ef : N + 1 < w.heap.size := by have := hA.lt; omega
  have ex : N + 2 < w.heap.size := by have := hA.lt; omega
  have gx : w.frozen? ⟨N + 2, 0, none⟩ = false := frozen_blk (C := [_]) hA.x
  have hnx := Asd.mk hnext
  clear hnext
  have hrn : Maps.size R ≤ rn := World.ownsMap.size_le hm
  rw [hr] at cr
  replace hr := Asd.mk hr
  have hl := World.ownsMap.len hm Tryz.underlying97
  have hz1 : (0 : Int) < Maps.size R := by omega
  have hz2 : decide (0 < Maps.size R) = true := by simp; omega
  go_wp2_with (first
    | (go_at_call 91; refine (isHeaderOnlyType_any H.tf _).mono ?_; rw [hh]; rintro e w1 ⟨rfl, rfl⟩)
    | (at_range; refine wpList_range_ss _ rfl _ rfl b rn R rfl hm ?_; intro w1 hrg1 hb1))
  go_frame
  clear hl
  have hA1 := hA.blw hb1
  have hr7 : N + 7 < w.heap.size := hA.lt
  obtain ⟨r, hrr⟩ : ∃ r, Asd (w.heap.size = r) := ⟨_, ⟨rfl⟩⟩
  rw [hrr.out] at hrg1 hr7
  rw [hrr.out]
  go_loopw [21] (fun _ wr => ∃ (left : Lit → Bool) (cnt : Nat) (Dl : DataW Unit) (nl : Nat), SR wr b r rn R left cnt ∧ Af G B H R rn N nl ⟨st.u, st.p, st.g, st.pref, Dl⟩ w0 wr ∧ nl + cnt ≤ n + Maps.size R ∧ MergeInv st.D R (keepRec H.tf) left Dl)
    (fun _ wr => wr.rangeLeft b r)
  case atStart => exact ⟨_, _, st.D, n, hrg1, hA1, Nat.le_refl _, merge_start _ _ _⟩
  case round =>
    obtain ⟨left, cnt, Dl, nl, hrg, hAl, hnl, hmg⟩ := hrel
    go_wp2_with (at_next; refine wpList_next_ss _ rfl _ rfl b r rn R left cnt rfl hrg ?_ ?_)
    · intro hc0 hl0
      have hmd : Asd (Merged st.D R (keepRec H.tf) Dl) := ⟨by
        intro k
        rw [hmg k]
        simp only [hl0]
        rfl⟩
      have cf1 := hAl.cf
      have gf1 := hAl.fz.1
      go_wp2_with (go_at_call 90; refine (mayOnlyBe_any _ _ _ _ hAl.cf hAl.fz.1).mono ?_; rintro e w2 ⟨rfl, hw2⟩; have hA2 : Af G B H R rn N nl ⟨false, st.p, false, st.pref, Dl⟩ w0 w2 := (by rw [hw2, fm_and4]; exact hAl.setF false st.p false); clear hw2)
      rw [← hQ.out]
      apply hnx.out Dl nl hmd.out (by omega) _ _ hA2
    · intro x1 c1 w2 cnt2 hx hc hlx hgx hrg2 hlt hg2 hs2 hen
      have hA2 := hAl.kpr (Kp.of_grown hg2) hr7
      obtain ⟨hxs, hcs⟩ := size_of_small hRs hgx
      have cx2 := hA2.cx
      have cb2 := hA2.gl.c7
      have ct2 := hA2.hd (j := 0) (v := .int .u8 H.tf.toNat) rfl
      have hth := merge_there hmg x1.data.toList hlx
      have hgx := Asd.mk hgx
      have hmg := Asd.mk hmg
      rcases (Bool.eq_false_or_eq_true (Maps.has Dl (sK x1))) with hh1 | hh1
      · have hsk : Asd ((getS st.D x1.data.toList).isSome = true) := ⟨by rw [← hth, getS_some hh1]; rfl⟩
        go_wp2_with (first
      | (at_lookup; refine wpList_lookup_sm _ rfl _ _ rfl (N + 3) nl _ hA2.m rfl x1 rfl (by unfold maxLen; omega) ?_; intro y1 hy1)
      | (at_lookup; refine wpList_basic _ hA2.gl rfl _ _ rfl rfl x1 rfl (by unfold maxLen; omega) ?_)
      | (go_at_call 92; refine (pre_any x1 _).mono ?_; rw [hpf.out]; rintro e w9 ⟨rfl, rfl⟩)
      | (at_mapUpdate; refine wpList_mapUpdate_own _ rfl _ _ _ 97 rfl 9 9 law9 Tryz.underlying97 _ (N + 3) nl _ rfl hA2.m (by unfold maxLen; omega) _ _ _ rfl rfl (key9 _ (by unfold maxLen; omega)) _ [] (plain9 _ (by unfold maxLen; omega)) ?_; intro w6 hm6 hg6; go_frame))
        go_roundw
        case rel => first | exact ⟨_, cnt2, Dl, nl, hrg2, hA2, by omega, merge_skip hmg.out _ (.inl hsk.out)⟩ | ((repeat apply Exists.intro); exact ⟨⟨_, cnt2, Dl, nl, hrg2, hA2, by omega, merge_skip hmg.out _ (.inl hsk.out)⟩, rfl⟩)
        case measure => rw [hrg2.left_eq, hrg.left_eq]; exact hlt
      have hno : Asd (getS st.D x1.data.toList = none) := ⟨by rw [← hth, getS_none hh1]⟩
      by_cases h103 : H.tf = 103
      · have f103 : ((H.tf.toNat : Int) == 103) = true := by rw [h103]; rfl
        have hkp : Asd (keepRec H.tf x1.data.toList = true) := ⟨by unfold keepRec; rw [h103]; rfl⟩
        clear h103
        go_wp2_with (first
      | (at_lookup; refine wpList_lookup_sm _ rfl _ _ rfl (N + 3) nl _ hA2.m rfl x1 rfl (by unfold maxLen; omega) ?_; intro y1 hy1)
      | (at_lookup; refine wpList_basic _ hA2.gl rfl _ _ rfl rfl x1 rfl (by unfold maxLen; omega) ?_)
      | (go_at_call 92; refine (pre_any x1 _).mono ?_; rw [hpf.out]; rintro e w9 ⟨rfl, rfl⟩)
      | (at_mapUpdate; refine wpList_mapUpdate_own _ rfl _ _ _ 97 rfl 9 9 law9 Tryz.underlying97 _ (N + 3) nl _ rfl hA2.m (by unfold maxLen; omega) _ _ _ rfl rfl (key9 _ (by unfold maxLen; omega)) _ [] (plain9 _ (by unfold maxLen; omega)) ?_; intro w6 hm6 hg6; go_frame))
        have hrg6 := hrg2.kp (Kp.of_grown hg6) (by omega) (by omega)
        go_roundw
        case rel => first | exact ⟨_, cnt2, _, nl + 1, hrg6, hA2.put hm6 hg6, by omega, merge_put hmg.out hA2.m.isMap _ _ hno.out hkp.out hgx.out⟩ | ((repeat apply Exists.intro); exact ⟨⟨_, cnt2, _, nl + 1, hrg6, hA2.put hm6 hg6, by omega, merge_put hmg.out hA2.m.isMap _ _ hno.out hkp.out hgx.out⟩, rfl⟩)
        case measure => rw [hrg6.left_eq, hrg.left_eq]; exact hlt
      have f103 : ((H.tf.toNat : Int) == 103) = false := by
        rw [beq_eq_false_iff_ne]
        intro e
        exact h103 ((tf_nat H.tf 103 (by omega)).2 (by omega))
      have hk0 : keepRec H.tf x1.data.toList = (!(basicK x1.data.toList) && !(Lib.hasPrefix x1.data.toList gnuSp)) := by unfold keepRec; rw [decide_eq_false h103]; rfl
      clear h103
      rcases (Bool.eq_false_or_eq_true (Maps.has basicD (sK x1))) with hbk | hbk
      · have hkp : Asd (keepRec H.tf x1.data.toList = false) := ⟨by rw [hk0, show basicK x1.data.toList = true from hbk]; rfl⟩
        clear hk0
        go_wp2_with (first
      | (at_lookup; refine wpList_lookup_sm _ rfl _ _ rfl (N + 3) nl _ hA2.m rfl x1 rfl (by unfold maxLen; omega) ?_; intro y1 hy1)
      | (at_lookup; refine wpList_basic _ hA2.gl rfl _ _ rfl rfl x1 rfl (by unfold maxLen; omega) ?_)
      | (go_at_call 92; refine (pre_any x1 _).mono ?_; rw [hpf.out]; rintro e w9 ⟨rfl, rfl⟩)
      | (at_mapUpdate; refine wpList_mapUpdate_own _ rfl _ _ _ 97 rfl 9 9 law9 Tryz.underlying97 _ (N + 3) nl _ rfl hA2.m (by unfold maxLen; omega) _ _ _ rfl rfl (key9 _ (by unfold maxLen; omega)) _ [] (plain9 _ (by unfold maxLen; omega)) ?_; intro w6 hm6 hg6; go_frame))
        go_roundw
        case rel => first | exact ⟨_, cnt2, Dl, nl, hrg2, hA2, by omega, merge_skip hmg.out _ (.inr hkp.out)⟩ | ((repeat apply Exists.intro); exact ⟨⟨_, cnt2, Dl, nl, hrg2, hA2, by omega, merge_skip hmg.out _ (.inr hkp.out)⟩, rfl⟩)
        case measure => rw [hrg2.left_eq, hrg.left_eq]; exact hlt
      rcases (Bool.eq_false_or_eq_true (Lib.hasPrefix x1.data.toList gnuSp)) with hpf | hpf
      · have hkp : Asd (keepRec H.tf x1.data.toList = false) := ⟨by rw [hk0, hpf]; simp⟩
        clear hk0
        replace hpf := Asd.mk hpf
        go_wp2_with (first
      | (at_lookup; refine wpList_lookup_sm _ rfl _ _ rfl (N + 3) nl _ hA2.m rfl x1 rfl (by unfold maxLen; omega) ?_; intro y1 hy1)
      | (at_lookup; refine wpList_basic _ hA2.gl rfl _ _ rfl rfl x1 rfl (by unfold maxLen; omega) ?_)
      | (go_at_call 92; refine (pre_any x1 _).mono ?_; rw [hpf.out]; rintro e w9 ⟨rfl, rfl⟩)
      | (at_mapUpdate; refine wpList_mapUpdate_own _ rfl _ _ _ 97 rfl 9 9 law9 Tryz.underlying97 _ (N + 3) nl _ rfl hA2.m (by unfold maxLen; omega) _ _ _ rfl rfl (key9 _ (by unfold maxLen; omega)) _ [] (plain9 _ (by unfold maxLen; omega)) ?_; intro w6 hm6 hg6; go_frame))
        go_roundw
        case rel => first | exact ⟨_, cnt2, Dl, nl, hrg2, hA2, by omega, merge_skip hmg.out _ (.inr hkp.out)⟩ | ((repeat apply Exists.intro); exact ⟨⟨_, cnt2, Dl, nl, hrg2, hA2, by omega, merge_skip hmg.out _ (.inr hkp.out)⟩, rfl⟩)
        case measure => rw [hrg2.left_eq, hrg.left_eq]; exact hlt
      · have hkp : Asd (keepRec H.tf x1.data.toList = true) := ⟨by rw [hk0, hpf, show basicK x1.data.toList = false from hbk]; rfl⟩
        clear hk0
        replace hpf := Asd.mk hpf
        go_wp2_with (first
      | (at_lookup; refine wpList_lookup_sm _ rfl _ _ rfl (N + 3) nl _ hA2.m rfl x1 rfl (by unfold maxLen; omega) ?_; intro y1 hy1)
      | (at_lookup; refine wpList_basic _ hA2.gl rfl _ _ rfl rfl x1 rfl (by unfold maxLen; omega) ?_)
      | (go_at_call 92; refine (pre_any x1 _).mono ?_; rw [hpf.out]; rintro e w9 ⟨rfl, rfl⟩)
      | (at_mapUpdate; refine wpList_mapUpdate_own _ rfl _ _ _ 97 rfl 9 9 law9 Tryz.underlying97 _ (N + 3) nl _ rfl hA2.m (by unfold maxLen; omega) _ _ _ rfl rfl (key9 _ (by unfold maxLen; omega)) _ [] (plain9 _ (by unfold maxLen; omega)) ?_; intro w6 hm6 hg6; go_frame))
        have hrg6 := hrg2.kp (Kp.of_grown hg6) (by omega) (by omega)
        go_roundw
        case rel => first | exact ⟨_, cnt2, _, nl + 1, hrg6, hA2.put hm6 hg6, by omega, merge_put hmg.out hA2.m.isMap _ _ hno.out hkp.out hgx.out⟩ | ((repeat apply Exists.intro); exact ⟨⟨_, cnt2, _, nl + 1, hrg6, hA2.put hm6 hg6, by omega, merge_put hmg.out hA2.m.isMap _ _ hno.out hkp.out hgx.out⟩, rfl⟩)
        case measure => rw [hrg6.left_eq, hrg.left_eq]; exact hlt
set_option maxRecDepth 100000 in
set_option maxHeartbeats 8000000 in
theorem n27_loopB (G : GlP) (B : Nat) (H : Hd) (R : DataW Unit) (rn N n : Nat) (st : AfS) (w0 w : World) (hA : Af G B H R rn N n st w0 w) (ok : Asd H.Ok) (hxa : H.xat = .map none) (Post : Ending → World → Prop) (hh : hdrOnly H.tf = false) (h2 : 0 ≤ H.size) (b : Nat) (hr : H.recs = .map (some b)) (hbN : b < N) (hm : SM w b rn R) (hz : Maps.size R ≠ 0) (hRs : Small R) (hD1 : Small st.D) (hnr : n + rn < 1073741824)
    (x : ByteArray) (hnext : ∀ D n', Merged st.D R (keepRec H.tf) D → n' ≤ n + rn → Nx30 G B H R rn N n' ⟨false, st.p, false, st.pref, D⟩ w0 Post) :
    Fr35 27 N x Post w := by
  unfold Fr35
  intros
  rw [code35_27]
  conv => arg 2; arg 1; whnf
  conv => arg 2; arg 2; arg 1; whnf
  conv => arg 2; arg 2; arg 2; arg 1; whnf
  obtain ⟨Q', hQ⟩ : ∃ Q', Asd (bodyPost Tryz.prog Tryz.f35 Post = Q') := ⟨_, ⟨rfl⟩⟩
  rw [hQ.out]
  have ct := hA.hd (j := 0) (v := .int .u8 H.tf.toNat) rfl
  have cs := hA.hd (j := 3) (v := .int .i64 H.size) rfl
  have cxa : w.cell? ⟨N, 17, none⟩ = some (.map none) := by rw [hA.hd (j := 17) (v := H.xat) rfl, hxa]
  replace hxa := Asd.mk hxa
  have cr := hA.hd (j := 18) (v := H.recs) rfl
  have cf := hA.cf
  have gf := hA.fz.1
  have cx := hA.cx
  have ef : N + 1 < w.heap.size := by have := hA.lt; omega
  have ex : N + 2 < w.heap.size := by have := hA.lt; omega
  have gx : w.frozen? ⟨N + 2, 0, none⟩ = false := frozen_blk (C := [_]) hA.x
  have hnx := Asd.mk hnext
  clear hnext
  have hrn : Maps.size R ≤ rn := World.ownsMap.size_le hm
  rw [hr] at cr
  replace hr := Asd.mk hr
  have hl := World.ownsMap.len hm Tryz.underlying97
  have hz1 : (0 : Int) < Maps.size R := by omega
  have hz2 : decide (0 < Maps.size R) = true := by simp; omega
  go_wp2_with (first
    | (go_at_call 91; refine (isHeaderOnlyType_any H.tf _).mono ?_; rw [hh]; rintro e w1 ⟨rfl, rfl⟩)
    | (at_range; refine wpList_range_ss _ rfl _ rfl b rn R rfl hm ?_; intro w1 hrg1 hb1))
  go_frame
  clear hl
  have hA1 := hA.blw hb1
  have hr7 : N + 7 < w.heap.size := hA.lt
  obtain ⟨r, hrr⟩ : ∃ r, Asd (w.heap.size = r) := ⟨_, ⟨rfl⟩⟩
  rw [hrr.out] at hrg1 hr7
  rw [hrr.out]
  go_loopw [21] (fun _ wr => ∃ (left : Lit → Bool) (cnt : Nat) (Dl : DataW Unit) (nl : Nat), SR wr b r rn R left cnt ∧ Af G B H R rn N nl ⟨st.u, st.p, st.g, st.pref, Dl⟩ w0 wr ∧ nl + cnt ≤ n + Maps.size R ∧ MergeInv st.D R (keepRec H.tf) left Dl)
    (fun _ wr => wr.rangeLeft b r)
  case atStart => exact ⟨_, _, st.D, n, hrg1, hA1, Nat.le_refl _, merge_start _ _ _⟩
  case round =>
    obtain ⟨left, cnt, Dl, nl, hrg, hAl, hnl, hmg⟩ := hrel
    go_wp2_with (at_next; refine wpList_next_ss _ rfl _ rfl b r rn R left cnt rfl hrg ?_ ?_)
    · intro hc0 hl0
      have hmd : Asd (Merged st.D R (keepRec H.tf) Dl) := ⟨by
        intro k
        rw [hmg k]
        simp only [hl0]
        rfl⟩
      have cf1 := hAl.cf
      have gf1 := hAl.fz.1
      go_wp2_with (go_at_call 90; refine (mayOnlyBe_any _ _ _ _ hAl.cf hAl.fz.1).mono ?_; rintro e w2 ⟨rfl, hw2⟩; have hA2 : Af G B H R rn N nl ⟨false, st.p, false, st.pref, Dl⟩ w0 w2 := (by rw [hw2, fm_and4]; exact hAl.setF false st.p false); clear hw2)
      rw [← hQ.out]
      apply hnx.out Dl nl hmd.out (by omega) _ _ hA2
    · intro x1 c1 w2 cnt2 hx hc hlx hgx hrg2 hlt hg2 hs2 hen
      have hA2 := hAl.kpr (Kp.of_grown hg2) hr7
      obtain ⟨hxs, hcs⟩ := size_of_small hRs hgx
      have cx2 := hA2.cx
      have cb2 := hA2.gl.c7
      have ct2 := hA2.hd (j := 0) (v := .int .u8 H.tf.toNat) rfl
      have hth := merge_there hmg x1.data.toList hlx
      have hgx := Asd.mk hgx
      have hmg := Asd.mk hmg
      rcases (Bool.eq_false_or_eq_true (Maps.has Dl (sK x1))) with hh1 | hh1
      · have hsk : Asd ((getS st.D x1.data.toList).isSome = true) := ⟨by rw [← hth, getS_some hh1]; rfl⟩
        go_wp2_with (first
      | (at_lookup; refine wpList_lookup_sm _ rfl _ _ rfl (N + 3) nl _ hA2.m rfl x1 rfl (by unfold maxLen; omega) ?_; intro y1 hy1)
      | (at_lookup; refine wpList_basic _ hA2.gl rfl _ _ rfl rfl x1 rfl (by unfold maxLen; omega) ?_)
      | (go_at_call 92; refine (pre_any x1 _).mono ?_; rw [hpf.out]; rintro e w9 ⟨rfl, rfl⟩)
      | (at_mapUpdate; refine wpList_mapUpdate_own _ rfl _ _ _ 97 rfl 9 9 law9 Tryz.underlying97 _ (N + 3) nl _ rfl hA2.m (by unfold maxLen; omega) _ _ _ rfl rfl (key9 _ (by unfold maxLen; omega)) _ [] (plain9 _ (by unfold maxLen; omega)) ?_; intro w6 hm6 hg6; go_frame))
        go_roundw
        case rel => first | exact ⟨_, cnt2, Dl, nl, hrg2, hA2, by omega, merge_skip hmg.out _ (.inl hsk.out)⟩ | ((repeat apply Exists.intro); exact ⟨⟨_, cnt2, Dl, nl, hrg2, hA2, by omega, merge_skip hmg.out _ (.inl hsk.out)⟩, rfl⟩)
        case measure => rw [hrg2.left_eq, hrg.left_eq]; exact hlt
      have hno : Asd (getS st.D x1.data.toList = none) := ⟨by rw [← hth, getS_none hh1]⟩
      by_cases h103 : H.tf = 103
      · have f103 : ((H.tf.toNat : Int) == 103) = true := by rw [h103]; rfl
        have hkp : Asd (keepRec H.tf x1.data.toList = true) := ⟨by unfold keepRec; rw [h103]; rfl⟩
        clear h103
        go_wp2_with (first
      | (at_lookup; refine wpList_lookup_sm _ rfl _ _ rfl (N + 3) nl _ hA2.m rfl x1 rfl (by unfold maxLen; omega) ?_; intro y1 hy1)
      | (at_lookup; refine wpList_basic _ hA2.gl rfl _ _ rfl rfl x1 rfl (by unfold maxLen; omega) ?_)
      | (go_at_call 92; refine (pre_any x1 _).mono ?_; rw [hpf.out]; rintro e w9 ⟨rfl, rfl⟩)
      | (at_mapUpdate; refine wpList_mapUpdate_own _ rfl _ _ _ 97 rfl 9 9 law9 Tryz.underlying97 _ (N + 3) nl _ rfl hA2.m (by unfold maxLen; omega) _ _ _ rfl rfl (key9 _ (by unfold maxLen; omega)) _ [] (plain9 _ (by unfold maxLen; omega)) ?_; intro w6 hm6 hg6; go_frame))
        have hrg6 := hrg2.kp (Kp.of_grown hg6) (by omega) (by omega)
        go_roundw
        case rel => first | exact ⟨_, cnt2, _, nl + 1, hrg6, hA2.put hm6 hg6, by omega, merge_put hmg.out hA2.m.isMap _ _ hno.out hkp.out hgx.out⟩ | ((repeat apply Exists.intro); exact ⟨⟨_, cnt2, _, nl + 1, hrg6, hA2.put hm6 hg6, by omega, merge_put hmg.out hA2.m.isMap _ _ hno.out hkp.out hgx.out⟩, rfl⟩)
        case measure => rw [hrg6.left_eq, hrg.left_eq]; exact hlt
      have f103 : ((H.tf.toNat : Int) == 103) = false := by
        rw [beq_eq_false_iff_ne]
        intro e
        exact h103 ((tf_nat H.tf 103 (by omega)).2 (by omega))
      have hk0 : keepRec H.tf x1.data.toList = (!(basicK x1.data.toList) && !(Lib.hasPrefix x1.data.toList gnuSp)) := by unfold keepRec; rw [decide_eq_false h103]; rfl
      clear h103
      rcases (Bool.eq_false_or_eq_true (Maps.has basicD (sK x1))) with hbk | hbk
      · have hkp : Asd (keepRec H.tf x1.data.toList = false) := ⟨by rw [hk0, show basicK x1.data.toList = true from hbk]; rfl⟩
        clear hk0
        go_wp2_with (first
      | (at_lookup; refine wpList_lookup_sm _ rfl _ _ rfl (N + 3) nl _ hA2.m rfl x1 rfl (by unfold maxLen; omega) ?_; intro y1 hy1)
      | (at_lookup; refine wpList_basic _ hA2.gl rfl _ _ rfl rfl x1 rfl (by unfold maxLen; omega) ?_)
      | (go_at_call 92; refine (pre_any x1 _).mono ?_; rw [hpf.out]; rintro e w9 ⟨rfl, rfl⟩)
      | (at_mapUpdate; refine wpList_mapUpdate_own _ rfl _ _ _ 97 rfl 9 9 law9 Tryz.underlying97 _ (N + 3) nl _ rfl hA2.m (by unfold maxLen; omega) _ _ _ rfl rfl (key9 _ (by unfold maxLen; omega)) _ [] (plain9 _ (by unfold maxLen; omega)) ?_; intro w6 hm6 hg6; go_frame))
        go_roundw
        case rel => first | exact ⟨_, cnt2, Dl, nl, hrg2, hA2, by omega, merge_skip hmg.out _ (.inr hkp.out)⟩ | ((repeat apply Exists.intro); exact ⟨⟨_, cnt2, Dl, nl, hrg2, hA2, by omega, merge_skip hmg.out _ (.inr hkp.out)⟩, rfl⟩)
        case measure => rw [hrg2.left_eq, hrg.left_eq]; exact hlt
      rcases (Bool.eq_false_or_eq_true (Lib.hasPrefix x1.data.toList gnuSp)) with hpf | hpf
      · have hkp : Asd (keepRec H.tf x1.data.toList = false) := ⟨by rw [hk0, hpf]; simp⟩
        clear hk0
        replace hpf := Asd.mk hpf
        go_wp2_with (first
      | (at_lookup; refine wpList_lookup_sm _ rfl _ _ rfl (N + 3) nl _ hA2.m rfl x1 rfl (by unfold maxLen; omega) ?_; intro y1 hy1)
      | (at_lookup; refine wpList_basic _ hA2.gl rfl _ _ rfl rfl x1 rfl (by unfold maxLen; omega) ?_)
      | (go_at_call 92; refine (pre_any x1 _).mono ?_; rw [hpf.out]; rintro e w9 ⟨rfl, rfl⟩)
      | (at_mapUpdate; refine wpList_mapUpdate_own _ rfl _ _ _ 97 rfl 9 9 law9 Tryz.underlying97 _ (N + 3) nl _ rfl hA2.m (by unfold maxLen; omega) _ _ _ rfl rfl (key9 _ (by unfold maxLen; omega)) _ [] (plain9 _ (by unfold maxLen; omega)) ?_; intro w6 hm6 hg6; go_frame))
        go_roundw
        case rel => first | exact ⟨_, cnt2, Dl, nl, hrg2, hA2, by omega, merge_skip hmg.out _ (.inr hkp.out)⟩ | ((repeat apply Exists.intro); exact ⟨⟨_, cnt2, Dl, nl, hrg2, hA2, by omega, merge_skip hmg.out _ (.inr hkp.out)⟩, rfl⟩)
        case measure => rw [hrg2.left_eq, hrg.left_eq]; exact hlt
      · have hkp : Asd (keepRec H.tf x1.data.toList = true) := ⟨by rw [hk0, hpf, show basicK x1.data.toList = false from hbk]; rfl⟩
        clear hk0
        replace hpf := Asd.mk hpf
        go_wp2_with (first
      | (at_lookup; refine wpList_lookup_sm _ rfl _ _ rfl (N + 3) nl _ hA2.m rfl x1 rfl (by unfold maxLen; omega) ?_; intro y1 hy1)
      | (at_lookup; refine wpList_basic _ hA2.gl rfl _ _ rfl rfl x1 rfl (by unfold maxLen; omega) ?_)
      | (go_at_call 92; refine (pre_any x1 _).mono ?_; rw [hpf.out]; rintro e w9 ⟨rfl, rfl⟩)
      | (at_mapUpdate; refine wpList_mapUpdate_own _ rfl _ _ _ 97 rfl 9 9 law9 Tryz.underlying97 _ (N + 3) nl _ rfl hA2.m (by unfold maxLen; omega) _ _ _ rfl rfl (key9 _ (by unfold maxLen; omega)) _ [] (plain9 _ (by unfold maxLen; omega)) ?_; intro w6 hm6 hg6; go_frame))
        have hrg6 := hrg2.kp (Kp.of_grown hg6) (by omega) (by omega)
        go_roundw
        case rel => first | exact ⟨_, cnt2, _, nl + 1, hrg6, hA2.put hm6 hg6, by omega, merge_put hmg.out hA2.m.isMap _ _ hno.out hkp.out hgx.out⟩ | ((repeat apply Exists.intro); exact ⟨⟨_, cnt2, _, nl + 1, hrg6, hA2.put hm6 hg6, by omega, merge_put hmg.out hA2.m.isMap _ _ hno.out hkp.out hgx.out⟩, rfl⟩)
        case measure => rw [hrg6.left_eq, hrg.left_eq]; exact hlt
def Nx31 (G : GlP) (B : Nat) (H : Hd) (R : DataW Unit) (rn N n : Nat) (st : AfS) (w0 : World) (Post : Ending → World → Prop) : Prop :=
  ∀ (x : ByteArray) (w' : World), Af G B H R rn N n st w0 w' → Fr35 31 N x Post w'
def Nx32 (G : GlP) (B : Nat) (H : Hd) (R : DataW Unit) (rn N n : Nat) (st : AfS) (w0 : World) (Post : Ending → World → Prop) : Prop :=
  ∀ (x : ByteArray) (w' : World), Af G B H R rn N n st w0 w' → Fr35 32 N x Post w'
theorem code35_30 : code35 30 = .seq (headSeq (code35 30)) (code35 31) := by kernel_rfl
theorem code35_31 : code35 31 = .seq (headSeq (code35 31)) (code35 32) := by kernel_rfl
/-- What allowedFormats hands back of a header that is not refused. -/
def AfGood (N n : Nat) (D : DataW Unit) (u p g : Bool) (w : World) (e : Ending) (w' : World) : Prop :=
  ∃ v, e = .returned (.tuple #[.int .i64 (fm u p g), .map (some (N + 3)), v]) ∧ SM w' (N + 3) n D ∧ Below N w w' ∧ (((u || p || g) = true ∧ v = .nilIface) ∨ ((u || p || g) = false ∧ ∃ x, v = .iface 151 x))
/-- The formats that are left, by the one that is wanted. -/
def finU (fu fp fg : Bool) (st : AfS) : Bool := if fu || fp || fg then st.u && (fu || (fp && !st.pref)) else st.u
def finP (fu fp fg : Bool) (st : AfS) : Bool := if fu || fp || fg then st.p && fp else st.p
def finG (fu fp fg : Bool) (st : AfS) : Bool := if fu || fp || fg then st.g && fg else st.g
theorem fm_zero (u p g : Bool) : (fm u p g == 0) = !(u || p || g) := by cases u <;> cases p <;> cases g <;> rfl
theorem has4_any (u p g b : Bool) (hb : p = b) (w : World) : Calls Tryz.prog 36 #[.int .i64 (fm u p g), .int .i64 4] w fun e w' => e = .returned (.bool b) ∧ w = w' := by
  refine (has_any (fm u p g) 4 w).mono ?_
  rintro e w' ⟨rfl, rfl⟩
  exact ⟨by rw [fm_has4, hb], rfl⟩
theorem fm_nz (u p g : Bool) : (fm u p g != 0) = (u || p || g) := by cases u <;> cases p <;> cases g <;> rfl
set_option maxRecDepth 100000 in
set_option maxHeartbeats 8000000 in
theorem n30_any (G : GlP) (B : Nat) (H : Hd) (R : DataW Unit) (rn N n : Nat) (st : AfS) (w0 w : World) (hA : Af G B H R rn N n st w0 w) (Post : Ending → World → Prop) (hDs : Small st.D)
    (hbad : ¬ AllRec st.D → ∀ e w', AfBad N w0 e w' → Post e w') (hnext : AllRec st.D → Nx31 G B H R rn N n st w0 Post) (x : ByteArray) :
    Fr35 30 N x Post w := by
  unfold Fr35
  intros
  rw [code35_30]
  conv => arg 2; arg 1; whnf
  obtain ⟨Q', hQ⟩ : ∃ Q', Asd (bodyPost Tryz.prog Tryz.f35 Post = Q') := ⟨_, ⟨rfl⟩⟩
  rw [hQ.out]
  have cx := hA.cx
  have hnx := Asd.mk hnext
  have hbd := Asd.mk hbad
  clear hnext hbad
  have hm := hA.m
  go_wp2_with (at_range; refine wpList_range_ss _ rfl _ rfl (N + 3) n st.D rfl hm ?_; intro w1 hrg1 hb1)
  go_frame
  have hA1 := hA.blw hb1
  have hr7 : N + 7 < w.heap.size := hA.lt
  obtain ⟨r, hrr⟩ : ∃ r, Asd (w.heap.size = r) := ⟨_, ⟨rfl⟩⟩
  rw [hrr.out] at hrg1 hr7
  rw [hrr.out]
  go_loopw [4, 25] (fun s4 _ wr => s4 = .nilIface ∧ ∃ (left : Lit → Bool) (cnt : Nat), SR wr (N + 3) r n st.D left cnt ∧ Af G B H R rn N n st w0 wr ∧ ∀ k v : ByteArray, getS st.D k.data.toList = some v.data.toList → left (sK k) = false → vRec k v = true)
    (fun _ _ wr => wr.rangeLeft (N + 3) r)
  case atStart => exact ⟨rfl, _, _, hrg1, hA1, fun k v hk hl => by
    exfalso
    have : Maps.has st.D (.string k.data.toList) = false := hl
    rw [getS_none this] at hk
    cases hk⟩
  case round =>
    obtain ⟨rfl, left, cnt, hrg, hAl, hall⟩ := hrel
    go_wp2_with (at_next; refine wpList_next_ss _ rfl _ rfl (N + 3) r n st.D left cnt rfl hrg ?_ ?_)
    · intro hc0 hl0
      have hga := hnx.out (fun k v hk => hall k v hk (hl0 _))
      clear hall
      go_wp2_with fail
      rw [← hQ.out]
      apply hga _ _ hAl
    · intro x1 c1 w2 cnt2 hx hc hlx hgx hrg2 hlt hg2 hs2 hen
      have hA2 := hAl.kpr (Kp.of_grown hg2) hr7
      obtain ⟨hxs, hcs⟩ := size_of_small hDs hgx
      have cf := hA2.cf
      have gf := hA2.fz.1
      have cx2 := hA2.cx
      have ef : N + 1 < w2.heap.size := by have := hA2.lt; omega
      have ex : N + 2 < w2.heap.size := by have := hA2.lt; omega
      have gx : w2.frozen? ⟨N + 2, 0, none⟩ = false := frozen_blk (C := [_]) hA2.x
      clear hs2
      have hgx := Asd.mk hgx
      have hall := Asd.mk hall
      rcases (Bool.eq_false_or_eq_true (vRec x1 c1)) with hv | hv
      · have hv2 := Asd.mk hv
        go_wp2_with (go_at_call 93; refine (validPAXRecord_any x1 c1 _ (by omega) (by omega)).mono ?_; rw [hv2.out]; rintro e w3 ⟨rfl, rfl⟩)
        go_roundw
        case rel => exact ⟨rfl, _, cnt2, hrg2, hA2, fun k v hk hl => by
          by_cases e : k = x1
          · subst e
            have : v = c1 := ba_ext (Option.some.inj (hk.symm.trans hgx.out))
            rw [this]; exact hv2.out
          · refine hall.out k v hk ?_
            have hs : (sK k).sameKey (sK x1) = false := sameKey_ne (by intro h; exact e (ba_ext (Lit.string.inj h)))
            simp only [hs] at hl
            simpa using hl⟩
        case measure => rw [hrg2.left_eq, hrg.left_eq]; exact hlt
      · have hno : Asd (¬ AllRec st.D) := ⟨fun h => by have := h x1 c1 hgx.out; rw [hv] at this; cases this⟩
        have hv2 := Asd.mk hv
        clear hv
        go_wp2_with (go_at_call 93; refine (validPAXRecord_any x1 c1 _ (by omega) (by omega)).mono ?_; rw [hv2.out]; rintro e w3 ⟨rfl, rfl⟩)
        rw [← hQ.out]
        have hrf := fun o => hA2.refuse o
        refine bodyPost_ret (res35 (N := N) _ _ rfl rfl rfl (hrf _).1 (hrf _).2.1) rfl ?_
        exact hbd.out hno.out _ _ ⟨_, rfl, (hrf _).2.2⟩
set_option maxRecDepth 100000 in
set_option maxHeartbeats 8000000 in
theorem n31_zero (G : GlP) (B : Nat) (H : Hd) (R : DataW Unit) (rn N n : Nat) (st : AfS) (w0 w : World) (hA : Af G B H R rn N n st w0 w) (Post : Ending → World → Prop) (fu fp fg : Bool) (hf : H.fmt = fm fu fp fg) (hz : (fu || fp || fg) = false)
    (hnext : Nx32 G B H R rn N n ⟨finU fu fp fg st, finP fu fp fg st, finG fu fp fg st, st.pref, st.D⟩ w0 Post) (x : ByteArray) :
    Fr35 31 N x Post w := by
  unfold Fr35
  intros
  rw [code35_31]
  conv => arg 2; arg 1; whnf
  obtain ⟨Q', hQ⟩ : ∃ Q', Asd (bodyPost Tryz.prog Tryz.f35 Post = Q') := ⟨_, ⟨rfl⟩⟩
  rw [hQ.out]
  have cx := hA.cx
  have hnx := Asd.mk hnext
  clear hnext
  have cfm := hA.hd (j := 19) (v := .int .i64 H.fmt) rfl
  rw [hf] at cfm
  replace hf := Asd.mk hf
  have hK : N + 7 < w.heap.size := hA.lt
  have e1 : N + 1 < w.heap.size := by omega
  have e7 : N + 7 < w.heap.size := hK
  have cp := hA.cp
  have hA1 : Af G B H R rn N n st w0 (w.alloc (.cells #[.int .i64 (fm fu fp fg)] 98 (0, 0))) := hA.blw ((Below.refl _ _).alloc (Nat.le_refl _) _)
  have hfs := Asd.mk (fm_nz fu fp fg)
  have hfin : Asd (∀ u p g, u = finU fu fp fg st → p = finP fu fp fg st → g = finG fu fp fg st → ∀ W, Af G B H R rn N n ⟨u, p, g, st.pref, st.D⟩ w0 W → Af G B H R rn N n ⟨finU fu fp fg st, finP fu fp fg st, finG fu fp fg st, st.pref, st.D⟩ w0 W) := ⟨fun u p g h1 h2 h3 W hW => by rw [← h1, ← h2, ← h3]; exact hW⟩
  have hnz : (fm fu fp fg != 0) = false := by rw [hfs.out, hz]
  have hz := Asd.mk hz
  go_wp2_with fail
  rw [← hQ.out]
  apply hnx.out _ _ (hfin.out _ _ _ (by unfold finU; rw [hz.out]; rfl) (by unfold finP; rw [hz.out]; rfl) (by unfold finG; rw [hz.out]; rfl) _ hA1)
set_option maxRecDepth 100000 in
set_option maxHeartbeats 8000000 in
theorem n31_wish (G : GlP) (B : Nat) (H : Hd) (R : DataW Unit) (rn N n : Nat) (st : AfS) (w0 w : World) (hA : Af G B H R rn N n st w0 w) (Post : Ending → World → Prop) (fu fp fg : Bool) (hf : H.fmt = fm fu fp fg) (hz : (fu || fp || fg) = true) (hp : fp = true) (hq : st.pref = false)
    (hnext : Nx32 G B H R rn N n ⟨finU fu fp fg st, finP fu fp fg st, finG fu fp fg st, st.pref, st.D⟩ w0 Post) (x : ByteArray) :
    Fr35 31 N x Post w := by
  unfold Fr35
  intros
  rw [code35_31]
  conv => arg 2; arg 1; whnf
  obtain ⟨Q', hQ⟩ : ∃ Q', Asd (bodyPost Tryz.prog Tryz.f35 Post = Q') := ⟨_, ⟨rfl⟩⟩
  rw [hQ.out]
  have cx := hA.cx
  have hnx := Asd.mk hnext
  clear hnext
  have cfm := hA.hd (j := 19) (v := .int .i64 H.fmt) rfl
  rw [hf] at cfm
  replace hf := Asd.mk hf
  have hK : N + 7 < w.heap.size := hA.lt
  have e1 : N + 1 < w.heap.size := by omega
  have e7 : N + 7 < w.heap.size := hK
  have cp := hA.cp
  have hA1 : Af G B H R rn N n st w0 (w.alloc (.cells #[.int .i64 (fm fu fp fg)] 98 (0, 0))) := hA.blw ((Below.refl _ _).alloc (Nat.le_refl _) _)
  have hfs := Asd.mk (fm_nz fu fp fg)
  have hfin : Asd (∀ u p g, u = finU fu fp fg st → p = finP fu fp fg st → g = finG fu fp fg st → ∀ W, Af G B H R rn N n ⟨u, p, g, st.pref, st.D⟩ w0 W → Af G B H R rn N n ⟨finU fu fp fg st, finP fu fp fg st, finG fu fp fg st, st.pref, st.D⟩ w0 W) := ⟨fun u p g h1 h2 h3 W hW => by rw [← h1, ← h2, ← h3]; exact hW⟩
  have hnz : (fm fu fp fg != 0) = true := by rw [hfs.out, hz]
  replace hz := Asd.mk hz
  have hpp := Asd.mk hp
  have hqq := Asd.mk hq
  rw [hq] at cp
  clear hp hq
  go_wp2_with (first
    | (go_at_call 36; refine (has4_any fu fp fg _ hpp.out _).mono ?_; rintro e w2 ⟨rfl, rfl⟩)
    | (go_at_call 94; refine (mayBe_any _ (fm fu fp fg) _ _ (cell_blk (C := [_]) (heap_alloc_new _ _) rfl) (frozen_blk (C := [_]) (heap_alloc_new _ _))).mono ?_; rintro e w3 ⟨rfl, hw3⟩; rw [fm_or2] at hw3; have hA3 : Af G B H R rn N n st w0 w3 := (by rw [hw3]; exact hA1.kpr (kset _ _ 0 _) hK); have c3 : w3.cell? ⟨w.heap.size, 0, none⟩ = some (.int .i64 (fm true fp fg)) := (by rw [hw3]; exact cell_blk (C := [_]) (set1 (heap_alloc_new _ _)) rfl); clear hw3)
    | (go_at_call 90; refine (mayOnlyBe_any _ _ _ _ hA3.cf hA3.fz.1).mono ?_; rintro e w4 ⟨rfl, hw4⟩; have hA4 : Af G B H R rn N n ⟨st.u && true, st.p && fp, st.g && fg, st.pref, st.D⟩ w0 w4 := (by rw [hw4, fm_and]; exact hA3.setF _ _ _); clear hw4))
  rw [← hQ.out]
  apply hnx.out _ _ (hfin.out _ _ _ (by unfold finU; rw [hz.out, hpp.out, hqq.out]; simp) (by unfold finP; rw [hz.out]; rfl) (by unfold finG; rw [hz.out]; rfl) _ hA4)
set_option maxRecDepth 100000 in
set_option maxHeartbeats 8000000 in
theorem n31_have (G : GlP) (B : Nat) (H : Hd) (R : DataW Unit) (rn N n : Nat) (st : AfS) (w0 w : World) (hA : Af G B H R rn N n st w0 w) (Post : Ending → World → Prop) (fu fp fg : Bool) (hf : H.fmt = fm fu fp fg) (hz : (fu || fp || fg) = true) (hq : (fp && !st.pref) = false)
    (hnext : Nx32 G B H R rn N n ⟨finU fu fp fg st, finP fu fp fg st, finG fu fp fg st, st.pref, st.D⟩ w0 Post) (x : ByteArray) :
    Fr35 31 N x Post w := by
  unfold Fr35
  intros
  rw [code35_31]
  conv => arg 2; arg 1; whnf
  obtain ⟨Q', hQ⟩ : ∃ Q', Asd (bodyPost Tryz.prog Tryz.f35 Post = Q') := ⟨_, ⟨rfl⟩⟩
  rw [hQ.out]
  have cx := hA.cx
  have hnx := Asd.mk hnext
  clear hnext
  have cfm := hA.hd (j := 19) (v := .int .i64 H.fmt) rfl
  rw [hf] at cfm
  replace hf := Asd.mk hf
  have hK : N + 7 < w.heap.size := hA.lt
  have e1 : N + 1 < w.heap.size := by omega
  have e7 : N + 7 < w.heap.size := hK
  have cp := hA.cp
  have hA1 : Af G B H R rn N n st w0 (w.alloc (.cells #[.int .i64 (fm fu fp fg)] 98 (0, 0))) := hA.blw ((Below.refl _ _).alloc (Nat.le_refl _) _)
  have hfs := Asd.mk (fm_nz fu fp fg)
  have hfin : Asd (∀ u p g, u = finU fu fp fg st → p = finP fu fp fg st → g = finG fu fp fg st → ∀ W, Af G B H R rn N n ⟨u, p, g, st.pref, st.D⟩ w0 W → Af G B H R rn N n ⟨finU fu fp fg st, finP fu fp fg st, finG fu fp fg st, st.pref, st.D⟩ w0 W) := ⟨fun u p g h1 h2 h3 W hW => by rw [← h1, ← h2, ← h3]; exact hW⟩
  have hnz : (fm fu fp fg != 0) = true := by rw [hfs.out, hz]
  replace hz := Asd.mk hz
  have hqq := Asd.mk hq
  obtain ⟨fp', hfp⟩ : ∃ b, Asd (b = fp) := ⟨_, ⟨rfl⟩⟩
  obtain ⟨pr, hpr⟩ : ∃ b, Asd (b = st.pref) := ⟨_, ⟨rfl⟩⟩
  rw [← hpr.out] at cp
  have hq2 : (fp' && !pr) = false := by rw [hfp.out, hpr.out]; exact hq
  clear hq
  cases fp'
  all_goals cases pr
  all_goals first | (exfalso; revert hq2; decide) | skip
  all_goals clear hq2
  all_goals
    go_wp2_with (first
      | (go_at_call 36; refine (has4_any fu fp fg _ hfp.out.symm _).mono ?_; rintro e w2 ⟨rfl, rfl⟩)
      | (go_at_call 90; refine (mayOnlyBe_any _ _ _ _ hA1.cf hA1.fz.1).mono ?_; rintro e w4 ⟨rfl, hw4⟩; have hA4 : Af G B H R rn N n ⟨st.u && fu, st.p && fp, st.g && fg, st.pref, st.D⟩ w0 w4 := (by rw [hw4, fm_and]; exact hA1.setF _ _ _); clear hw4))
    rw [← hQ.out]
    apply hnx.out _ _ (hfin.out _ _ _ (by unfold finU; rw [hz.out, hqq.out]; simp) (by unfold finP; rw [hz.out]; rfl) (by unfold finG; rw [hz.out]; rfl) _ hA4)
theorem Af.setX {G : GlP} {B : Nat} {H : Hd} {R : DataW Unit} {rn N n : Nat} {st : AfS} {w0 w : World} (h : Af G B H R rn N n st w0 w) : Af G B H R rn N n st w0 (w.setCell ⟨N + 2, 0, none⟩ (.map (some (N + 3)))) := by
  obtain ⟨x4, h4⟩ := h.s4
  obtain ⟨x5, h5⟩ := h.s5
  obtain ⟨x6, h6⟩ := h.s6
  have hk := kset w (N + 2) 0 (.map (some (N + 3)))
  obtain ⟨k1, k2, k3⟩ := h.keep hk (by omega)
  exact ⟨hk.get h.h (by omega), hk.get h.f (by omega), set1 h.x, h.m.kp hk (by omega), ⟨x4, hk.get h4 (by omega)⟩, ⟨x5, hk.get h5 (by omega)⟩, ⟨x6, hk.get h6 (by omega)⟩, hk.get h.pr (by omega), h.hN, h.hB, k1, k2, k3⟩
theorem Af.setSame {G : GlP} {B : Nat} {H : Hd} {R : DataW Unit} {rn N n : Nat} {st : AfS} {w0 w : World} (h : Af G B H R rn N n st w0 w) : Af G B H R rn N n st w0 ((w.setCell ⟨N + 1, 0, none⟩ (.int .i64 (fm st.u st.p st.g))).setCell ⟨N + 2, 0, none⟩ (.map (some (N + 3)))) := (h.setF st.u st.p st.g).setX
set_option maxRecDepth 100000 in
set_option maxHeartbeats 8000000 in
theorem n32_some (G : GlP) (B : Nat) (H : Hd) (R : DataW Unit) (rn N n : Nat) (st : AfS) (w0 w : World) (hA : Af G B H R rn N n st w0 w) (Post : Ending → World → Prop) (hz : (st.u || st.p || st.g) = true)
    (hpost : ∀ e w', AfGood N n st.D st.u st.p st.g w0 e w' → Post e w') (x : ByteArray) :
    Fr35 32 N x Post w := by
  unfold Fr35
  intros
  conv => arg 2; whnf
  obtain ⟨Q', hQ⟩ : ∃ Q', Asd (bodyPost Tryz.prog Tryz.f35 Post = Q') := ⟨_, ⟨rfl⟩⟩
  rw [hQ.out]
  have cx := hA.cx
  have hps := Asd.mk hpost
  clear hpost
  have cf := hA.cf
  have gf := hA.fz.1
  have gx : w.frozen? ⟨N + 2, 0, none⟩ = false := frozen_blk (C := [_]) hA.x
  have cfm := hA.hd (j := 19) (v := .int .i64 H.fmt) rfl
  have hfs := fm_zero st.u st.p st.g
  rw [hz] at hfs
  replace hz := Asd.mk hz
  go_wp2_with fail
  go_region
  all_goals go_wp2_with fail
  all_goals
    rw [← hQ.out]
    have hE := hA.setSame.drew
    refine bodyPost_ret (res35 (N := N) _ _ rfl rfl rfl hE.cf hE.cx) rfl ?_
    exact hps.out _ _ ⟨_, rfl, hE.m, hE.below, .inl ⟨hz.out, rfl⟩⟩
set_option maxRecDepth 100000 in
set_option maxHeartbeats 8000000 in
theorem n32_none (G : GlP) (B : Nat) (H : Hd) (R : DataW Unit) (rn N n : Nat) (st : AfS) (w0 w : World) (hA : Af G B H R rn N n st w0 w) (Post : Ending → World → Prop) (hz : (st.u || st.p || st.g) = false)
    (hpost : ∀ e w', AfGood N n st.D st.u st.p st.g w0 e w' → Post e w') (x : ByteArray) :
    Fr35 32 N x Post w := by
  unfold Fr35
  intros
  conv => arg 2; whnf
  obtain ⟨Q', hQ⟩ : ∃ Q', Asd (bodyPost Tryz.prog Tryz.f35 Post = Q') := ⟨_, ⟨rfl⟩⟩
  rw [hQ.out]
  have cx := hA.cx
  have hps := Asd.mk hpost
  clear hpost
  have cf := hA.cf
  have gf := hA.fz.1
  have gx : w.frozen? ⟨N + 2, 0, none⟩ = false := frozen_blk (C := [_]) hA.x
  have cfm := hA.hd (j := 19) (v := .int .i64 H.fmt) rfl
  have hfs := fm_zero st.u st.p st.g
  rw [hz] at hfs
  replace hz := Asd.mk hz
  obtain ⟨x4, c4⟩ := hA.cs4
  obtain ⟨x5, c5⟩ := hA.cs5
  obtain ⟨x6, c6⟩ := hA.cs6
  have e1 : N + 1 < w.heap.size := by have := hA.lt; omega
  have e2 : N + 2 < w.heap.size := by have := hA.lt; omega
  go_wp2_with fail
  all_goals go_region
  all_goals go_wp2_with fail
  all_goals
    rw [← hQ.out]
    have hE := fun o => (hA.setSame.blw ((Below.refl _ _).alloc (Nat.le_refl _) o)).drew
    refine bodyPost_ret (res35 (N := N) _ _ rfl rfl rfl (hE _).cf (hE _).cx) rfl ?_
    exact hps.out _ _ ⟨_, rfl, (hE _).m, (hE _).below, .inr ⟨hz.out, _, rfl⟩⟩
/-- A map that holds only short texts. -/
def MOk (D : DataW Unit) : Prop := IsMap D ∧ Small D
theorem MOk.put {D : DataW Unit} (h : MOk D) (k v : ByteArray) (hk : k.size ≤ 1073741824) (hv : v.size ≤ 1073741824) : MOk (D.put (sK k) (sV v.data.toList)) :=
  ⟨h.1.put _ _, h.2.put h.1 _ _ (by simpa using hk) (by simpa using hv)⟩
theorem putIf_ok {st : AfS} (h : MOk st.D) (b : Bool) (k v : ByteArray) (hk : k.size ≤ 1073741824) (hv : v.size ≤ 1073741824) : MOk (st.putIf b k v).D := by
  unfold AfS.putIf
  split
  · exact h.put k v hk hv
  · exact h
theorem afStr_ok {st : AfS} (h : MOk st.D) (R : DataW Unit) (path lo : Bool) (s key : ByteArray) (size : Nat) (hk : key.size ≤ 1073741824) (hs : s.size ≤ 1073741824) : MOk (afStr R path lo s key size st).D := by
  unfold afStr
  exact putIf_ok (putIf_ok (st := (st.noG (strBadG lo s size)).noU (strBadU path s size)) h _ _ _ hk hs) _ _ _ hk hs
theorem afNum_ok {st : AfS} (h : MOk st.D) (R : DataW Unit) (no : Bool) (x : Int) (key : ByteArray) (size : Nat) (hk : key.size ≤ 1073741824) (hx : -9223372036854775808 ≤ x ∧ x ≤ 9223372036854775807) : MOk (afNum R no x key size st).D := by
  have hd := dec_size x hx.1 hx.2
  unfold afNum
  exact putIf_ok (putIf_ok (st := ((st.noG (!fitB size x)).noU (!fitO size x)).noP (!fitO size x && no)) h _ _ _ hk (by omega)) _ _ _ hk (by omega)
theorem afTime_ok {st : AfS} (h : MOk st.D) (R : DataW Unit) (mt : Bool) (n : Nat) (x : Int) (key : ByteArray) (hk : key.size ≤ 1073741824) (hn : n < 1000000000) : MOk (afTime R mt n x key st).D := by
  have hd := ptime_size n x hn
  unfold afTime
  split
  · exact h
  · unfold afTime1
    exact putIf_ok (putIf_ok (st := ((st.noG (!fitB 12 (tmUnix x))).noU (!(mt && fitO 12 (tmUnix x)))).wish (tmNeed mt n x)) h _ _ _ hk (by omega)) _ _ _ hk (by omega)
def st0 : AfS := ⟨true, true, true, false, .map []⟩
/-- What the fields ask for. -/
def afBase (H : Hd) (R : DataW Unit) : AfS :=
  afTime R false H.cn H.cx kCtimeB (afTime R false H.an H.ax kAtimeB (afTime R true H.mn H.mx kMtimeB
    (afNum R true H.min kNoneB 8 (afNum R true H.maj kNoneB 8 (afNum R false H.size kSizeB 12 (afNum R false H.gid kGidB 8 (afNum R false H.uid kUidB 8 (afNum R true H.mode kNoneB 8
      (afStr R false false H.gname kGnameB 32 (afStr R false false H.uname kUnameB 32 (afStr R false true H.link kLinkB 100 (afStr R true true H.name kPathB 100 st0))))))))))))
theorem afBase_ok (H : Hd) (R : DataW Unit) (ok : H.Ok) : MOk (afBase H R).D := by
  have h0 : MOk st0.D := ⟨isMap_empty, Small.empty⟩
  have h1 := afStr_ok h0 R true true H.name kPathB 100 (by decide) ok.name
  have h2 := afStr_ok h1 R false true H.link kLinkB 100 (by decide) ok.link
  have h3 := afStr_ok h2 R false false H.uname kUnameB 32 (by decide) ok.uname
  have h4 := afStr_ok h3 R false false H.gname kGnameB 32 (by decide) ok.gname
  have h5 := afNum_ok h4 R true H.mode kNoneB 8 (by decide) ok.mode
  have h6 := afNum_ok h5 R false H.uid kUidB 8 (by decide) ok.uid
  have h7 := afNum_ok h6 R false H.gid kGidB 8 (by decide) ok.gid
  have h8 := afNum_ok h7 R false H.size kSizeB 12 (by decide) ok.size
  have h9 := afNum_ok h8 R true H.maj kNoneB 8 (by decide) ok.maj
  have h10 := afNum_ok h9 R true H.min kNoneB 8 (by decide) ok.min
  have h11 := afTime_ok h10 R true H.mn H.mx kMtimeB (by decide) ok.mn
  have h12 := afTime_ok h11 R false H.an H.ax kAtimeB (by decide) ok.an
  exact afTime_ok h12 R false H.cn H.cx kCtimeB (by decide) ok.cn
/-- The records that are written of a header. -/
def PaxOf (H : Hd) (R D : DataW Unit) : Prop := Merged (afBase H R).D R (keepRec H.tf) D
/-- What is left behind the switch and the records. -/
def stFin (H : Hd) (R : DataW Unit) : AfS := paxSt R (swSt H (afBase H R))
def afU (H : Hd) (R : DataW Unit) (fu fp fg : Bool) : Bool := finU fu fp fg (stFin H R)
def afP (H : Hd) (R : DataW Unit) (fu fp fg : Bool) : Bool := finP fu fp fg (stFin H R)
def afG (H : Hd) (R : DataW Unit) (fu fp fg : Bool) : Bool := finG fu fp fg (stFin H R)
def AfPost (H : Hd) (R : DataW Unit) (rn : Nat) (fu fp fg : Bool) (w : World) (e : Ending) (w' : World) : Prop :=
  (AfBad w.heap.size w e w' ∧ (badH H = true ∨ ∃ D, PaxOf H R D ∧ ¬ AllRec D)) ∨
  (badH H = false ∧ ∃ D n, PaxOf H R D ∧ AllRec D ∧ n ≤ rn + 26 ∧ AfGood w.heap.size n D (afU H R fu fp fg) (afP H R fu fp fg) (afG H R fu fp fg) w e w')
theorem size0_getS {R : DataW Unit} (hR : IsMap R) (hz : Maps.size R = 0) (k : List UInt8) : getS R k = none := by
  obtain ⟨es, rfl⟩ := hR
  have : es = [] := List.eq_nil_of_length_eq_zero hz
  subst this
  rfl
theorem merged_none {D1 R : DataW Unit} (hR : IsMap R) (hz : Maps.size R = 0) (keep : List UInt8 → Bool) : Merged D1 R keep D1 := by
  intro k
  cases h : getS D1 k with
  | some v => rfl
  | none => simp [size0_getS hR hz]
theorem swSt_D (H : Hd) (st : AfS) : (swSt H st).D = st.D := by unfold swSt; split <;> rfl
theorem swSt_pref (H : Hd) (st : AfS) : (swSt H st).pref = st.pref := by unfold swSt; split <;> rfl
theorem n31_any (G : GlP) (B : Nat) (H : Hd) (R : DataW Unit) (rn N n : Nat) (st : AfS) (w0 : World) (Post : Ending → World → Prop) (fu fp fg : Bool) (hf : H.fmt = fm fu fp fg)
    (hnext : Nx32 G B H R rn N n ⟨finU fu fp fg st, finP fu fp fg st, finG fu fp fg st, st.pref, st.D⟩ w0 Post) : Nx31 G B H R rn N n st w0 Post := by
  intro x w' hA
  by_cases hz : (fu || fp || fg) = true
  · by_cases hq : (fp && !st.pref) = true
    · simp only [Bool.and_eq_true, Bool.not_eq_true'] at hq
      exact n31_wish G B H R rn N n st w0 w' hA Post fu fp fg hf hz hq.1 hq.2 hnext x
    · exact n31_have G B H R rn N n st w0 w' hA Post fu fp fg hf hz (by simpa using hq) hnext x
  · exact n31_zero G B H R rn N n st w0 w' hA Post fu fp fg hf (by simpa using hz) hnext x
theorem n32_any (G : GlP) (B : Nat) (H : Hd) (R : DataW Unit) (rn N n : Nat) (st : AfS) (w0 : World) (Post : Ending → World → Prop)
    (hpost : ∀ e w', AfGood N n st.D st.u st.p st.g w0 e w' → Post e w') : Nx32 G B H R rn N n st w0 Post := by
  intro x w' hA
  by_cases hz : (st.u || st.p || st.g) = true
  · exact n32_some G B H R rn N n st w0 w' hA Post hz hpost x
  · exact n32_none G B H R rn N n st w0 w' hA Post (by simpa using hz) hpost x
theorem n30_nx (G : GlP) (B : Nat) (H : Hd) (R : DataW Unit) (rn N n : Nat) (st : AfS) (w0 : World) (Post : Ending → World → Prop) (hDs : Small st.D)
    (hbad : ¬ AllRec st.D → ∀ e w', AfBad N w0 e w' → Post e w') (hnext : AllRec st.D → Nx31 G B H R rn N n st w0 Post) : Nx30 G B H R rn N n st w0 Post := by
  intro x w' hA
  exact n30_any G B H R rn N n st w0 w' hA Post hDs hbad hnext x
theorem n27_nx (G : GlP) (B : Nat) (H : Hd) (R : DataW Unit) (rn N n : Nat) (st : AfS) (w0 : World) (Post : Ending → World → Prop) (ok : Asd H.Ok) (hxa : H.xat = .map none) (hRs : Small R) (hD1 : Small st.D) (hnr : n + rn < 1073741824)
    (hbad : negSize H = true → ∀ e w', AfBad N w0 e w' → Post e w')
    (hnext : negSize H = false → ∀ D n', Merged st.D R (keepRec H.tf) D → n' ≤ n + rn → Nx30 G B H R rn N n' ⟨(paxSt R st).u, (paxSt R st).p, (paxSt R st).g, st.pref, D⟩ w0 Post) : Nx27 G B H R rn N n st w0 Post := by
  intro x w' hA
  by_cases hng : negSize H = true
  · exact n27_neg G B H R rn N n st w0 w' hA ok hxa Post hng x (hbad hng)
  replace hng : negSize H = false := by simpa using hng
  have hnx := hnext hng
  by_cases hz : Maps.size R = 0
  · have hp : paxSt R st = st := by unfold paxSt; rw [if_pos hz]
    rw [hp] at hnx
    have h1 := hnx st.D n (merged_none hA.rc.isMap hz _) (by omega)
    have hr : H.recs = .map none ∨ ∃ b, H.recs = .map (some b) ∧ SM w' b rn R := by
      rcases hA.rc with ⟨e, _⟩ | ⟨b, e, _, hm⟩
      · exact .inl e
      · exact .inr ⟨b, e, hm⟩
    cases hh : hdrOnly H.tf with
    | true => exact n27_noneA G B H R rn N n st w0 w' hA ok hxa Post hh hr hz x h1
    | false =>
      have h2 : 0 ≤ H.size := by
        unfold negSize at hng
        rw [hh] at hng
        simpa using hng
      exact n27_noneB G B H R rn N n st w0 w' hA ok hxa Post hh h2 hr hz x h1
  · have hp : paxSt R st = ⟨false, st.p, false, st.pref, st.D⟩ := by unfold paxSt; rw [if_neg hz]
    rw [hp] at hnx
    rcases hA.rc with ⟨e, e2⟩ | ⟨b, e, hb, hm⟩
    · exfalso
      rw [e2] at hz
      exact hz rfl
    · cases hh : hdrOnly H.tf with
      | true => exact n27_loopA G B H R rn N n st w0 w' hA ok hxa Post hh b e hb hm hz hRs hD1 hnr x (fun D n' h1 h2 => hnx D n' h1 h2)
      | false =>
        have h2 : 0 ≤ H.size := by
          unfold negSize at hng
          rw [hh] at hng
          simpa using hng
        exact n27_loopB G B H R rn N n st w0 w' hA ok hxa Post hh h2 b e hb hm hz hRs hD1 hnr x (fun D n' h1 h2 => hnx D n' h1 h2)
theorem sw_any (G : GlP) (B : Nat) (H : Hd) (R : DataW Unit) (rn N n : Nat) (st : AfS) (w0 w : World) (hA : Af G B H R rn N n st w0 w) (ok : Asd H.Ok) (hxa : H.xat = .map none) (Post : Ending → World → Prop)
    (hbad : badSw H = true → ∀ e w', AfBad N w0 e w' → Post e w') (hnext : badSw H = false → Nx27 G B H R rn N n (swSt H st) w0 Post) :
    Fr35 26 N ⟨#[]⟩ Post w := by
  by_cases k48 : H.tf.toNat = 48
  · exact sw_48 G B H R rn N n st w0 w hA ok hxa Post k48 hbad hnext
  by_cases k51 : H.tf.toNat = 51
  · exact sw_51 G B H R rn N n st w0 w hA ok hxa Post k51 hbad hnext
  by_cases k52 : H.tf.toNat = 52
  · exact sw_52 G B H R rn N n st w0 w hA ok hxa Post k52 hbad hnext
  by_cases k54 : H.tf.toNat = 54
  · exact sw_54 G B H R rn N n st w0 w hA ok hxa Post k54 hbad hnext
  by_cases k83 : H.tf.toNat = 83
  · exact sw_83 G B H R rn N n st w0 w hA ok hxa Post k83 hbad hnext
  by_cases k120 : H.tf.toNat = 120
  · exact sw_120 G B H R rn N n st w0 w hA ok hxa Post k120 hbad hnext
  by_cases k76 : H.tf.toNat = 76
  · exact sw_76 G B H R rn N n st w0 w hA ok hxa Post k76 hbad hnext
  by_cases k75 : H.tf.toNat = 75
  · exact sw_75 G B H R rn N n st w0 w hA ok hxa Post k75 hbad hnext
  by_cases k103 : H.tf.toNat = 103
  · exact sw_103 G B H R rn N n st w0 w hA ok hxa Post k103 hbad hnext
  exact sw_else G B H R rn N n st w0 w hA ok hxa Post ⟨k48, k51, k52, k54, k83, k120, k76, k75, k103⟩ hbad hnext
/-- All of it, behind the fields. -/
theorem tail_any (G : GlP) (B : Nat) (H : Hd) (R : DataW Unit) (rn : Nat) (w0 w : World) (hA : Af G B H R rn w0.heap.size 26 (afBase H R) w0 w) (ok : Asd H.Ok) (hxa : H.xat = .map none) (hRs : Small R) (hnr : 26 + rn < 1073741824) (fu fp fg : Bool) (hf : H.fmt = fm fu fp fg) :
    Fr35 26 w0.heap.size ⟨#[]⟩ (AfPost H R rn fu fp fg w0) w := by
  have hDs := (afBase_ok H R ok.out).2
  refine sw_any G B H R rn w0.heap.size 26 (afBase H R) w0 w hA ok hxa _ (fun hb e w' h => .inl ⟨h, .inl (by unfold badH; rw [hb]; rfl)⟩) (fun hsw => ?_)
  refine n27_nx G B H R rn w0.heap.size 26 (swSt H (afBase H R)) w0 _ ok hxa hRs (by rw [swSt_D]; exact hDs) hnr (fun hb e w' h => .inl ⟨h, .inl (by unfold badH; rw [show (!(hdrOnly H.tf) && decide (H.size < 0)) = true from hb]; simp)⟩) (fun hng D n' hM hn' => ?_)
  have hbh : badH H = false := by unfold badH; rw [hsw, show (!(hdrOnly H.tf) && decide (H.size < 0)) = false from hng]; rfl
  rw [swSt_D] at hM
  have hDD : Small D := Small.merge (left := fun _ => false) hDs hRs (by intro k; rw [hM k]; cases getS (afBase H R).D k <;> rfl)
  refine n30_nx G B H R rn w0.heap.size n' _ w0 _ hDD (fun hna e w' h => .inl ⟨h, .inr ⟨D, hM, hna⟩⟩) (fun hall => ?_)
  refine n31_any G B H R rn w0.heap.size n' _ w0 _ fu fp fg hf ?_
  refine n32_any G B H R rn w0.heap.size n' _ w0 _ ?_
  intro e w' h
  refine .inr ⟨hbh, D, n', hM, hall, by omega, ?_⟩
  have e1 : ∀ st : AfS, finU fu fp fg ⟨st.u, st.p, st.g, (swSt H (afBase H R)).pref, D⟩ = finU fu fp fg ⟨st.u, st.p, st.g, (swSt H (afBase H R)).pref, st.D⟩ := fun _ => rfl
  have hpr : (paxSt R (swSt H (afBase H R))).pref = (swSt H (afBase H R)).pref := by unfold paxSt; split <;> rfl
  unfold afU afP afG stFin
  have e3 : finU fu fp fg (paxSt R (swSt H (afBase H R))) = finU fu fp fg ⟨(paxSt R (swSt H (afBase H R))).u, (paxSt R (swSt H (afBase H R))).p, (paxSt R (swSt H (afBase H R))).g, (swSt H (afBase H R)).pref, D⟩ := by rw [← hpr]; rfl
  have e4 : finP fu fp fg (paxSt R (swSt H (afBase H R))) = finP fu fp fg ⟨(paxSt R (swSt H (afBase H R))).u, (paxSt R (swSt H (afBase H R))).p, (paxSt R (swSt H (afBase H R))).g, (swSt H (afBase H R)).pref, D⟩ := by rw [← hpr]; rfl
  have e5 : finG fu fp fg (paxSt R (swSt H (afBase H R))) = finG fu fp fg ⟨(paxSt R (swSt H (afBase H R))).u, (paxSt R (swSt H (afBase H R))).p, (paxSt R (swSt H (afBase H R))).g, (swSt H (afBase H R)).pref, D⟩ := by rw [← hpr]; rfl
  rw [e3, e4, e5]
  exact h
end Go.Proofs.YtpkilegnokajmaaGreatDoor
