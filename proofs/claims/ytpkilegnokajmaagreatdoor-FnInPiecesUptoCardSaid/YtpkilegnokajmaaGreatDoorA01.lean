/- What the package-level variables hold while the call runs. Maps from texts to texts: what they hold, key by key. What allowedFormats has in hand: its variables in memory. Ranging over maps of texts; the map of the built-in keys; one map laid into another. -/
import Derived.Test.YtpkilegnokajmaaGreatDoorA00
import Derived.Maps.Own
import Derived.Maps.OwnSet
import Derived.Lib.LaidTab
import Derived.Lib.Strings
import Derived.WalkSmall
import Derived.Shelf.Strconv.Itoa1
import Derived.Maps.StringElems
import Derived.Maps.Ext
import Derived.Maps.RangeWalk
set_option linter.unusedVariables false
set_option linter.unusedSimpArgs false
set_option linter.unnecessarySimpa false
set_option linter.unusedSectionVars false
namespace Go.Proofs.YtpkilegnokajmaaGreatDoor
open Go.RowKit Go.Maps

/-- Where the errors lie that the variables hold (p0: ErrWriteTooLong, p1: ErrWriteAfterClose, p2: io.EOF, p3: ErrHeader, p4: ErrFieldTooLong, p5: io.ErrUnexpectedEOF, p6: ErrInsecurePath), and the map of the built-in keys. -/
structure GlP where
  p0 : Addr
  p1 : Addr
  p2 : Addr
  p3 : Addr
  p4 : Addr
  p5 : Addr
  p6 : Addr
  bkm : Nat
def errV (p : Addr) : Value := .iface 182 (.pointer (some p))
def basicD : DataW Unit := Rows.laid_tapearchives_pub_gotar_basicKeys
structure Gl (G : GlP) (B : Nat) (w : World) : Prop where
  hB : 16 ≤ B
  size : B ≤ w.heap.size
  c0 : w.cell? ⟨0, 0, none⟩ = some (.iface 182 (.pointer (some G.p0)))
  c1 : w.cell? ⟨1, 0, none⟩ = some (.iface 182 (.pointer (some G.p1)))
  c2 : w.cell? ⟨2, 0, none⟩ = some (.iface 182 (.pointer (some G.p2)))
  c3 : w.cell? ⟨3, 0, none⟩ = some (.iface 182 (.pointer (some G.p3)))
  c4 : w.cell? ⟨4, 0, none⟩ = some (.iface 182 (.pointer (some G.p4)))
  c5 : w.cell? ⟨5, 0, none⟩ = some (.iface 182 (.pointer (some G.p5)))
  c6 : w.cell? ⟨6, 0, none⟩ = some (.iface 182 (.pointer (some G.p6)))
  t11 : w.cell? ⟨11, 7, none⟩ = some (.int .u8 3)
  pow : Lib.TabIs Tryz.prog w "internal/strconv.uint64pow10" IntKind.u64 Lib.pow10Tab
  c7 : w.cell? ⟨7, 0, none⟩ = some (.map (some G.bkm))
  mkB : G.bkm < B
  bk : w.ownsMap (H := Unit) Tryz.prog 9 (plainElem Tryz.prog 4) G.bkm 10 basicD
theorem Gl.below {G : GlP} {B : Nat} {w w' : World} (h : Gl G B w) (hb : Below B w w') : Gl G B w' := by
  have hc : ∀ b j, b < 16 → w'.cell? ⟨b, j, none⟩ = w.cell? ⟨b, j, none⟩ := fun b j hj => hb.cell (p := ⟨b, j, none⟩) (by have := h.hB; show b < B; omega)
  refine ⟨h.hB, Nat.le_trans h.size hb.size, ?_, ?_, ?_, ?_, ?_, ?_, ?_, ?_, ?_, ?_, h.mkB, ?_⟩
  · rw [hc _ _ (by omega)]; exact h.c0
  · rw [hc _ _ (by omega)]; exact h.c1
  · rw [hc _ _ (by omega)]; exact h.c2
  · rw [hc _ _ (by omega)]; exact h.c3
  · rw [hc _ _ (by omega)]; exact h.c4
  · rw [hc _ _ (by omega)]; exact h.c5
  · rw [hc _ _ (by omega)]; exact h.c6
  · rw [hc _ _ (by omega)]; exact h.t11
  · exact var?_below hb (show Tryz.prog.globalNamed "internal/strconv.uint64pow10" = some 9 by kernel_rfl) (by have := h.hB; omega) h.pow
  · rw [hc _ _ (by omega)]; exact h.c7
  · obtain ⟨es, clock, h1, h2⟩ := h.bk
    exact ⟨es, clock, by rw [hb.block _ h.mkB]; exact h1, h2⟩
theorem Gl.kp {G : GlP} {B : Nat} {w w' : World} {S : Nat → Prop} (h : Gl G B w) (hk : Kp S w w') (hs : ∀ k, S k → B ≤ k) : Gl G B w' := h.below (hk.to_below h.size hs)
theorem law9 : Keyed Tryz.prog 9 := string_keyed Tryz.underlying9
theorem zero9 (w : World) : (zeroValue 9).run Tryz.prog w = .ok (.string ⟨#[]⟩) w := by kernel_rfl
def sK (s : ByteArray) : Lit := .string s.data.toList
def sV (l : List UInt8) : DataW Unit := .lit (.string l)
theorem key9 (s : ByteArray) (h : s.size ≤ maxLen) : keyOf Tryz.prog 9 (.string s) = some (sK s) := WideMaps.keyOf_string_mk Tryz.underlying9 h
theorem sK_key (l : List UInt8) : WideAt.IsKeyLit (.string l) := trivial
/-- The map in a block. -/
def SM (w : World) (b n : Nat) (D : DataW Unit) : Prop := w.ownsMap Tryz.prog 9 (plainElem Tryz.prog 9) b n D
def sget (D : DataW Unit) (k : List UInt8) : List UInt8 := match D.atKey (.string k) (sV []) with | .lit (.string l) => l | _ => []
/-- What stands at a key. -/
def getS (D : DataW Unit) (k : List UInt8) : Option (List UInt8) := if Maps.has D (.string k) then some (sget D k) else none
theorem getS_none {D : DataW Unit} {k : List UInt8} (h : Maps.has D (.string k) = false) : getS D k = none := by unfold getS; rw [h]; rfl
theorem getS_some {D : DataW Unit} {k : List UInt8} (h : Maps.has D (.string k) = true) : getS D k = some (sget D k) := by unfold getS; rw [h]; rfl
theorem sget_put_same {D : DataW Unit} (hD : IsMap D) (k v : List UInt8) : sget (D.put (.string k) (sV v)) k = v := by
  unfold sget; rw [atKey_put_same hD (sK_key k)]; rfl
theorem sget_put_other {D : DataW Unit} {k k' : List UInt8} (hne : k' ≠ k) (v : List UInt8) : sget (D.put (.string k) (sV v)) k' = sget D k' := by
  unfold sget; rw [atKey_put_other (by intro e; cases e; exact hne rfl)]
theorem getS_put {D : DataW Unit} (hD : IsMap D) (k v k' : List UInt8) : getS (D.put (.string k) (sV v)) k' = if k' = k then some v else getS D k' := by
  by_cases h : k' = k
  · subst h
    rw [if_pos rfl, getS_some (has_put_same hD (sK_key _) _), sget_put_same hD]
  · rw [if_neg h]
    unfold getS
    rw [has_put_other (by intro e; cases e; exact h rfl), sget_put_other h]
theorem getS_empty (k : List UInt8) : getS (.map []) k = none := rfl
section
variable {w w' : World} {b n : Nat} {D : DataW Unit}
theorem SM.isMap (h : SM w b n D) : IsMap D := World.ownsMap.isMap h
theorem SM.mono (h : SM w b n D) {n' : Nat} (hn : n ≤ n') : SM w b n' D := World.ownsMap.mono h hn
theorem SM.lt (h : SM w b n D) : b < w.heap.size := World.ownsMap.lt h
theorem SM.get (h : SM w b n D) : ∃ es clock, w.heap[b]? = some (.map es clock) := by
  obtain ⟨es, clock, h1, h2⟩ := h
  exact ⟨es, clock, h1⟩
theorem SM.same (h : SM w b n D) (he : w'.heap[b]? = w.heap[b]?) : SM w' b n D := by
  obtain ⟨es, clock, h1, h2⟩ := h
  exact ⟨es, clock, by rw [he]; exact h1, h2⟩
theorem SM.below (h : SM w b n D) (hb : Below w.heap.size w w') : SM w' b n D := h.same (hb.block b h.lt)
theorem SM.kp {S : Nat → Prop} (h : SM w b n D) (hk : Kp S w w') (hs : ¬ S b) : SM w' b n D := h.same (hk.block b h.lt hs)
theorem SM.fr {B : Nat} (h : SM w b n D) (hf : ∀ (k : Nat) (o : Obj), w.heap[k]? = some o → (∀ c t fr, o ≠ .cells c t fr) → w'.heap[k]? = some o) : SM w' b n D := by
  obtain ⟨es, clock, h1, h2⟩ := h
  exact ⟨es, clock, hf _ _ h1 (by intro c t fr e; cases e), h2⟩
theorem plain9_lit {v : Value} {d : DataW Unit} {ps : List MemPlace} (h : plainElem (H := Unit) Tryz.prog 9 v = some (d, ps)) : ∃ s : ByteArray, v = .string s ∧ d = sV s.data.toList ∧ s.size ≤ maxLen := by
  obtain ⟨s, rfl, e, hs⟩ := plainElem_string_inv Tryz.underlying9 h
  cases e
  exact ⟨s, rfl, rfl, hs⟩
theorem sV0 : plainElem (H := Unit) Tryz.prog 9 (.string ⟨#[]⟩) = some (sV [], []) := plainElem_string Tryz.underlying9 (by show (0 : Nat) ≤ maxLen; omega)
/-- 'v, ok := m[k]'. -/
theorem SM.look (h : SM w b n D) (s : ByteArray) (hs : s.size ≤ maxLen) : ∃ v : ByteArray, (Instr.lookup 97 (.map (some b)) (.string s) true).run Tryz.prog w = .ok (.tuple #[.string v, .bool (Maps.has D (sK s))]) w ∧ v.data.toList = sget D s.data.toList ∧ v.size ≤ maxLen := by
  obtain ⟨v, ps, h1, h2⟩ := World.ownsMap.look_ok h law9 Tryz.underlying97 (zero9 w) sV0 (key9 s hs)
  obtain ⟨x, rfl, h3, h4⟩ := plain9_lit h2
  refine ⟨x, h1, ?_, h4⟩
  unfold sget
  have h5 : D.atKey (.string s.data.toList) (sV []) = sV x.data.toList := h3
  rw [h5]; rfl
/-- 'm[k]'. -/
theorem SM.look1 (h : SM w b n D) (s : ByteArray) (hs : s.size ≤ maxLen) : ∃ v : ByteArray, (Instr.lookup 97 (.map (some b)) (.string s) false).run Tryz.prog w = .ok (.string v) w ∧ v.data.toList = sget D s.data.toList ∧ v.size ≤ maxLen := by
  obtain ⟨v, ps, h1, h2⟩ := World.ownsMap.lookup h law9 Tryz.underlying97 (zero9 w) sV0 (key9 s hs)
  obtain ⟨x, rfl, h3, h4⟩ := plain9_lit h2
  refine ⟨x, h1, ?_, h4⟩
  unfold sget
  have h5 : D.atKey (.string s.data.toList) (sV []) = sV x.data.toList := h3
  rw [h5]; rfl
end
/-- A nil map, or one in a block below B. -/
def RecM (v : Value) (B n : Nat) (D : DataW Unit) (w : World) : Prop := (v = .map none ∧ D = .map []) ∨ ∃ b, v = .map (some b) ∧ b < B ∧ SM w b n D
section
variable {w w' : World} {v : Value} {B n : Nat} {D : DataW Unit}
theorem RecM.below (h : RecM v B n D w) (hb : Below B w w') : RecM v B n D w' := by
  rcases h with h | ⟨b, h1, h2, h3⟩
  · exact .inl h
  · exact .inr ⟨b, h1, h2, h3.same (hb.block b h2)⟩
theorem RecM.isMap (h : RecM v B n D w) : IsMap D := by
  rcases h with ⟨_, rfl⟩ | ⟨b, h1, h2, h3⟩
  · exact ⟨_, rfl⟩
  · exact h3.isMap
theorem RecM.look (h : RecM v B n D w) (s : ByteArray) (hs : s.size ≤ maxLen) : ∃ x : ByteArray, (Instr.lookup 97 v (.string s) true).run Tryz.prog w = .ok (.tuple #[.string x, .bool (Maps.has D (sK s))]) w ∧ x.data.toList = sget D s.data.toList ∧ x.size ≤ maxLen := by
  rcases h with ⟨rfl, rfl⟩ | ⟨b, rfl, h2, h3⟩
  · refine ⟨⟨#[]⟩, ?_, rfl, by show (0 : Nat) ≤ maxLen; omega⟩
    have := Maps.look_nil (w := w) (P := Tryz.prog) true law9 Tryz.underlying97 (zero9 w) (key9 s hs)
    rw [this]; rfl
  · exact h3.look s hs
end
/-- 'v, ok := m[k]', for the walk. -/
theorem wpList_lookup_rec (w : World) {ops : Array Oper} {rest : List Oper} {o : Oper} {a : Act} {Q : Exit → Act → World → Prop} (hg : o.guard = none) (m x : Operand) (hop : o.op = Op.lookup 97 m x true)
    (v : Value) (B n : Nat) (D : DataW Unit) (h : RecM v B n D w) (hm : a.eval m = v) (s : ByteArray) (hx : a.eval x = .string s) (hs : s.size ≤ maxLen)
    (hK : ∀ y : ByteArray, y.data.toList = sget D s.data.toList → y.size ≤ maxLen → wpList Tryz.prog ops Q rest (a.put o.dst (.tuple #[.string y, .bool (Maps.has D (sK s))])) w) : wpList Tryz.prog ops Q (o :: rest) a w := by
  refine wpList_plain hg fun K' hK' => ?_
  obtain ⟨y, hrun, h1, h2⟩ := h.look s hs
  unfold Oper.wp
  simp [execOp, hop, hm, hx, hrun, Result.andThen]
  exact hK' _ _ (hK y h1 h2)
theorem Kp.of_grown {w w' : World} {b : Nat} (h : w.grownBy w' (some b)) : Kp (fun k => k = b) w w' :=
  ⟨h.os, h.tape, h.output, h.size, fun k hk hn => h.block k hk (fun e => hn (by cases e; rfl))⟩
structure AfS where
  u : Bool
  p : Bool
  g : Bool
  pref : Bool
  D : DataW Unit
/-- The variables: the header (N), the format, the records' map and its variable, three reasons, the wish for PAX. -/
structure Af (G : GlP) (B : Nat) (H : Hd) (R : DataW Unit) (rn N n : Nat) (st : AfS) (w0 w : World) : Prop where
  h : w.heap[N]? = some (.cells H.cells.toArray 100 (0, 0))
  f : w.heap[N + 1]? = some (.cells #[.int .i64 (fm st.u st.p st.g)] 98 (0, 0))
  x : w.heap[N + 2]? = some (.cells #[.map (some (N + 3))] 97 (0, 0))
  m : SM w (N + 3) n st.D
  s4 : ∃ x, w.heap[N + 4]? = some (.cells #[.string x] 9 (0, 0))
  s5 : ∃ x, w.heap[N + 5]? = some (.cells #[.string x] 9 (0, 0))
  s6 : ∃ x, w.heap[N + 6]? = some (.cells #[.string x] 9 (0, 0))
  pr : w.heap[N + 7]? = some (.cells #[.bool st.pref] 4 (0, 0))
  hN : N = w0.heap.size
  hB : B ≤ N
  gl : Gl G B w
  rc : RecM H.recs N rn R w
  below : Below N w0 w
section
variable {G : GlP} {B : Nat} {H : Hd} {R : DataW Unit} {rn N n : Nat} {st : AfS} {w0 w w' : World}
theorem Af.lt (h : Af G B H R rn N n st w0 w) : N + 7 < w.heap.size := blk_lt h.pr
theorem Af.blw (h : Af G B H R rn N n st w0 w) (hb : Below w.heap.size w w') : Af G B H R rn N n st w0 w' := by
  obtain ⟨x4, h4⟩ := h.s4
  obtain ⟨x5, h5⟩ := h.s5
  obtain ⟨x6, h6⟩ := h.s6
  have hl := h.lt
  exact ⟨blk_below h.h hb, blk_below h.f hb, blk_below h.x hb, h.m.below hb, ⟨x4, blk_below h4 hb⟩, ⟨x5, blk_below h5 hb⟩, ⟨x6, blk_below h6 hb⟩, blk_below h.pr hb, h.hN, h.hB, h.gl.below (hb.mono (by have := h.hB; omega)), h.rc.below (hb.mono (by omega)), h.below.trans (hb.mono (by omega))⟩
theorem Af.drewN (h : Af G B H R rn N n st w0 w) (k : Nat) : Af G B H R rn N n st w0 (w.drewN k) := h.blw ⟨rfl, rfl, rfl, Nat.le_refl _, fun _ _ => rfl⟩
theorem Af.drew (h : Af G B H R rn N n st w0 w) : Af G B H R rn N n st w0 w.drew := h.drewN 1
theorem Af.mono (h : Af G B H R rn N n st w0 w) {n' : Nat} (hn : n ≤ n') : Af G B H R rn N n' st w0 w := ⟨h.h, h.f, h.x, h.m.mono hn, h.s4, h.s5, h.s6, h.pr, h.hN, h.hB, h.gl, h.rc, h.below⟩
theorem Af.hd (h : Af G B H R rn N n st w0 w) {j : Nat} {v : Value} (hv : H.cells[j]? = some v) : w.cell? ⟨N, j, none⟩ = some v := cell_blk h.h hv
theorem Af.cf (h : Af G B H R rn N n st w0 w) : w.cell? ⟨N + 1, 0, none⟩ = some (.int .i64 (fm st.u st.p st.g)) := cell_blk (C := [_]) h.f rfl
theorem Af.cx (h : Af G B H R rn N n st w0 w) : w.cell? ⟨N + 2, 0, none⟩ = some (.map (some (N + 3))) := cell_blk (C := [_]) h.x rfl
theorem Af.cp (h : Af G B H R rn N n st w0 w) : w.cell? ⟨N + 7, 0, none⟩ = some (.bool st.pref) := cell_blk (C := [_]) h.pr rfl
theorem Af.fz (h : Af G B H R rn N n st w0 w) : w.frozen? ⟨N + 1, 0, none⟩ = false ∧ w.frozen? ⟨N + 4, 0, none⟩ = false ∧ w.frozen? ⟨N + 5, 0, none⟩ = false ∧ w.frozen? ⟨N + 6, 0, none⟩ = false ∧ w.frozen? ⟨N + 7, 0, none⟩ = false := by
  obtain ⟨x4, h4⟩ := h.s4
  obtain ⟨x5, h5⟩ := h.s5
  obtain ⟨x6, h6⟩ := h.s6
  exact ⟨frozen_blk (C := [_]) h.f, frozen_blk (C := [_]) h4, frozen_blk (C := [_]) h5, frozen_blk (C := [_]) h6, frozen_blk (C := [_]) h.pr⟩
theorem Af.cs4 (h : Af G B H R rn N n st w0 w) : ∃ x, w.cell? ⟨N + 4, 0, none⟩ = some (.string x) := by
  obtain ⟨x, hx⟩ := h.s4; exact ⟨x, cell_blk (C := [_]) hx rfl⟩
theorem Af.cs5 (h : Af G B H R rn N n st w0 w) : ∃ x, w.cell? ⟨N + 5, 0, none⟩ = some (.string x) := by
  obtain ⟨x, hx⟩ := h.s5; exact ⟨x, cell_blk (C := [_]) hx rfl⟩
theorem Af.cs6 (h : Af G B H R rn N n st w0 w) : ∃ x, w.cell? ⟨N + 6, 0, none⟩ = some (.string x) := by
  obtain ⟨x, hx⟩ := h.s6; exact ⟨x, cell_blk (C := [_]) hx rfl⟩
theorem kset (w : World) (b j : Nat) (v : Value) : Kp (fun k => k = b) w (w.setCell ⟨b, j, none⟩ v) := (Kp.refl (fun k => k = b) w).setCell (p := ⟨b, j, none⟩) (.inl rfl) v
theorem set1 {b : Nat} {x v : Value} {T : TypeId} (ho : w.heap[b]? = some (.cells #[x] T (0, 0))) : (w.setCell ⟨b, 0, none⟩ v).heap[b]? = some (.cells #[v] T (0, 0)) := set_blk (C := [x]) ho
theorem Af.keep (h : Af G B H R rn N n st w0 w) {b : Nat} (hk : Kp (fun k => k = b) w w') (hb : N < b) : Gl G B w' ∧ RecM H.recs N rn R w' ∧ Below N w0 w' := by
  have hl := h.lt
  have hbl : Below N w w' := hk.to_below (by omega) (fun k e => by omega)
  exact ⟨h.gl.below (hbl.mono h.hB), h.rc.below hbl, h.below.trans hbl⟩
theorem Af.setF (h : Af G B H R rn N n st w0 w) (u p g : Bool) : Af G B H R rn N n ⟨u, p, g, st.pref, st.D⟩ w0 (w.setCell ⟨N + 1, 0, none⟩ (.int .i64 (fm u p g))) := by
  obtain ⟨x4, h4⟩ := h.s4
  obtain ⟨x5, h5⟩ := h.s5
  obtain ⟨x6, h6⟩ := h.s6
  have hk := kset w (N + 1) 0 (.int .i64 (fm u p g))
  obtain ⟨k1, k2, k3⟩ := h.keep hk (by omega)
  exact ⟨hk.get h.h (by omega), set1 h.f, hk.get h.x (by omega), h.m.kp hk (by omega), ⟨x4, hk.get h4 (by omega)⟩, ⟨x5, hk.get h5 (by omega)⟩, ⟨x6, hk.get h6 (by omega)⟩, hk.get h.pr (by omega), h.hN, h.hB, k1, k2, k3⟩
theorem Af.setP (h : Af G B H R rn N n st w0 w) (q : Bool) : Af G B H R rn N n ⟨st.u, st.p, st.g, q, st.D⟩ w0 (w.setCell ⟨N + 7, 0, none⟩ (.bool q)) := by
  obtain ⟨x4, h4⟩ := h.s4
  obtain ⟨x5, h5⟩ := h.s5
  obtain ⟨x6, h6⟩ := h.s6
  have hk := kset w (N + 7) 0 (.bool q)
  obtain ⟨k1, k2, k3⟩ := h.keep hk (by omega)
  exact ⟨hk.get h.h (by omega), hk.get h.f (by omega), hk.get h.x (by omega), h.m.kp hk (by omega), ⟨x4, hk.get h4 (by omega)⟩, ⟨x5, hk.get h5 (by omega)⟩, ⟨x6, hk.get h6 (by omega)⟩, set1 h.pr, h.hN, h.hB, k1, k2, k3⟩
theorem Af.set4 (h : Af G B H R rn N n st w0 w) (v : ByteArray) : Af G B H R rn N n st w0 (w.setCell ⟨N + 4, 0, none⟩ (.string v)) := by
  obtain ⟨x4, h4⟩ := h.s4
  obtain ⟨x5, h5⟩ := h.s5
  obtain ⟨x6, h6⟩ := h.s6
  have hk := kset w (N + 4) 0 (.string v)
  obtain ⟨k1, k2, k3⟩ := h.keep hk (by omega)
  exact ⟨hk.get h.h (by omega), hk.get h.f (by omega), hk.get h.x (by omega), h.m.kp hk (by omega), ⟨v, set1 h4⟩, ⟨x5, hk.get h5 (by omega)⟩, ⟨x6, hk.get h6 (by omega)⟩, hk.get h.pr (by omega), h.hN, h.hB, k1, k2, k3⟩
theorem Af.set5 (h : Af G B H R rn N n st w0 w) (v : ByteArray) : Af G B H R rn N n st w0 (w.setCell ⟨N + 5, 0, none⟩ (.string v)) := by
  obtain ⟨x4, h4⟩ := h.s4
  obtain ⟨x5, h5⟩ := h.s5
  obtain ⟨x6, h6⟩ := h.s6
  have hk := kset w (N + 5) 0 (.string v)
  obtain ⟨k1, k2, k3⟩ := h.keep hk (by omega)
  exact ⟨hk.get h.h (by omega), hk.get h.f (by omega), hk.get h.x (by omega), h.m.kp hk (by omega), ⟨x4, hk.get h4 (by omega)⟩, ⟨v, set1 h5⟩, ⟨x6, hk.get h6 (by omega)⟩, hk.get h.pr (by omega), h.hN, h.hB, k1, k2, k3⟩
theorem Af.set6 (h : Af G B H R rn N n st w0 w) (v : ByteArray) : Af G B H R rn N n st w0 (w.setCell ⟨N + 6, 0, none⟩ (.string v)) := by
  obtain ⟨x4, h4⟩ := h.s4
  obtain ⟨x5, h5⟩ := h.s5
  obtain ⟨x6, h6⟩ := h.s6
  have hk := kset w (N + 6) 0 (.string v)
  obtain ⟨k1, k2, k3⟩ := h.keep hk (by omega)
  exact ⟨hk.get h.h (by omega), hk.get h.f (by omega), hk.get h.x (by omega), h.m.kp hk (by omega), ⟨x4, hk.get h4 (by omega)⟩, ⟨x5, hk.get h5 (by omega)⟩, ⟨v, set1 h6⟩, hk.get h.pr (by omega), h.hN, h.hB, k1, k2, k3⟩
theorem Af.put (h : Af G B H R rn N n st w0 w) {n' : Nat} {D' : DataW Unit} (hm : SM w' (N + 3) n' D') (hg : w.grownBy w' (some (N + 3))) : Af G B H R rn N n' ⟨st.u, st.p, st.g, st.pref, D'⟩ w0 w' := by
  obtain ⟨x4, h4⟩ := h.s4
  obtain ⟨x5, h5⟩ := h.s5
  obtain ⟨x6, h6⟩ := h.s6
  have hk := Kp.of_grown hg
  obtain ⟨k1, k2, k3⟩ := h.keep hk (by omega)
  exact ⟨hk.get h.h (by omega), hk.get h.f (by omega), hk.get h.x (by omega), hm, ⟨x4, hk.get h4 (by omega)⟩, ⟨x5, hk.get h5 (by omega)⟩, ⟨x6, hk.get h6 (by omega)⟩, hk.get h.pr (by omega), h.hN, h.hB, k1, k2, k3⟩
end
theorem key9_inv {key : Value} {kl : Lit} (h : keyOf Tryz.prog 9 key = some kl) : ∃ s : ByteArray, key = .string s ∧ kl = sK s ∧ s.size ≤ maxLen := by
  cases key <;> simp [keyOf, Tryz.underlying9, mapKey] at h
  obtain ⟨hs, rfl⟩ := h
  exact ⟨_, rfl, rfl, hs⟩
def SR (w : World) (b r n : Nat) (D : DataW Unit) (left : Lit → Bool) (cnt : Nat) : Prop := w.ranges Tryz.prog 9 (plainElem Tryz.prog 9) b r n D left cnt
theorem atKey_of {D : DataW Unit} {k : List UInt8} {d : DataW Unit} (h : ∀ zd, D.atKey (.string k) zd = d) : d = sV (sget D k) → getS D k = some (sget D k) := by
  intro hd
  refine getS_some ?_
  exact has_true_of_atKey h
theorem wpList_next_ss (w : World) {ops : Array Oper} {rest : List Oper} {o : Oper} {a : Act} {Q : Exit → Act → World → Prop} (hg : o.guard = none) (it : Operand) (hop : o.op = Op.next it false)
    (b r n : Nat) (D : DataW Unit) (left : Lit → Bool) (cnt : Nat) (hit : a.eval it = .pointer (some ⟨r, 0, none⟩)) (h : SR w b r n D left cnt)
    (hDone : cnt = 0 → (∀ kl, left kl = false) → wpList Tryz.prog ops Q rest (a.put o.dst (.tuple #[.bool false])) w)
    (hMore : ∀ (x c : ByteArray) (w' : World) (cnt' : Nat), x.size ≤ maxLen → c.size ≤ maxLen → left (sK x) = true → getS D x.data.toList = some c.data.toList → SR w' b r n D (fun z => left z && !z.sameKey (sK x)) cnt' → cnt' < cnt →
      w.grownBy w' (some r) → w'.heap.size = w.heap.size → (Instr.entry (.pointer (some ⟨r, 0, none⟩))).run Tryz.prog w' = .ok (.tuple #[.string x, .string c]) w' → wpList Tryz.prog ops Q rest (a.put o.dst (.tuple #[.bool true, .string x, .string c])) w') :
    wpList Tryz.prog ops Q (o :: rest) a w :=
  wpList_next_ranges w hg it hop 9 law9 (plainElem Tryz.prog 9) Value.string Value.string (fun key kl hkey => by obtain ⟨x, rfl, _⟩ := key9_inv hkey; exact ⟨x, rfl⟩) (fun v y hv => by obtain ⟨c, rfl, _⟩ := plainElem_string_inv Tryz.underlying9 hv; exact ⟨c, rfl⟩)
    b r n D left cnt hit h hDone (fun x c kl y w' cnt' hkey hlk hv hat hrg hlt hgr hsz hen => by
      obtain ⟨x', ex, rfl, hwx⟩ := key9_inv hkey
      cases ex
      obtain ⟨c', ec, rfl, hwc⟩ := plainElem_string_inv Tryz.underlying9 hv
      cases ec
      have h1 : ∀ zd, D.atKey (.string x.data.toList) zd = sV c.data.toList := hat
      have h2 : sget D x.data.toList = c.data.toList := by unfold sget; rw [h1]; rfl
      refine hMore x c w' cnt' hwx hwc hlk ?_ hrg hlt hgr hsz hen
      rw [← h2]
      exact atKey_of h1 (by rw [h2]))
theorem wpList_range_ss (w : World) {ops : Array Oper} {rest : List Oper} {o : Oper} {a : Act} {Q : Exit → Act → World → Prop} (hg : o.guard = none) (m : Operand) (hop : o.op = Op.range 97 m) (b n : Nat) (D : DataW Unit)
    (hm : a.eval m = .map (some b)) (hown : SM w b n D)
    (hK : ∀ w', SR w' b w.heap.size n D (Maps.has D) (Maps.size D) → Below w.heap.size w w' → wpList Tryz.prog ops Q rest (a.put o.dst (.pointer (some ⟨w.heap.size, 0, none⟩))) w') :
    wpList Tryz.prog ops Q (o :: rest) a w :=
  wpList_range_own w hg m 97 hop 9 9 law9 Tryz.underlying97 (plainElem Tryz.prog 9) b n D hm hown (fun w' h1 h2 h3 => hK w' h1 ⟨h2.os, h2.tape, h2.output, h2.size, fun i hi => h2.block i hi (by simp)⟩)
section
variable {w w' : World} {b r n cnt : Nat} {D : DataW Unit} {left : Lit → Bool}
theorem SR.owns (h : SR w b r n D left cnt) : SM w b n D := World.ranges.owns h
theorem SR.left_eq (h : SR w b r n D left cnt) : w.rangeLeft b r = cnt := World.ranges.left_eq h
theorem SR.kp {S : Nat → Prop} (h : SR w b r n D left cnt) (hk : Kp S w w') (h1 : ¬ S b) (h2 : ¬ S r) : SR w' b r n D left cnt := by
  have l1 := h.owns.lt
  have l2 := World.ranges.lt h
  obtain ⟨es, clock, since, seen, c0, hb, F, hs, hD, hr, rest⟩ := h
  exact ⟨es, clock, since, seen, c0, (hk.block b l1 h1).trans hb, F, hs, hD, (hk.block r l2 h2).trans hr, rest⟩
theorem SR.below (h : SR w b r n D left cnt) (hb : Below w.heap.size w w') : SR w' b r n D left cnt := h.kp (Kp.of_below (S := fun _ => False) hb) id id
theorem SR.lt (h : SR w b r n D left cnt) : r < w.heap.size := World.ranges.lt h
end
theorem same_str (a b : List UInt8) : (Lit.string a).sameKey (.string b) = decide (a = b) := by
  by_cases h : a = b
  · subst h
    rw [WideAt.sameKey_self (sK_key a)]; simp
  · rw [sameKey_ne (by intro e; cases e; exact h rfl)]; simp [h]
/-- How far the records of R have been laid into D1. -/
def MergeInv (D1 R : DataW Unit) (keep : List UInt8 → Bool) (left : Lit → Bool) (D : DataW Unit) : Prop :=
  ∀ k, getS D k = match getS D1 k with | some v => some v | none => if left (.string k) then none else if keep k then getS R k else none
theorem merge_start (D1 R : DataW Unit) (keep : List UInt8 → Bool) : MergeInv D1 R keep (Maps.has R) D1 := by
  intro k
  cases h : getS D1 k with
  | some v => rfl
  | none =>
    cases h2 : Maps.has R (.string k) with
    | true => simp
    | false => simp [getS_none h2]
theorem merge_skip {D1 R D : DataW Unit} {keep : List UInt8 → Bool} {left : Lit → Bool} (h : MergeInv D1 R keep left D) (x : List UInt8) (hx : (getS D1 x).isSome = true ∨ keep x = false) : MergeInv D1 R keep (fun z => left z && !z.sameKey (.string x)) D := by
  intro k
  rw [h k]
  cases h1 : getS D1 k with
  | some v => rfl
  | none =>
    simp only [same_str]
    by_cases hk : k = x
    · subst hk
      rcases hx with hx | hx
      · rw [h1] at hx; cases hx
      · simp [hx]
    · simp [hk]
theorem merge_put {D1 R D : DataW Unit} {keep : List UInt8 → Bool} {left : Lit → Bool} (h : MergeInv D1 R keep left D) (hD : IsMap D) (x c : List UInt8) (h1 : getS D1 x = none) (h2 : keep x = true) (h3 : getS R x = some c) :
    MergeInv D1 R keep (fun z => left z && !z.sameKey (.string x)) (D.put (.string x) (sV c)) := by
  intro k
  rw [getS_put hD]
  by_cases hk : k = x
  · subst hk
    simp only [same_str]
    simp [h1, h2, h3]
  · rw [if_neg hk, h k]
    simp only [same_str]
    simp [hk]
theorem merge_there {D1 R D : DataW Unit} {keep : List UInt8 → Bool} {left : Lit → Bool} (h : MergeInv D1 R keep left D) (x : List UInt8) (hl : left (.string x) = true) : getS D x = getS D1 x := by
  rw [h x, hl]
  cases getS D1 x <;> rfl
/-- The map of the built-in keys. -/
theorem zero4 (w : World) : (zeroValue 4).run Tryz.prog w = .ok (.bool false) w := by kernel_rfl
theorem basic_at (k : List UInt8) : basicD.atKey (.string k) (.lit (.bool false)) = .lit (.bool (Maps.has basicD (.string k))) := by
  have key : ∀ es : List (Lit × DataW Unit), (∀ p ∈ es, p.2 = .lit (.bool true)) → (DataW.map es).atKey (.string k) (.lit (.bool false)) = .lit (.bool (Maps.has (.map es) (.string k))) := by
    intro es he
    cases hf : es.find? (fun p => p.1.sameKey (.string k)) with
    | none =>
      have h1 : Maps.has (.map es) (.string k) = false := by
        show es.any (fun p => p.1.sameKey (.string k)) = false
        rw [List.any_eq_false]
        exact fun p hp => by simpa using List.find?_eq_none.1 hf p hp
      rw [h1]
      simp only [DataW.atKey, hf]
    | some p =>
      have h1 : Maps.has (.map es) (.string k) = true := by
        show es.any (fun p => p.1.sameKey (.string k)) = true
        rw [List.any_eq_true]
        exact ⟨p, List.mem_of_find?_eq_some hf, List.find?_some (p := fun q : Lit × DataW Unit => q.1.sameKey (.string k)) hf⟩
      rw [h1]
      simp only [DataW.atKey, hf]
      exact he p (List.mem_of_find?_eq_some hf)
  refine key _ ?_
  intro p hp
  simp only [List.mem_cons, List.not_mem_nil, or_false] at hp
  rcases hp with rfl | rfl | rfl | rfl | rfl | rfl | rfl | rfl | rfl | rfl
  all_goals rfl
theorem plainElem_bool_inv {P : Program} {e : TypeId} (he : P.underlying e = some .bool) {v : Value} {z : DataW Unit × List MemPlace} (h : plainElem P e v = some z) : ∃ x, v = .bool x ∧ z = (.lit (.bool x), []) := by
  unfold plainElem at h
  rw [he] at h
  cases v <;> simp at h
  exact ⟨_, rfl, h.symm⟩
theorem Gl.basic {G : GlP} {B : Nat} {w : World} (h : Gl G B w) (s : ByteArray) (hs : s.size ≤ maxLen) : (Instr.lookup 153 (.map (some G.bkm)) (.string s) false).run Tryz.prog w = .ok (.bool (Maps.has basicD (sK s))) w := by
  obtain ⟨v, ps, h1, h2⟩ := World.ownsMap.lookup h.bk law9 Tryz.underlying153 (zero4 w) (plainElem_bool Tryz.underlying4 false) (key9 s hs)
  rw [show basicD.atKey (sK s) (.lit (.bool false)) = .lit (.bool (Maps.has basicD (sK s))) from basic_at _] at h2
  obtain ⟨x, rfl, hz⟩ := plainElem_bool_inv Tryz.underlying4 h2
  simp only [Prod.mk.injEq, DataW.lit.injEq, Lit.bool.injEq] at hz
  rw [h1, hz.1]
theorem wpList_basic (w : World) {ops : Array Oper} {rest : List Oper} {o : Oper} {a : Act} {Q : Exit → Act → World → Prop} {G : GlP} {B : Nat} (h : Gl G B w) (hg : o.guard = none) (m x : Operand) (hop : o.op = Op.lookup 153 m x false) (hm : a.eval m = .map (some G.bkm)) (s : ByteArray) (hx : a.eval x = .string s) (hs : s.size ≤ maxLen)
    (hK : wpList Tryz.prog ops Q rest (a.put o.dst (.bool (Maps.has basicD (sK s)))) w) : wpList Tryz.prog ops Q (o :: rest) a w := by
  refine wpList_plain hg fun K' hK' => ?_
  have hrun := h.basic s hs
  unfold Oper.wp
  simp [execOp, hop, hm, hx, hrun, Result.andThen]
  exact hK' _ _ hK
theorem wpList_lookup_sm (w : World) {ops : Array Oper} {rest : List Oper} {o : Oper} {a : Act} {Q : Exit → Act → World → Prop} (hg : o.guard = none) (m x : Operand) (hop : o.op = Op.lookup 97 m x true)
    (b n : Nat) (D : DataW Unit) (h : SM w b n D) (hm : a.eval m = .map (some b)) (s : ByteArray) (hx : a.eval x = .string s) (hs : s.size ≤ maxLen)
    (hK : ∀ y : ByteArray, y.size ≤ maxLen → wpList Tryz.prog ops Q rest (a.put o.dst (.tuple #[.string y, .bool (Maps.has D (sK s))])) w) : wpList Tryz.prog ops Q (o :: rest) a w := by
  refine wpList_plain hg fun K' hK' => ?_
  obtain ⟨y, hrun, h1, h2⟩ := h.look s hs
  unfold Oper.wp
  simp [execOp, hop, hm, hx, hrun, Result.andThen]
  exact hK' _ _ (hK y h2)
/-- No text in the map is long. -/
def Small (D : DataW Unit) : Prop := ∀ k v, getS D k = some v → k.length ≤ 1073741824 ∧ v.length ≤ 1073741824
theorem Small.empty : Small (.map []) := by intro k v h; cases h
theorem Small.put {D : DataW Unit} (h : Small D) (hD : IsMap D) (k v : List UInt8) (hk : k.length ≤ 1073741824) (hv : v.length ≤ 1073741824) : Small (D.put (.string k) (sV v)) := by
  intro k' v' h'
  rw [getS_put hD] at h'
  by_cases e : k' = k
  · subst e
    rw [if_pos rfl] at h'
    cases h'
    exact ⟨hk, hv⟩
  · rw [if_neg e] at h'
    exact h k' v' h'
theorem Small.merge {D1 R D : DataW Unit} {keep : List UInt8 → Bool} {left : Lit → Bool} (h1 : Small D1) (h2 : Small R) (h : MergeInv D1 R keep left D) : Small D := by
  intro k v hv
  rw [h k] at hv
  cases e : getS D1 k with
  | some x => rw [e] at hv; cases hv; exact h1 k _ e
  | none =>
    rw [e] at hv
    simp only at hv
    split at hv
    · cases hv
    · split at hv
      · exact h2 k v hv
      · cases hv
end Go.Proofs.YtpkilegnokajmaaGreatDoor
