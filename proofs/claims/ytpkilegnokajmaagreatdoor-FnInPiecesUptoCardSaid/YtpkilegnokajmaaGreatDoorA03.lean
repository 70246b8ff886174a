/- DERIVED: THE SHELF's CONTRACTS AT THIS DUMP, IN PLAIN WORDS (tools/lay-plain.mjs out of 'TryzShelf.lean', which tools/lay-shelf.mjs wrote): THE SAME DECLARATIONS UNDER THE SAME NAMES: 'import', 'namespace', 'open', 'def', 'theorem' AND NOTHING ELSE: no command of the shelf's: FOR A HAND-IN. Each laying: the table of numbers ('.._ren') and one theorem, a field a fact of the dump's own or the kernel's comparison; each contract: ONE APPLICATION. -/
import Derived.Shelf.Strings.Builder1
import Derived.Shelf.Strings.Builder2
import Derived.Shelf.Small.Bits
import Derived.Shelf.Strings.BuilderF
import Derived.Shelf.Strings.BuilderK
import Derived.Shelf.Strings.Builder2Cap
import Derived.Shelf.Strconv.Itoa0
import Derived.Shelf.Strconv.Itoa1
import Derived.Shelf.LaysM
import Derived.Shelf.Strconv.Itoa2
import Derived.Shelf.Strconv.Itoa3
import Derived.Shelf.Strconv.Itoa4
import Derived.Shelf.Bytes.Len
import Derived.Shelf.Bytes.TryGrow
import Derived.Shelf.Bytes.GrowSliceCatch
import Derived.Shelf.Bytes.GrowSlice
import Derived.Shelf.Bytes.GrowRow0
import Derived.Shelf.Bytes.GrowRow
import Derived.Shelf.Bytes.GrowNil
import Derived.Shelf.Bytes.Grow
import Derived.Shelf.Bytes.WriteString
import Derived.Shelf.Bytes.Reset
import Derived.Shelf.Bytes.Write
import Derived.Shelf.Bytes.Bytes
import Derived.Shelf.Bytes.GrowRow0Kept
import Derived.Shelf.Bytes.GrowRowKept
import Derived.Shelf.Bytes.GrowNilKept
import Derived.Shelf.Bytes.GrowKept
import Derived.Shelf.Bytes.WriteStringKept
import Derived.Shelf.Bytes.ResetKept
import Derived.Shelf.Strings.LastIndex
import Derived.Shelf.Bytes.WriteKept
import Derived.Shelf.Strings.LastIndexAll
import Derived.Shelf.Bytes.BufferK
import Derived.Shelf.Bytes.GrowRow0Own
import Derived.Shelf.Bytes.GrowRowOwn
import Derived.Shelf.Bytes.GrowNilOwn
import Derived.Shelf.Bytes.GrowOwn
import Derived.Shelf.Bytes.WriteAny
import Derived.Shelf.Bytes.LenAt
import Derived.Shelf.Bytes.TryGrowAt
import Derived.Shelf.Bytes.GrowRow0At
import Derived.Shelf.Bytes.GrowRowAt
import Derived.Shelf.Bytes.GrowNilAt
import Derived.Shelf.Bytes.GrowAt
import Derived.Shelf.Bytes.WriteStringAt
import Derived.Shelf.Bytes.WriteAt
import Derived.Shelf.Strings.Prefix
import Derived.Shelf.Bits.Mul64
import Derived.Shelf.Strings.Repeat
import Derived.Shelf.Strings.BuilderCap
import Derived.Ground.SlbCloneProg
import Derived.Shelf.Bytes.SlClone
import Derived.Ground.PaProg
import Derived.Shelf.Path.Small
import Derived.Shelf.Path.LazyBuf
import Derived.Shelf.Path.CleanRel
import Derived.Shelf.Path.CleanAbs
import Derived.Shelf.Path.Clean
import Derived.Shelf.Path.Join
import Derived.Shelf.Path.CleanRules
import Derived.Shelf.Path.JoinRules
import Derived.BigFrameIn
import Derived.BigGuardIn
import Derived.BigQuiet
import Derived.BigRegionIn
import Derived.Deep.Light
import Derived.LoopIn
import Derived.OwnWalkIn
import Derived.RegionIn
import Derived.Shelf.AbstractIn
import Derived.Shelf.RegionOpen
import Derived.Sort.AtCall
import Derived.Sort.AtCallIn
import Derived.Sort.BigQuietIn
import Derived.Sort.CutIn
import Derived.Sort.LoopGhostIn
import Derived.Sort.QuietIn
import Derived.Sort.QuietTacIn
import Derived.Stop.RegionWithIn
import Derived.TacticsInMore
import Derived.Test.YtpkilegnokajmaaGreatDoorProg
set_option linter.unusedVariables false
set_option linter.unusedSimpArgs false
set_option linter.unnecessarySimpa false
set_option linter.unusedSectionVars false
namespace Go.Proofs
open Go.Shelf
def Tryz.lays169_ren : Go.Shelf.Ren := ⟨fun | 169 => 107 | n => n, fun | 70 => 160 | 9 => 9 | 0 => 0 | 72 => 162 | 37 => 25 | 127 => 207 | 3 => 3 | 5 => 5 | n => n, fun | n => n⟩
theorem Tryz.lays169 : Go.Proofs.Lays.n169 Tryz.prog Tryz.lays169_ren := {
  mixed := by kernel_rfl
  f169 := Tryz.func107.trans (congrArg some (by kernel_rfl))
  t0 := Tryz.underlying0
  a0 := Tryz.isAgg0
  z0 := Tryz.sizeOf0
  v0 := Tryz.zeroValue0
  t3 := Tryz.underlying3
  a3 := Tryz.isAgg3
  z3 := Tryz.sizeOf3
  v3 := Tryz.zeroValue3
  t9 := Tryz.underlying9
  a9 := Tryz.isAgg9
  z9 := Tryz.sizeOf9
  v9 := Tryz.zeroValue9
  t37 := Tryz.underlying25
  a37 := Tryz.isAgg25
  z37 := Tryz.sizeOf25
  v37 := Tryz.zeroValue25
  t70 := Tryz.underlying160
  a70 := Tryz.isAgg160
  z70 := Tryz.sizeOf160
  v70 := Tryz.zeroValue160
  t72 := Tryz.underlying162
  a72 := Tryz.isAgg162
  z72 := Tryz.sizeOf162
  v72 := Tryz.zeroValue162
  t127 := Tryz.underlying207
  a127 := Tryz.isAgg207
  z127 := Tryz.sizeOf207
  v127 := Tryz.zeroValue207 }
theorem Tryz.Builder_Extra_169 : Builder.Extra Tryz.prog Tryz.lays169_ren := {
  sizeBuilder := by kernel_rfl
  liesBuilder := by kernel_rfl
  t5 := Tryz.underlying5
  a5 := Tryz.isAgg5
  z5 := Tryz.sizeOf5
  v5 := Tryz.zeroValue5
  infoByte := by kernel_rfl
  cellsByte := by kernel_rfl
  sizeByte := by kernel_rfl
  neB5 := by decide }
open Go.RowKit in
/-- (*strings.Builder).String: "String returns the accumulated string.": WHATEVER THE BUILDER HOLDS; THE FORM '_k': OVER 'Lib.IsBuilderF' (a builder that 'String()' may have read), AND WITH THE FRAME THAT REACHES ABOVE THE BUILDER: 'Lib.OthersKept': every block that is not b and is no row of uint8's stands as it stood: the iterator of a range among them. (LAID: no walk: one application.) -/
theorem Tryz.Builder_String_any_k (B b : Nat) (l : List UInt8) (w : World) (h : Lib.IsBuilderF 162 5 B b (Lib.byteCells l) w) (hBw : B ≤ w.heap.size) :
    Calls Tryz.prog 107 #[.pointer (some ⟨b, 0, none⟩)] w fun e w' => e = .returned (.string ⟨l.toArray⟩) ∧ (Lib.IsBuilderF 162 5 B b (Lib.byteCells l) w' ∧ Below B w w' ∧ Lib.OthersKept 5 (some b) w w') := Any.Builder_String_any_k Tryz.lays169 Tryz.Builder_Extra_169 B b l w h hBw
def Tryz.laysM171_ren : Go.Shelf.Ren := ⟨fun | 171 => 147 | 243 => 165 | 246 => 125 | 283 => 155 | 284 => 156 | 285 => 157 | 286 => 158 | 129 => 172 | 317 => 171 | 318 => 173 | 319 => 174 | 320 => 175 | 337 => 189 | 338 => 190 | n => n, fun | 3 => 3 | 9 => 9 | 2 => 2 | 4 => 4 | 171 => 210 | 0 => 0 | 53 => 94 | 37 => 25 | 5 => 5 | 173 => 213 | 212 => 234 | 51 => 230 | 20 => 20 | 213 => 235 | 46 => 190 | 232 => 257 | 233 => 258 | n => n, fun | 17 => 9 | 18 => 10 | 19 => 11 | n => n⟩
theorem Tryz.laysM171 : Go.Proofs.LaysM.n171 Tryz.prog Tryz.laysM171_ren := {
  mixed := by kernel_rfl
  f129 := Tryz.func172.trans (congrArg some (by kernel_rfl))
  f171 := Tryz.func147.trans (congrArg some (by kernel_rfl))
  f243 := Tryz.func165.trans (congrArg some (by kernel_rfl))
  f246 := Tryz.func125.trans (congrArg some (by kernel_rfl))
  f283 := Tryz.func155.trans (congrArg some (by kernel_rfl))
  f284 := Tryz.func156.trans (congrArg some (by kernel_rfl))
  f285 := Tryz.func157.trans (congrArg some (by kernel_rfl))
  f286 := Tryz.func158.trans (congrArg some (by kernel_rfl))
  f317 := Tryz.func171.trans (congrArg some (by kernel_rfl))
  f318 := Tryz.func173.trans (congrArg some (by kernel_rfl))
  f319 := Tryz.func174.trans (congrArg some (by kernel_rfl))
  f320 := Tryz.func175.trans (congrArg some (by kernel_rfl))
  f337 := Tryz.func189.trans (congrArg some (by kernel_rfl))
  f338 := Tryz.func190.trans (congrArg some (by kernel_rfl))
  t0 := Tryz.underlying0
  a0 := Tryz.isAgg0
  z0 := Tryz.sizeOf0
  v0 := Tryz.zeroValue0
  t2 := Tryz.underlying2
  a2 := Tryz.isAgg2
  z2 := Tryz.sizeOf2
  v2 := Tryz.zeroValue2
  t3 := Tryz.underlying3
  a3 := Tryz.isAgg3
  z3 := Tryz.sizeOf3
  v3 := Tryz.zeroValue3
  t4 := Tryz.underlying4
  a4 := Tryz.isAgg4
  z4 := Tryz.sizeOf4
  v4 := Tryz.zeroValue4
  t5 := Tryz.underlying5
  a5 := Tryz.isAgg5
  z5 := Tryz.sizeOf5
  v5 := Tryz.zeroValue5
  t9 := Tryz.underlying9
  a9 := Tryz.isAgg9
  z9 := Tryz.sizeOf9
  v9 := Tryz.zeroValue9
  t20 := Tryz.underlying20
  a20 := Tryz.isAgg20
  z20 := Tryz.sizeOf20
  v20 := Tryz.zeroValue20
  t37 := Tryz.underlying25
  a37 := Tryz.isAgg25
  z37 := Tryz.sizeOf25
  v37 := Tryz.zeroValue25
  t46 := Tryz.underlying190
  a46 := Tryz.isAgg190
  z46 := Tryz.sizeOf190
  v46 := Tryz.zeroValue190
  t51 := Tryz.underlying230
  a51 := Tryz.isAgg230
  z51 := Tryz.sizeOf230
  v51 := Tryz.zeroValue230
  t53 := Tryz.underlying94
  a53 := Tryz.isAgg94
  z53 := Tryz.sizeOf94
  v53 := Tryz.zeroValue94
  t171 := Tryz.underlying210
  a171 := Tryz.isAgg210
  z171 := Tryz.sizeOf210
  v171 := Tryz.zeroValue210
  t173 := Tryz.underlying213
  a173 := Tryz.isAgg213
  z173 := Tryz.sizeOf213
  v173 := Tryz.zeroValue213
  t212 := Tryz.underlying234
  a212 := Tryz.isAgg234
  z212 := Tryz.sizeOf234
  v212 := Tryz.zeroValue234
  t213 := Tryz.underlying235
  a213 := Tryz.isAgg235
  z213 := Tryz.sizeOf235
  t232 := Tryz.underlying257
  a232 := Tryz.isAgg257
  z232 := Tryz.sizeOf257
  v232 := Tryz.zeroValue257
  t233 := Tryz.underlying258
  a233 := Tryz.isAgg258
  z233 := Tryz.sizeOf258
  v233 := Tryz.zeroValue258
  g17 := by kernel_rfl
  g18 := by kernel_rfl
  g19 := by kernel_rfl
  i0 := by kernel_rfl
  i2 := by kernel_rfl
  i3 := by kernel_rfl
  i4 := by kernel_rfl
  i5 := by kernel_rfl
  i9 := by kernel_rfl
  i20 := by kernel_rfl
  i37 := by kernel_rfl
  i46 := by kernel_rfl
  i51 := by kernel_rfl
  i53 := by kernel_rfl
  i171 := by kernel_rfl
  i173 := by kernel_rfl
  i212 := by kernel_rfl
  i232 := by kernel_rfl
  i233 := by kernel_rfl
  m17 := by kernel_rfl
  m18 := by kernel_rfl
  m19 := by kernel_rfl }
open Go.RowKit Go.Sort Go.Lib in
/-- strconv.Itoa: "Itoa is equivalent to FormatInt(int64(i), 10).": i's DECIMAL NUMERAL ('Lib.itoa': a '-' where i is negative, then the digits), FOR EVERY int. The world behind the call: the world before it, new blocks behind the heap (the library's 'var a [24]byte'), draws. (LAID: no walk: one application.) -/
theorem Tryz.strconv_Itoa (n : Int) (h0 : -9223372036854775808 ≤ n) (h1 : n ≤ 9223372036854775807) (w : World) (htab : Lib.TabIs Tryz.prog w "internal/strconv.uint64pow10" .u64 Lib.pow10Tab) :
    Calls Tryz.prog 147 #[.int .i64 n] w fun e w' => e = .returned (.string ⟨(Lib.itoa n).toArray⟩) ∧ ∃ k os, w' = grow (w.drewN k) os := Any.strconv_Itoa Tryz.laysM171 n h0 h1 w htab
def Tryz.laysM173_ren : Go.Shelf.Ren := ⟨fun | 173 => 67 | 246 => 125 | 283 => 155 | 284 => 156 | 285 => 157 | 286 => 158 | 129 => 172 | 317 => 171 | 318 => 173 | 319 => 174 | 320 => 175 | 337 => 189 | 338 => 190 | n => n, fun | 2 => 2 | 3 => 3 | 9 => 9 | 4 => 4 | 171 => 210 | 0 => 0 | 53 => 94 | 37 => 25 | 5 => 5 | 173 => 213 | 212 => 234 | 51 => 230 | 20 => 20 | 213 => 235 | 46 => 190 | 232 => 257 | 233 => 258 | n => n, fun | 17 => 9 | 18 => 10 | 19 => 11 | n => n⟩
theorem Tryz.laysM173 : Go.Proofs.LaysM.n173 Tryz.prog Tryz.laysM173_ren := {
  mixed := by kernel_rfl
  f129 := Tryz.func172.trans (congrArg some (by kernel_rfl))
  f173 := Tryz.func67.trans (congrArg some (by kernel_rfl))
  f246 := Tryz.func125.trans (congrArg some (by kernel_rfl))
  f283 := Tryz.func155.trans (congrArg some (by kernel_rfl))
  f284 := Tryz.func156.trans (congrArg some (by kernel_rfl))
  f285 := Tryz.func157.trans (congrArg some (by kernel_rfl))
  f286 := Tryz.func158.trans (congrArg some (by kernel_rfl))
  f317 := Tryz.func171.trans (congrArg some (by kernel_rfl))
  f318 := Tryz.func173.trans (congrArg some (by kernel_rfl))
  f319 := Tryz.func174.trans (congrArg some (by kernel_rfl))
  f320 := Tryz.func175.trans (congrArg some (by kernel_rfl))
  f337 := Tryz.func189.trans (congrArg some (by kernel_rfl))
  f338 := Tryz.func190.trans (congrArg some (by kernel_rfl))
  t0 := Tryz.underlying0
  a0 := Tryz.isAgg0
  z0 := Tryz.sizeOf0
  v0 := Tryz.zeroValue0
  t2 := Tryz.underlying2
  a2 := Tryz.isAgg2
  z2 := Tryz.sizeOf2
  v2 := Tryz.zeroValue2
  t3 := Tryz.underlying3
  a3 := Tryz.isAgg3
  z3 := Tryz.sizeOf3
  v3 := Tryz.zeroValue3
  t4 := Tryz.underlying4
  a4 := Tryz.isAgg4
  z4 := Tryz.sizeOf4
  v4 := Tryz.zeroValue4
  t5 := Tryz.underlying5
  a5 := Tryz.isAgg5
  z5 := Tryz.sizeOf5
  v5 := Tryz.zeroValue5
  t9 := Tryz.underlying9
  a9 := Tryz.isAgg9
  z9 := Tryz.sizeOf9
  v9 := Tryz.zeroValue9
  t20 := Tryz.underlying20
  a20 := Tryz.isAgg20
  z20 := Tryz.sizeOf20
  v20 := Tryz.zeroValue20
  t37 := Tryz.underlying25
  a37 := Tryz.isAgg25
  z37 := Tryz.sizeOf25
  v37 := Tryz.zeroValue25
  t46 := Tryz.underlying190
  a46 := Tryz.isAgg190
  z46 := Tryz.sizeOf190
  v46 := Tryz.zeroValue190
  t51 := Tryz.underlying230
  a51 := Tryz.isAgg230
  z51 := Tryz.sizeOf230
  v51 := Tryz.zeroValue230
  t53 := Tryz.underlying94
  a53 := Tryz.isAgg94
  z53 := Tryz.sizeOf94
  v53 := Tryz.zeroValue94
  t171 := Tryz.underlying210
  a171 := Tryz.isAgg210
  z171 := Tryz.sizeOf210
  v171 := Tryz.zeroValue210
  t173 := Tryz.underlying213
  a173 := Tryz.isAgg213
  z173 := Tryz.sizeOf213
  v173 := Tryz.zeroValue213
  t212 := Tryz.underlying234
  a212 := Tryz.isAgg234
  z212 := Tryz.sizeOf234
  v212 := Tryz.zeroValue234
  t213 := Tryz.underlying235
  a213 := Tryz.isAgg235
  z213 := Tryz.sizeOf235
  t232 := Tryz.underlying257
  a232 := Tryz.isAgg257
  z232 := Tryz.sizeOf257
  v232 := Tryz.zeroValue257
  t233 := Tryz.underlying258
  a233 := Tryz.isAgg258
  z233 := Tryz.sizeOf258
  v233 := Tryz.zeroValue258
  g17 := by kernel_rfl
  g18 := by kernel_rfl
  g19 := by kernel_rfl
  i0 := by kernel_rfl
  i2 := by kernel_rfl
  i3 := by kernel_rfl
  i4 := by kernel_rfl
  i5 := by kernel_rfl
  i9 := by kernel_rfl
  i20 := by kernel_rfl
  i37 := by kernel_rfl
  i46 := by kernel_rfl
  i51 := by kernel_rfl
  i53 := by kernel_rfl
  i171 := by kernel_rfl
  i173 := by kernel_rfl
  i212 := by kernel_rfl
  i232 := by kernel_rfl
  i233 := by kernel_rfl
  m17 := by kernel_rfl
  m18 := by kernel_rfl
  m19 := by kernel_rfl }
open Go.RowKit Go.Sort Go.Lib in
/-- strconv.FormatInt: "FormatInt returns the string representation of i in the given base": AT BASE 10: i's decimal numeral, for every int64. (LAID: no walk: one application.) -/
theorem Tryz.strconv_FormatInt_10 (n : Int) (h0 : -9223372036854775808 ≤ n) (h1 : n ≤ 9223372036854775807) (w : World) (htab : Lib.TabIs Tryz.prog w "internal/strconv.uint64pow10" .u64 Lib.pow10Tab) :
    Calls Tryz.prog 67 #[.int .i64 n, .int .i64 10] w fun e w' => e = .returned (.string ⟨(Lib.itoa n).toArray⟩) ∧ ∃ k os, w' = grow (w.drewN k) os := Any.strconv_FormatInt_10 Tryz.laysM173 n h0 h1 w htab
def Tryz.laysM181_ren : Go.Shelf.Ren := ⟨fun | 181 => 24 | n => n, fun | 130 => 65 | 3 => 3 | 0 => 0 | 93 => 62 | 37 => 25 | 91 => 60 | 5 => 5 | n => n, fun | n => n⟩
theorem Tryz.laysM181 : Go.Proofs.LaysM.n181 Tryz.prog Tryz.laysM181_ren := {
  mixed := by kernel_rfl
  f181 := Tryz.func24.trans (congrArg some (by kernel_rfl))
  t0 := Tryz.underlying0
  a0 := Tryz.isAgg0
  z0 := Tryz.sizeOf0
  v0 := Tryz.zeroValue0
  t3 := Tryz.underlying3
  a3 := Tryz.isAgg3
  z3 := Tryz.sizeOf3
  v3 := Tryz.zeroValue3
  t37 := Tryz.underlying25
  a37 := Tryz.isAgg25
  z37 := Tryz.sizeOf25
  v37 := Tryz.zeroValue25
  t93 := Tryz.underlying62
  a93 := Tryz.isAgg62
  z93 := Tryz.sizeOf62
  v93 := Tryz.zeroValue62
  t130 := Tryz.underlying65
  a130 := Tryz.isAgg65
  z130 := Tryz.sizeOf65
  v130 := Tryz.zeroValue65
  t5 := Tryz.underlying5
  a5 := Tryz.isAgg5
  z5 := Tryz.sizeOf5
  v5 := Tryz.zeroValue5
  t91 := Tryz.underlying60
  a91 := Tryz.isAgg60
  z91 := Tryz.sizeOf60
  v91 := Tryz.zeroValue60
  i0 := by kernel_rfl
  i3 := by kernel_rfl
  i5 := by kernel_rfl
  i37 := by kernel_rfl
  i91 := by kernel_rfl
  i93 := by kernel_rfl
  i130 := by kernel_rfl }
open Go.RowKit in
/-- (*bytes.Buffer).Len: "Len returns the number of bytes of the unread portion of the buffer; b.Len() == len(b.Bytes()).": the world is as it was but for the count of draws (the statement has two reads: its order is drawn). (LAID: no walk: one application.) -/
theorem Tryz.Buffer_Len (B b : Nat) (bs : List Value) (w : World) (h : Lib.IsBuffer 62 5 B b bs w) :
    Calls Tryz.prog 24 #[.pointer (some ⟨b, 0, none⟩)] w fun e w' => e = .returned (.int .i64 bs.length) ∧ ∃ n, w' = w.drewN n := Any.Buffer_Len Tryz.laysM181 B b bs w h
def Tryz.laysM180_ren : Go.Shelf.Ren := ⟨fun | 180 => 216 | 251 => 218 | 252 => 219 | 181 => 24 | 184 => 214 | 290 => 220 | 324 => 221 | n => n, fun | 130 => 65 | 37 => 25 | 3 => 3 | 75 => 67 | 0 => 0 | 93 => 62 | 91 => 60 | 131 => 246 | 4 => 4 | 20 => 20 | 5 => 5 | 80 => 173 | 9 => 9 | n => n, fun | 14 => 12 | n => n⟩
theorem Tryz.laysM180 : Go.Proofs.LaysM.n180 Tryz.prog Tryz.laysM180_ren := {
  mixed := by kernel_rfl
  f180 := Tryz.func216.trans (congrArg some (by kernel_rfl))
  f181 := Tryz.func24.trans (congrArg some (by kernel_rfl))
  f184 := Tryz.func214.trans (congrArg some (by kernel_rfl))
  f251 := Tryz.func218.trans (congrArg some (by kernel_rfl))
  f252 := Tryz.func219.trans (congrArg some (by kernel_rfl))
  f290 := Tryz.func220.trans (congrArg some (by kernel_rfl))
  f324 := Tryz.func221.trans (congrArg some (by kernel_rfl))
  t0 := Tryz.underlying0
  a0 := Tryz.isAgg0
  z0 := Tryz.sizeOf0
  v0 := Tryz.zeroValue0
  t3 := Tryz.underlying3
  a3 := Tryz.isAgg3
  z3 := Tryz.sizeOf3
  v3 := Tryz.zeroValue3
  t4 := Tryz.underlying4
  a4 := Tryz.isAgg4
  z4 := Tryz.sizeOf4
  v4 := Tryz.zeroValue4
  t20 := Tryz.underlying20
  a20 := Tryz.isAgg20
  z20 := Tryz.sizeOf20
  v20 := Tryz.zeroValue20
  t37 := Tryz.underlying25
  a37 := Tryz.isAgg25
  z37 := Tryz.sizeOf25
  v37 := Tryz.zeroValue25
  t75 := Tryz.underlying67
  a75 := Tryz.isAgg67
  z75 := Tryz.sizeOf67
  v75 := Tryz.zeroValue67
  t91 := Tryz.underlying60
  a91 := Tryz.isAgg60
  z91 := Tryz.sizeOf60
  v91 := Tryz.zeroValue60
  t93 := Tryz.underlying62
  a93 := Tryz.isAgg62
  z93 := Tryz.sizeOf62
  v93 := Tryz.zeroValue62
  t130 := Tryz.underlying65
  a130 := Tryz.isAgg65
  z130 := Tryz.sizeOf65
  v130 := Tryz.zeroValue65
  t131 := Tryz.underlying246
  a131 := Tryz.isAgg246
  z131 := Tryz.sizeOf246
  v131 := Tryz.zeroValue246
  g14 := by kernel_rfl
  t5 := Tryz.underlying5
  a5 := Tryz.isAgg5
  z5 := Tryz.sizeOf5
  v5 := Tryz.zeroValue5
  t9 := Tryz.underlying9
  a9 := Tryz.isAgg9
  z9 := Tryz.sizeOf9
  v9 := Tryz.zeroValue9
  t80 := Tryz.underlying173
  a80 := Tryz.isAgg173
  z80 := Tryz.sizeOf173
  v80 := Tryz.zeroValue173
  i0 := by kernel_rfl
  i3 := by kernel_rfl
  i4 := by kernel_rfl
  i5 := by kernel_rfl
  i9 := by kernel_rfl
  i20 := by kernel_rfl
  i37 := by kernel_rfl
  i75 := by kernel_rfl
  i80 := by kernel_rfl
  i91 := by kernel_rfl
  i93 := by kernel_rfl
  i130 := by kernel_rfl
  i131 := by kernel_rfl
  m14 := by kernel_rfl }
def Tryz.laysM183_ren : Go.Shelf.Ren := ⟨fun | 183 => 25 | n => n, fun | 130 => 65 | 37 => 25 | 0 => 0 | 93 => 62 | 3 => 3 | 5 => 5 | 91 => 60 | n => n, fun | n => n⟩
theorem Tryz.laysM183 : Go.Proofs.LaysM.n183 Tryz.prog Tryz.laysM183_ren := {
  mixed := by kernel_rfl
  f183 := Tryz.func25.trans (congrArg some (by kernel_rfl))
  t0 := Tryz.underlying0
  a0 := Tryz.isAgg0
  z0 := Tryz.sizeOf0
  v0 := Tryz.zeroValue0
  t3 := Tryz.underlying3
  a3 := Tryz.isAgg3
  z3 := Tryz.sizeOf3
  v3 := Tryz.zeroValue3
  t37 := Tryz.underlying25
  a37 := Tryz.isAgg25
  z37 := Tryz.sizeOf25
  v37 := Tryz.zeroValue25
  t93 := Tryz.underlying62
  a93 := Tryz.isAgg62
  z93 := Tryz.sizeOf62
  v93 := Tryz.zeroValue62
  t130 := Tryz.underlying65
  a130 := Tryz.isAgg65
  z130 := Tryz.sizeOf65
  v130 := Tryz.zeroValue65
  t5 := Tryz.underlying5
  a5 := Tryz.isAgg5
  z5 := Tryz.sizeOf5
  v5 := Tryz.zeroValue5
  t91 := Tryz.underlying60
  a91 := Tryz.isAgg60
  z91 := Tryz.sizeOf60
  v91 := Tryz.zeroValue60
  i0 := by kernel_rfl
  i3 := by kernel_rfl
  i5 := by kernel_rfl
  i37 := by kernel_rfl
  i91 := by kernel_rfl
  i93 := by kernel_rfl
  i130 := by kernel_rfl }
open Go.RowKit in
/-- (*bytes.Buffer).Bytes: "Bytes returns a slice of length b.Len() holding the unread portion of the buffer. .. The slice aliases the buffer content at least until the next buffer modification": A SLICE THAT OWNS THE CELLS bs ('World.ownsRow': nil where nothing was ever written). The world is as it was but for the count of draws. (LAID: no walk: one application.) -/
theorem Tryz.Buffer_Bytes (B b : Nat) (bs : List Value) (w : World) (h : Lib.IsBuffer 62 5 B b bs w) :
    Calls Tryz.prog 25 #[.pointer (some ⟨b, 0, none⟩)] w fun e w' => ∃ v, e = .returned v ∧ w'.ownsRow B 5 1 v bs.length bs ∧ ∃ n, w' = w.drewN n := Any.Buffer_Bytes Tryz.laysM183 B b bs w h
def Tryz.lays148_ren : Go.Shelf.Ren := ⟨fun | 148 => 124 | 222 => 149 | 223 => 154 | 269 => 170 | n => n, fun | 9 => 9 | 3 => 3 | 4 => 4 | 5 => 5 | 146 => 231 | 51 => 230 | 46 => 190 | n => n, fun | n => n⟩
theorem Tryz.lays148 : Go.Proofs.Lays.n148 Tryz.prog Tryz.lays148_ren := {
  mixed := by kernel_rfl
  f148 := Tryz.func124.trans (congrArg some (by kernel_rfl))
  f222 := Tryz.func149.trans (congrArg some (by kernel_rfl))
  f223 := Tryz.func154.trans (congrArg some (by kernel_rfl))
  f269 := Tryz.func170.trans (congrArg some (by kernel_rfl))
  t3 := Tryz.underlying3
  a3 := Tryz.isAgg3
  z3 := Tryz.sizeOf3
  v3 := Tryz.zeroValue3
  t4 := Tryz.underlying4
  a4 := Tryz.isAgg4
  z4 := Tryz.sizeOf4
  v4 := Tryz.zeroValue4
  t5 := Tryz.underlying5
  a5 := Tryz.isAgg5
  z5 := Tryz.sizeOf5
  v5 := Tryz.zeroValue5
  t9 := Tryz.underlying9
  a9 := Tryz.isAgg9
  z9 := Tryz.sizeOf9
  v9 := Tryz.zeroValue9
  t46 := Tryz.underlying190
  a46 := Tryz.isAgg190
  z46 := Tryz.sizeOf190
  v46 := Tryz.zeroValue190
  t51 := Tryz.underlying230
  a51 := Tryz.isAgg230
  z51 := Tryz.sizeOf230
  v51 := Tryz.zeroValue230
  t146 := Tryz.underlying231
  a146 := Tryz.isAgg231
  z146 := Tryz.sizeOf231
  v146 := Tryz.zeroValue231 }
open Go.RowKit Go.Lib in
/-- strings.LastIndex: "LastIndex returns the index of the last instance of substr in s, or -1 if substr is not present in s.": AT A substr OF WHATEVER LENGTH. (LAID: no walk: one application.) -/
theorem Tryz.strings_LastIndex (s sub : ByteArray) (hs : s.size < 4611686018427387904) (w : World) :
    Calls Tryz.prog 124 #[.string s, .string sub] w fun e w' => e = .returned (.int .i64 (Lib.lastIndex s.data.toList sub.data.toList)) ∧ w' = w := Any.strings_LastIndex Tryz.lays148 s sub hs w
open Go.RowKit in
/-- (*bytes.Buffer).Write: "Write appends the contents of p to the buffer, growing the buffer as needed. The return value n is the length of p; err is always nil." (LAID: no walk: one application.) -/
theorem Tryz.Buffer_Write_any (B b : Nat) (bs cs : List Value) (a : Addr) (n c : Nat) (w : World) (h : Lib.IsBuffer 62 5 B b bs w) (hBw : B ≤ w.heap.size) (h1 : ∀ v ∈ bs, v.oneCell' = true) (hn : cs.length = n) (hab : a.block ≠ b) (hsrc : ∀ j v, cs[j]? = some v → w.cell? (a.add j) = some v) (h1c : ∀ v ∈ cs, v.oneCell' = true) (hlim : bs.length + n ≤ 140737488355328) :
    Calls Tryz.prog 216 #[.pointer (some ⟨b, 0, none⟩), .slice (some a) n c] w fun e w' => e = .returned (.tuple #[.int .i64 n, .nilIface]) ∧ Lib.IsBuffer 62 5 B b (bs ++ cs) w' ∧ Below B w w' ∧ Lib.OthersKept 5 (some b) w w' := Any.Buffer_Write_any Tryz.laysM180 B b bs cs a n c w h hBw h1 hn hab hsrc h1c hlim
def Tryz.lays99_ren : Go.Shelf.Ren := ⟨fun | 99 => 92 | 206 => 129 | n => n, fun | 9 => 9 | 4 => 4 | 3 => 3 | n => n, fun | n => n⟩
theorem Tryz.lays99 : Go.Proofs.Lays.n99 Tryz.prog Tryz.lays99_ren := {
  mixed := by kernel_rfl
  f99 := Tryz.func92.trans (congrArg some (by kernel_rfl))
  f206 := Tryz.func129.trans (congrArg some (by kernel_rfl))
  t3 := Tryz.underlying3
  a3 := Tryz.isAgg3
  z3 := Tryz.sizeOf3
  v3 := Tryz.zeroValue3
  t4 := Tryz.underlying4
  a4 := Tryz.isAgg4
  z4 := Tryz.sizeOf4
  v4 := Tryz.zeroValue4
  t9 := Tryz.underlying9
  a9 := Tryz.isAgg9
  z9 := Tryz.sizeOf9
  v9 := Tryz.zeroValue9 }
open Go.RowKit Go.Lib in
/-- strings.HasPrefix: "HasPrefix reports whether the string s begins with prefix.": IT RETURNS 'Lib.hasPrefix s prefix'; the world is as it was. (LAID: no walk: one application.) -/
theorem Tryz.strings_HasPrefix (s p : ByteArray) (w : World) :
    Calls Tryz.prog 92 #[.string s, .string p] w fun e w' => e = .returned (.bool (Lib.hasPrefix s.data.toList p.data.toList)) ∧ w' = w := Any.strings_HasPrefix Tryz.lays99 s p w
def Tryz.lays100_ren : Go.Shelf.Ren := ⟨fun | 100 => 33 | 207 => 54 | n => n, fun | 9 => 9 | 4 => 4 | 3 => 3 | n => n, fun | n => n⟩
theorem Tryz.lays100 : Go.Proofs.Lays.n100 Tryz.prog Tryz.lays100_ren := {
  mixed := by kernel_rfl
  f100 := Tryz.func33.trans (congrArg some (by kernel_rfl))
  f207 := Tryz.func54.trans (congrArg some (by kernel_rfl))
  t3 := Tryz.underlying3
  a3 := Tryz.isAgg3
  z3 := Tryz.sizeOf3
  v3 := Tryz.zeroValue3
  t4 := Tryz.underlying4
  a4 := Tryz.isAgg4
  z4 := Tryz.sizeOf4
  v4 := Tryz.zeroValue4
  t9 := Tryz.underlying9
  a9 := Tryz.isAgg9
  z9 := Tryz.sizeOf9
  v9 := Tryz.zeroValue9 }
open Go.RowKit Go.Lib in
/-- strings.HasSuffix: "HasSuffix reports whether the string s ends with suffix.": IT RETURNS 'Lib.hasSuffix s suffix'; the world is as it was. ('hs': no Go string is longer: a caller has it of every string that it was handed.) (LAID: no walk: one application.) -/
theorem Tryz.strings_HasSuffix (s p : ByteArray) (w : World) (hs : s.size ≤ 9223372036854775807) :
    Calls Tryz.prog 33 #[.string s, .string p] w fun e w' => e = .returned (.bool (Lib.hasSuffix s.data.toList p.data.toList)) ∧ w' = w := Any.strings_HasSuffix Tryz.lays100 s p w hs
def Tryz.lays105_ren : Go.Shelf.Ren := ⟨fun | 105 => 132 | 212 => 159 | 99 => 92 | 165 => 160 | 166 => 104 | 170 => 161 | 169 => 107 | 263 => 176 | 264 => 177 | 206 => 129 | 240 => 148 | 241 => 178 | 276 => 166 | 277 => 191 | n => n, fun | 9 => 9 | 3 => 3 | 4 => 4 | 20 => 20 | 0 => 0 | 46 => 190 | 109 => 215 | 5 => 5 | 72 => 162 | 76 => 71 | 51 => 230 | 146 => 231 | 53 => 94 | 148 => 238 | 70 => 160 | 37 => 25 | 75 => 67 | 127 => 207 | 164 => 221 | 80 => 173 | n => n, fun | n => n⟩
theorem Tryz.lays105 : Go.Proofs.Lays.n105 Tryz.prog Tryz.lays105_ren := {
  mixed := by kernel_rfl
  f99 := Tryz.func92.trans (congrArg some (by kernel_rfl))
  f105 := Tryz.func132.trans (congrArg some (by kernel_rfl))
  f165 := Tryz.func160.trans (congrArg some (by kernel_rfl))
  f166 := Tryz.func104.trans (congrArg some (by kernel_rfl))
  f169 := Tryz.func107.trans (congrArg some (by kernel_rfl))
  f170 := Tryz.func161.trans (congrArg some (by kernel_rfl))
  f206 := Tryz.func129.trans (congrArg some (by kernel_rfl))
  f212 := Tryz.func159.trans (congrArg some (by kernel_rfl))
  f240 := Tryz.func148.trans (congrArg some (by kernel_rfl))
  f241 := Tryz.func178.trans (congrArg some (by kernel_rfl))
  f263 := Tryz.func176.trans (congrArg some (by kernel_rfl))
  f264 := Tryz.func177.trans (congrArg some (by kernel_rfl))
  f276 := Tryz.func166.trans (congrArg some (by kernel_rfl))
  f277 := Tryz.func191.trans (congrArg some (by kernel_rfl))
  t0 := Tryz.underlying0
  a0 := Tryz.isAgg0
  z0 := Tryz.sizeOf0
  v0 := Tryz.zeroValue0
  t3 := Tryz.underlying3
  a3 := Tryz.isAgg3
  z3 := Tryz.sizeOf3
  v3 := Tryz.zeroValue3
  t4 := Tryz.underlying4
  a4 := Tryz.isAgg4
  z4 := Tryz.sizeOf4
  v4 := Tryz.zeroValue4
  t5 := Tryz.underlying5
  a5 := Tryz.isAgg5
  z5 := Tryz.sizeOf5
  v5 := Tryz.zeroValue5
  t9 := Tryz.underlying9
  a9 := Tryz.isAgg9
  z9 := Tryz.sizeOf9
  v9 := Tryz.zeroValue9
  t20 := Tryz.underlying20
  a20 := Tryz.isAgg20
  z20 := Tryz.sizeOf20
  v20 := Tryz.zeroValue20
  t37 := Tryz.underlying25
  a37 := Tryz.isAgg25
  z37 := Tryz.sizeOf25
  v37 := Tryz.zeroValue25
  t46 := Tryz.underlying190
  a46 := Tryz.isAgg190
  z46 := Tryz.sizeOf190
  v46 := Tryz.zeroValue190
  t51 := Tryz.underlying230
  a51 := Tryz.isAgg230
  z51 := Tryz.sizeOf230
  v51 := Tryz.zeroValue230
  t53 := Tryz.underlying94
  a53 := Tryz.isAgg94
  z53 := Tryz.sizeOf94
  v53 := Tryz.zeroValue94
  t70 := Tryz.underlying160
  a70 := Tryz.isAgg160
  z70 := Tryz.sizeOf160
  v70 := Tryz.zeroValue160
  t72 := Tryz.underlying162
  a72 := Tryz.isAgg162
  z72 := Tryz.sizeOf162
  v72 := Tryz.zeroValue162
  t75 := Tryz.underlying67
  a75 := Tryz.isAgg67
  z75 := Tryz.sizeOf67
  v75 := Tryz.zeroValue67
  t76 := Tryz.underlying71
  a76 := Tryz.isAgg71
  z76 := Tryz.sizeOf71
  v76 := Tryz.zeroValue71
  t109 := Tryz.underlying215
  a109 := Tryz.isAgg215
  z109 := Tryz.sizeOf215
  v109 := Tryz.zeroValue215
  t127 := Tryz.underlying207
  a127 := Tryz.isAgg207
  z127 := Tryz.sizeOf207
  v127 := Tryz.zeroValue207
  t146 := Tryz.underlying231
  a146 := Tryz.isAgg231
  z146 := Tryz.sizeOf231
  v146 := Tryz.zeroValue231
  t148 := Tryz.underlying238
  a148 := Tryz.isAgg238
  z148 := Tryz.sizeOf238
  v148 := Tryz.zeroValue238
  t164 := Tryz.underlying221
  a164 := Tryz.isAgg221
  z164 := Tryz.sizeOf221
  v164 := Tryz.zeroValue221 }
theorem Tryz.Builder_Extra_105 : Builder.Extra Tryz.prog Tryz.lays105_ren := {
  sizeBuilder := by kernel_rfl
  liesBuilder := by kernel_rfl
  t5 := Tryz.underlying5
  a5 := Tryz.isAgg5
  z5 := Tryz.sizeOf5
  v5 := Tryz.zeroValue5
  infoByte := by kernel_rfl
  cellsByte := by kernel_rfl
  sizeByte := by kernel_rfl
  neB5 := by decide }
open Go.RowKit Go.Lib in
/-- **strings.Repeat: count ≥ 0, the result within one allocation: count copies of s.** (LAID: no walk: one application.) -/
theorem Tryz.strings_Repeat (s : ByteArray) (c : Nat) (w : World) (hc : c ≤ 9223372036854775807) (hlen : s.size * c ≤ 140737488355328) :
    Calls Tryz.prog 132 #[.string s, .int .i64 c] w fun e w' => e = .returned (.string ⟨(Lib.repeatL s.data.toList c).toArray⟩) ∧ Below w.heap.size w w' := Any.strings_Repeat Tryz.lays105 Tryz.Builder_Extra_105 s c w hc hlen
def Tryz.laysSlK4_ren : Go.Shelf.Ren := ⟨fun | 4 => 20 | n => n, fun | 22 => 25 | 4 => 4 | 5 => 5 | n => n, fun | n => n⟩
theorem Tryz.laysSlK4 : Go.Proofs.SlLaysK.n4 Tryz.prog Tryz.laysSlK4_ren := {
  mixed := by kernel_rfl
  f4 := Tryz.func20.trans (congrArg some (by kernel_rfl))
  t4 := Tryz.underlying4
  a4 := Tryz.isAgg4
  z4 := Tryz.sizeOf4
  v4 := Tryz.zeroValue4
  t22 := Tryz.underlying25
  a22 := Tryz.isAgg25
  z22 := Tryz.sizeOf25
  v22 := Tryz.zeroValue25
  t5 := Tryz.underlying5
  i5 := by kernel_rfl }
open Go.RowKit Go.Lib in
/-- bytes.Clone: "Clone returns a copy of b[:len(b)]. The result may have additional unused capacity.": OF A SLICE THAT IS NOT nil IT RETURNS A SLICE THAT IS NOT nil, OF THE SAME BYTES, IN MEMORY OF THE CALL's OWN: in the how-to's words (6f): 'w'.ownsRow B e 1 v' n cells' · 'Below B w w'', B the heap's size at the call. b AT WHATEVER ADDRESS, its cells as 'open_ints' hands them ('a.add i'; the numbers 'xs'). No byte: no cell is asked for. (LAID: no walk: one application.) -/
theorem Tryz.bytes_Clone_at (a : Addr) (n c : Nat) (xs : List Int) (w : World) (hx : xs.length = n) (hbig : n ≤ 140737488355328) (hc : ∀ i, i < n → w.cell? (a.add i) = some (.int .u8 (xs.getD i 0))) :
    Calls Tryz.prog 20 #[.slice (some a) n c] w fun e w' => ∃ v', e = .returned v' ∧ w'.ownsRow w.heap.size 5 1 v' n (xs.map (Value.int .u8)) ∧ v' ≠ .slice none 0 0 ∧ Below w.heap.size w w' := Any.bytes_Clone_at Tryz.laysSlK4 a n c xs w hx hbig hc
open Go.RowKit Go.Lib in
/-- "Clone(nil) returns nil.": the world is as it was. (LAID: no walk: one application.) -/
theorem Tryz.bytes_Clone_nil (n c : Nat) (w : World) :
    Calls Tryz.prog 20 #[.slice none n c] w fun e w' => e = .returned (.slice none 0 0) ∧ w' = w := Any.bytes_Clone_nil Tryz.laysSlK4 n c w
def Tryz.laysPa29_ren : Go.Shelf.Ren := ⟨fun | 29 => 105 | 45 => 149 | n => n, fun | 9 => 9 | 5 => 5 | 3 => 3 | 4 => 4 | n => n, fun | n => n⟩
theorem Tryz.laysPa29 : Go.Proofs.Lays.p29 Tryz.prog Tryz.laysPa29_ren := {
  mixed := by kernel_rfl
  f29 := Tryz.func105.trans (congrArg some (by kernel_rfl))
  f45 := Tryz.func149.trans (congrArg some (by kernel_rfl))
  t3 := Tryz.underlying3
  a3 := Tryz.isAgg3
  z3 := Tryz.sizeOf3
  v3 := Tryz.zeroValue3
  t4 := Tryz.underlying4
  a4 := Tryz.isAgg4
  z4 := Tryz.sizeOf4
  v4 := Tryz.zeroValue4
  t5 := Tryz.underlying5
  a5 := Tryz.isAgg5
  z5 := Tryz.sizeOf5
  v5 := Tryz.zeroValue5
  t9 := Tryz.underlying9
  a9 := Tryz.isAgg9
  z9 := Tryz.sizeOf9
  v9 := Tryz.zeroValue9 }
open Go.RowKit Go.Lib in
/-- path.Split: "Split splits path immediately following the final slash, separating it into a directory and file name component. If there is no slash in path, Split returns an empty dir and file set to path. The returned values have the property that path = dir+file.": IT RETURNS 'Pa.split path'; the world is as it was but for the count of draws. (LAID: no walk: one application.) -/
theorem Tryz.path_Split (s : ByteArray) (w : World) (hs : s.size ≤ 9223372036854775807) :
    Calls Tryz.prog 105 #[.string s] w fun e w' => e = .returned (.tuple #[.string ⟨(Pa.split s.data.toList).1.toArray⟩, .string ⟨(Pa.split s.data.toList).2.toArray⟩]) ∧ ∃ n, w' = w.drewN n := Any.path_Split Tryz.laysPa29 s w hs
def Tryz.laysPah31_ren : Go.Shelf.Ren := ⟨fun | 31 => 106 | 30 => 150 | 46 => 167 | 47 => 168 | 48 => 169 | n => n, fun | 26 => 150 | 9 => 9 | 3 => 3 | 0 => 0 | 4 => 4 | 30 => 25 | 5 => 5 | 42 => 224 | 48 => 249 | n => n, fun | n => n⟩
theorem Tryz.laysPah31 : Go.Proofs.Lays.ph31 Tryz.prog Tryz.laysPah31_ren := {
  mixed := by kernel_rfl
  f30 := Tryz.func150.trans (congrArg some (by kernel_rfl))
  f31 := Tryz.func106.trans (congrArg some (by kernel_rfl))
  f46 := Tryz.func167.trans (congrArg some (by kernel_rfl))
  f47 := Tryz.func168.trans (congrArg some (by kernel_rfl))
  f48 := Tryz.func169.trans (congrArg some (by kernel_rfl))
  t0 := Tryz.underlying0
  a0 := Tryz.isAgg0
  z0 := Tryz.sizeOf0
  v0 := Tryz.zeroValue0
  t3 := Tryz.underlying3
  a3 := Tryz.isAgg3
  z3 := Tryz.sizeOf3
  v3 := Tryz.zeroValue3
  t4 := Tryz.underlying4
  a4 := Tryz.isAgg4
  z4 := Tryz.sizeOf4
  v4 := Tryz.zeroValue4
  t5 := Tryz.underlying5
  a5 := Tryz.isAgg5
  z5 := Tryz.sizeOf5
  v5 := Tryz.zeroValue5
  t9 := Tryz.underlying9
  a9 := Tryz.isAgg9
  z9 := Tryz.sizeOf9
  v9 := Tryz.zeroValue9
  t26 := Tryz.underlying150
  a26 := Tryz.isAgg150
  z26 := Tryz.sizeOf150
  v26 := Tryz.zeroValue150
  t30 := Tryz.underlying25
  a30 := Tryz.isAgg25
  z30 := Tryz.sizeOf25
  v30 := Tryz.zeroValue25
  t42 := Tryz.underlying224
  a42 := Tryz.isAgg224
  z42 := Tryz.sizeOf224
  v42 := Tryz.zeroValue224
  t48 := Tryz.underlying249
  a48 := Tryz.isAgg249
  z48 := Tryz.sizeOf249
  v48 := Tryz.zeroValue249
  info5 := by kernel_rfl }
open Go.RowKit Go.Lib in
/-- path.Join: "Join joins any number of path elements into a single path, separating them with slashes. Empty elements are ignored. The result is Cleaned. However, if the argument list is empty or all its elements are empty, Join returns an empty string.": THE ARGUMENT AS strings.Join's CONTRACT HAS IT: a slice of xs.length strings at ⟨bk, o⟩ whose cells hold xs ('hcells'), in memory that was there ('hbk'). IT RETURNS 'Pa.joinL (the elements)' (Derived/Lib/JoinFns.lean); what was there before the call is as it was ('Below'). IT ASKS that the elements' lengths and their number together stay within 2^48 (makeslice's own limit). (LAID: no walk: one application.) -/
theorem Tryz.path_Join (bk o c : Nat) (xs : List ByteArray) (w : World) (hcells : ∀ (j : Nat) x, xs[j]? = some x → w.cell? ⟨bk, o + j, none⟩ = some (.string x)) (hbk : bk < w.heap.size) (hlen : Pa.lens (xs.map (·.data.toList)) + xs.length ≤ 281474976710656) :
    Calls Tryz.prog 106 #[.slice (some ⟨bk, o, none⟩) xs.length c] w fun e w' => e = .returned (.string ⟨(Pa.joinL (xs.map (·.data.toList))).toArray⟩) ∧ Below w.heap.size w w' := Any.path_Join Tryz.laysPah31 bk o c xs w hcells hbk hlen
end Go.Proofs
