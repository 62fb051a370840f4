/-
  DERIVED: THE SHELF's CONTRACTS AT THIS DUMP, IN PLAIN WORDS (tools/lay-plain.mjs out of 'TryzShelf.lean', which tools/lay-shelf.mjs wrote): THE SAME DECLARATIONS UNDER THE SAME NAMES: 'import', 'namespace', 'open', 'def', 'theorem' AND NOTHING ELSE: no command of the shelf's: FOR A HAND-IN. Each laying: the table of numbers ('.._ren') and one theorem, a field a fact of the dump's own or the kernel's comparison; each contract: ONE APPLICATION.
-/
import Derived.Shelf.Strings.Builder1
import Derived.Shelf.Strings.Builder2
import Derived.Shelf.Strings.OnBuilder
import Derived.Shelf.Strings.TrimSpace
import Derived.Shelf.Small.Utf8
import Derived.Shelf.Small.Bits
import Derived.Shelf.Strconv.Atoi
import Derived.Shelf.Strconv.Itoa0
import Derived.Shelf.Strconv.Itoa1
import Derived.Shelf.LaysM
import Derived.Shelf.Strconv.Itoa2
import Derived.Shelf.Strconv.Itoa3
import Derived.Shelf.Strconv.AtoiErrFast
import Derived.Shelf.Strconv.ParseIntEmpty
import Derived.Shelf.Strconv.AtoiFail
import Derived.Shelf.Strconv.Clone
import Derived.Shelf.Strconv.SyntaxError
import Derived.Shelf.LaysC
import Derived.Shelf.Strconv.ToError
import Derived.Shelf.Strconv.Lower
import Derived.Shelf.Strconv.ParseUint10
import Derived.Shelf.Strconv.ParseUint10Empty
import Derived.Shelf.Strconv.ParseUint10Any
import Derived.Shelf.Strconv.ParseInt10
import Derived.Shelf.Strconv.AtoiLong
import Derived.Shelf.Strconv.AtoiInnerAll
import Derived.Shelf.Strconv.RangeError
import Derived.Shelf.Strconv.ToErrorRange
import Derived.Shelf.Strconv.AtoiAll
import Derived.Shelf.Strconv.ErrVarAll
import Derived.Shelf.Strings.Prefix
import Derived.Shelf.Unicode.Latin
import Derived.Shelf.Unicode.DecodeSlow
import Derived.Shelf.Unicode.DecodeAny
import Derived.Shelf.Unicode.Is16White
import Derived.Shelf.Unicode.IsSpaceAny
import Derived.Shelf.Unicode.CaseLookup
import Derived.Shelf.Unicode.CaseConvert
import Derived.Shelf.Unicode.CaseTo
import Derived.Shelf.Unicode.CaseLaid
import Derived.Shelf.Unicode.Is16Any
import Derived.Shelf.Unicode.Is32Any
import Derived.Shelf.Unicode.ExclAny
import Derived.Shelf.Slices.Turned
import Derived.Shelf.Slices.Equal
import Derived.Ground.Names2Prog
import Derived.Shelf.Slices.Clone
import Derived.Shelf.Slices.Delete
import Derived.Shelf.Slices.Cells
import Derived.Shelf.Slices.Empties
import Derived.Shelf.Slices.Empties2
import Derived.Ground.SlgnProg
import Derived.Shelf.SlicesG.Equal
import Derived.Shelf.SlicesG.Clone
import Derived.Shelf.SlicesE.Equal
import Derived.Shelf.SlicesE.Clone
import Derived.Ground.SlgmProg
import Derived.Shelf.SortM.Plain
import Derived.Shelf.SortM.SortNone
import Derived.Test.YtnlpjncljbaapaaGreatDoorProg
namespace Go.Proofs
open Go.Shelf
open Go.RowKit in
def Tryz.lays156_ren : Go.Shelf.Ren := ⟨fun | 156 => 81 | 165 => 123 | 166 => 124 | 169 => 125 | 240 => 175 | 241 => 176 | 276 => 207 | 277 => 208 | n => n, fun | 31 => 41 | 9 => 9 | 3 => 3 | 4 => 4 | 0 => 0 | 20 => 20 | 72 => 187 | 76 => 189 | 70 => 185 | 37 => 48 | 75 => 72 | 127 => 244 | 164 => 284 | 5 => 5 | 80 => 90 | n => n, fun | n => n⟩
theorem Tryz.lays156 : Go.Proofs.Lays.n156 Tryz.prog Tryz.lays156_ren := {
  mixed := by kernel_rfl
  f156 := Tryz.func81.trans (congrArg some (by kernel_rfl))
  f165 := Tryz.func123.trans (congrArg some (by kernel_rfl))
  f166 := Tryz.func124.trans (congrArg some (by kernel_rfl))
  f169 := Tryz.func125.trans (congrArg some (by kernel_rfl))
  f240 := Tryz.func175.trans (congrArg some (by kernel_rfl))
  f241 := Tryz.func176.trans (congrArg some (by kernel_rfl))
  f276 := Tryz.func207.trans (congrArg some (by kernel_rfl))
  f277 := Tryz.func208.trans (congrArg some (by kernel_rfl))
  t0 := Tryz.underlying0
  a0 := Tryz.isAgg0
  z0 := Tryz.sizeOf0
  v0 := Tryz.zeroValue0
  t3 := Tryz.underlying3
  a3 := Tryz.isAgg3
  z3 := Tryz.sizeOf3
  v3 := Tryz.zeroValue3
  t4 := Tryz.underlying4
  a4 := Tryz.isAgg4
  z4 := Tryz.sizeOf4
  v4 := Tryz.zeroValue4
  t9 := Tryz.underlying9
  a9 := Tryz.isAgg9
  z9 := Tryz.sizeOf9
  v9 := Tryz.zeroValue9
  t20 := Tryz.underlying20
  a20 := Tryz.isAgg20
  z20 := Tryz.sizeOf20
  v20 := Tryz.zeroValue20
  t31 := Tryz.underlying41
  a31 := Tryz.isAgg41
  z31 := Tryz.sizeOf41
  v31 := Tryz.zeroValue41
  t37 := Tryz.underlying48
  a37 := Tryz.isAgg48
  z37 := Tryz.sizeOf48
  v37 := Tryz.zeroValue48
  t70 := Tryz.underlying185
  a70 := Tryz.isAgg185
  z70 := Tryz.sizeOf185
  v70 := Tryz.zeroValue185
  t72 := Tryz.underlying187
  a72 := Tryz.isAgg187
  z72 := Tryz.sizeOf187
  v72 := Tryz.zeroValue187
  t75 := Tryz.underlying72
  a75 := Tryz.isAgg72
  z75 := Tryz.sizeOf72
  v75 := Tryz.zeroValue72
  t76 := Tryz.underlying189
  a76 := Tryz.isAgg189
  z76 := Tryz.sizeOf189
  v76 := Tryz.zeroValue189
  t127 := Tryz.underlying244
  a127 := Tryz.isAgg244
  z127 := Tryz.sizeOf244
  v127 := Tryz.zeroValue244
  t164 := Tryz.underlying284
  a164 := Tryz.isAgg284
  z164 := Tryz.sizeOf284
  v164 := Tryz.zeroValue284 }
theorem Tryz.Builder_Extra_156 : Builder.Extra Tryz.prog Tryz.lays156_ren := {
  sizeBuilder := by kernel_rfl
  liesBuilder := by kernel_rfl
  t5 := Tryz.underlying5
  a5 := Tryz.isAgg5
  z5 := Tryz.sizeOf5
  v5 := Tryz.zeroValue5
  infoByte := by kernel_rfl
  cellsByte := by kernel_rfl
  sizeByte := by kernel_rfl
  neB5 := by decide }
open Go.RowKit in
open Go.RowKit in
/-- strings.Join: "Join concatenates the elements of its first argument to create a single string. The separator string sep is placed between elements in the resulting string.": HOWEVER MANY ELEMENTS. Below the heap's end the world is as it was. (LAID: no walk: one application.) -/
theorem Tryz.strings_Join (bk o c : Nat) (xs : List ByteArray) (sep : ByteArray) (w : World) (hcells : ∀ (j : Nat) x, xs[j]? = some x → w.cell? ⟨bk, o + j, none⟩ = some (.string x)) (hbk : bk < w.heap.size) (hN : xs.length ≤ 140737488355328) (hcap : xs.length ≤ c) (hlen : (Lib.join (xs.map (·.data.toList)) sep.data.toList).length ≤ 140737488355328) :
    Calls Tryz.prog 81 #[.slice (some ⟨bk, o, none⟩) xs.length c, .string sep] w fun e w' => e = .returned (.string ⟨(Lib.join (xs.map (·.data.toList)) sep.data.toList).toArray⟩) ∧ Below w.heap.size w w' := Any.strings_Join Tryz.lays156 Tryz.Builder_Extra_156 bk o c xs sep w hcells hbk hN hcap hlen
def Tryz.lays163_ren : Go.Shelf.Ren := ⟨fun | 163 => 66 | 237 => 108 | 199 => 109 | 238 => 110 | 272 => 154 | 261 => 155 | 273 => 156 | 197 => 157 | 315 => 197 | 311 => 198 | 312 => 199 | 271 => 200 | 260 => 201 | 120 => 224 | n => n, fun | 9 => 9 | 37 => 48 | 3 => 3 | 0 => 0 | 5 => 5 | 4 => 4 | 40 => 173 | 119 => 174 | 21 => 21 | 51 => 206 | 141 => 225 | 105 => 227 | 196 => 268 | 193 => 265 | 198 => 271 | 49 => 269 | 194 => 266 | 201 => 274 | 226 => 304 | 46 => 156 | 227 => 305 | 139 => 309 | 138 => 308 | n => n, fun | 0 => 0 | 6 => 2 | 3 => 10 | 4 => 11 | n => n⟩
theorem Tryz.lays163 : Go.Proofs.Lays.n163 Tryz.prog Tryz.lays163_ren := {
  mixed := by kernel_rfl
  f120 := Tryz.func224.trans (congrArg some (by kernel_rfl))
  f163 := Tryz.func66.trans (congrArg some (by kernel_rfl))
  f197 := Tryz.func157.trans (congrArg some (by kernel_rfl))
  f199 := Tryz.func109.trans (congrArg some (by kernel_rfl))
  f237 := Tryz.func108.trans (congrArg some (by kernel_rfl))
  f238 := Tryz.func110.trans (congrArg some (by kernel_rfl))
  f260 := Tryz.func201.trans (congrArg some (by kernel_rfl))
  f261 := Tryz.func155.trans (congrArg some (by kernel_rfl))
  f271 := Tryz.func200.trans (congrArg some (by kernel_rfl))
  f272 := Tryz.func154.trans (congrArg some (by kernel_rfl))
  f273 := Tryz.func156.trans (congrArg some (by kernel_rfl))
  f311 := Tryz.func198.trans (congrArg some (by kernel_rfl))
  f312 := Tryz.func199.trans (congrArg some (by kernel_rfl))
  f315 := Tryz.func197.trans (congrArg some (by kernel_rfl))
  t0 := Tryz.underlying0
  a0 := Tryz.isAgg0
  z0 := Tryz.sizeOf0
  v0 := Tryz.zeroValue0
  t3 := Tryz.underlying3
  a3 := Tryz.isAgg3
  z3 := Tryz.sizeOf3
  v3 := Tryz.zeroValue3
  t4 := Tryz.underlying4
  a4 := Tryz.isAgg4
  z4 := Tryz.sizeOf4
  v4 := Tryz.zeroValue4
  t5 := Tryz.underlying5
  a5 := Tryz.isAgg5
  z5 := Tryz.sizeOf5
  v5 := Tryz.zeroValue5
  t9 := Tryz.underlying9
  a9 := Tryz.isAgg9
  z9 := Tryz.sizeOf9
  v9 := Tryz.zeroValue9
  t21 := Tryz.underlying21
  a21 := Tryz.isAgg21
  z21 := Tryz.sizeOf21
  v21 := Tryz.zeroValue21
  t37 := Tryz.underlying48
  a37 := Tryz.isAgg48
  z37 := Tryz.sizeOf48
  v37 := Tryz.zeroValue48
  t40 := Tryz.underlying173
  a40 := Tryz.isAgg173
  z40 := Tryz.sizeOf173
  v40 := Tryz.zeroValue173
  t46 := Tryz.underlying156
  a46 := Tryz.isAgg156
  z46 := Tryz.sizeOf156
  v46 := Tryz.zeroValue156
  t49 := Tryz.underlying269
  a49 := Tryz.isAgg269
  z49 := Tryz.sizeOf269
  v49 := Tryz.zeroValue269
  t51 := Tryz.underlying206
  a51 := Tryz.isAgg206
  z51 := Tryz.sizeOf206
  v51 := Tryz.zeroValue206
  t105 := Tryz.underlying227
  a105 := Tryz.isAgg227
  z105 := Tryz.sizeOf227
  v105 := Tryz.zeroValue227
  t119 := Tryz.underlying174
  a119 := Tryz.isAgg174
  z119 := Tryz.sizeOf174
  t138 := Tryz.underlying308
  a138 := Tryz.isAgg308
  z138 := Tryz.sizeOf308
  v138 := Tryz.zeroValue308
  t139 := Tryz.underlying309
  a139 := Tryz.isAgg309
  z139 := Tryz.sizeOf309
  v139 := Tryz.zeroValue309
  t141 := Tryz.underlying225
  a141 := Tryz.isAgg225
  z141 := Tryz.sizeOf225
  v141 := Tryz.zeroValue225
  t193 := Tryz.underlying265
  a193 := Tryz.isAgg265
  z193 := Tryz.sizeOf265
  v193 := Tryz.zeroValue265
  t194 := Tryz.underlying266
  a194 := Tryz.isAgg266
  z194 := Tryz.sizeOf266
  v194 := Tryz.zeroValue266
  t196 := Tryz.underlying268
  a196 := Tryz.isAgg268
  z196 := Tryz.sizeOf268
  v196 := Tryz.zeroValue268
  t198 := Tryz.underlying271
  a198 := Tryz.isAgg271
  z198 := Tryz.sizeOf271
  v198 := Tryz.zeroValue271
  t201 := Tryz.underlying274
  a201 := Tryz.isAgg274
  z201 := Tryz.sizeOf274
  v201 := Tryz.zeroValue274
  t226 := Tryz.underlying304
  a226 := Tryz.isAgg304
  z226 := Tryz.sizeOf304
  v226 := Tryz.zeroValue304
  t227 := Tryz.underlying305
  a227 := Tryz.isAgg305
  z227 := Tryz.sizeOf305
  v227 := Tryz.zeroValue305
  g0 := by kernel_rfl
  g3 := by kernel_rfl
  g4 := by kernel_rfl
  g6 := by kernel_rfl }
theorem Tryz.Space_Extra_163 : Space.Extra Tryz.prog Tryz.lays163_ren := {
  gNamed := by kernel_rfl }
open Go.RowKit in
theorem Tryz.strings_TrimSpace (s : ByteArray) (w : World) (hs : s.size ≤ 9223372036854775807) (hascii : ∀ (j : Nat) b, s.data.toList[j]? = some b → b.toNat < 128) (htab : Lib.TabIs Tryz.prog w "strings.asciiSpace" .u8 Lib.asciiSpaceTab) :
    Calls Tryz.prog 66 #[.string s] w fun e w' => e = .returned (.string ⟨(Lib.trimSpace s.data.toList).toArray⟩) ∧ w' = Lib.bytesWorld w 5 s := Any.strings_TrimSpace Tryz.lays163 Tryz.Space_Extra_163 s w hs hascii htab
def Tryz.lays125_ren : Go.Shelf.Ren := ⟨fun | 125 => 89 | 128 => 139 | 129 => 140 | n => n, fun | 46 => 156 | 3 => 3 | 51 => 206 | 53 => 208 | 4 => 4 | 5 => 5 | 9 => 9 | n => n, fun | n => n⟩
theorem Tryz.lays125 : Go.Proofs.Lays.n125 Tryz.prog Tryz.lays125_ren := {
  mixed := by kernel_rfl
  f125 := Tryz.func89.trans (congrArg some (by kernel_rfl))
  f128 := Tryz.func139.trans (congrArg some (by kernel_rfl))
  f129 := Tryz.func140.trans (congrArg some (by kernel_rfl))
  t3 := Tryz.underlying3
  a3 := Tryz.isAgg3
  z3 := Tryz.sizeOf3
  v3 := Tryz.zeroValue3
  t4 := Tryz.underlying4
  a4 := Tryz.isAgg4
  z4 := Tryz.sizeOf4
  v4 := Tryz.zeroValue4
  t5 := Tryz.underlying5
  a5 := Tryz.isAgg5
  z5 := Tryz.sizeOf5
  v5 := Tryz.zeroValue5
  t9 := Tryz.underlying9
  a9 := Tryz.isAgg9
  z9 := Tryz.sizeOf9
  v9 := Tryz.zeroValue9
  t46 := Tryz.underlying156
  a46 := Tryz.isAgg156
  z46 := Tryz.sizeOf156
  v46 := Tryz.zeroValue156
  t51 := Tryz.underlying206
  a51 := Tryz.isAgg206
  z51 := Tryz.sizeOf206
  v51 := Tryz.zeroValue206
  t53 := Tryz.underlying208
  a53 := Tryz.isAgg208
  z53 := Tryz.sizeOf208
  v53 := Tryz.zeroValue208 }
/-- bits.Len: "Len returns the minimum number of bits required to represent x; the result is 0 for x == 0.": IT RETURNS 'Lib.bitLen x'; the world is as it was. (A uint has 64 bits in the model.) ITS CALLEE bits.Len64 IS MET BY ITS OWN CONTRACT OFF THE SHELF (lay that first). (LAID: no walk: one application.) -/
theorem Tryz.bits_Len (x : Int) (w : World) (h0 : 0 ≤ x) (h1 : x ≤ 18446744073709551615) :
    Calls Tryz.prog 89 #[.int .u64 x] w fun e w' => e = .returned (.int .i64 (Lib.bitLen x.toNat)) ∧ w' = w := Any.bits_Len Tryz.lays125 x w h0 h1
def Tryz.lays172_ren : Go.Shelf.Ren := ⟨fun | 172 => 145 | 244 => 186 | 245 => 187 | 247 => 211 | 279 => 212 | 280 => 213 | 281 => 214 | 282 => 215 | 287 => 234 | 316 => 235 | 171 => 65 | 205 => 67 | 321 => 245 | 322 => 246 | 243 => 107 | 246 => 153 | 283 => 193 | 284 => 194 | 285 => 195 | 286 => 196 | 129 => 140 | 317 => 220 | 318 => 221 | 319 => 222 | 320 => 223 | 337 => 238 | 338 => 239 | n => n, fun | 9 => 9 | 3 => 3 | 75 => 72 | 76 => 189 | 4 => 4 | 5 => 5 | 167 => 292 | 37 => 48 | 0 => 0 | 85 => 293 | 2 => 2 | 168 => 295 | 53 => 208 | 175 => 318 | 46 => 156 | 210 => 321 | 127 => 244 | 145 => 177 | 143 => 175 | 21 => 21 | 171 => 261 | 173 => 263 | 212 => 302 | 51 => 206 | 20 => 20 | 213 => 303 | 232 => 335 | 233 => 336 | 80 => 90 | n => n, fun | 15 => 13 | 16 => 14 | 17 => 9 | 18 => 16 | 19 => 17 | n => n⟩
theorem Tryz.lays172 : Go.Proofs.Lays.n172 Tryz.prog Tryz.lays172_ren := {
  mixed := by kernel_rfl
  f129 := Tryz.func140.trans (congrArg some (by kernel_rfl))
  f171 := Tryz.func65.trans (congrArg some (by kernel_rfl))
  f172 := Tryz.func145.trans (congrArg some (by kernel_rfl))
  f205 := Tryz.func67.trans (congrArg some (by kernel_rfl))
  f243 := Tryz.func107.trans (congrArg some (by kernel_rfl))
  f244 := Tryz.func186.trans (congrArg some (by kernel_rfl))
  f245 := Tryz.func187.trans (congrArg some (by kernel_rfl))
  f246 := Tryz.func153.trans (congrArg some (by kernel_rfl))
  f247 := Tryz.func211.trans (congrArg some (by kernel_rfl))
  f279 := Tryz.func212.trans (congrArg some (by kernel_rfl))
  f280 := Tryz.func213.trans (congrArg some (by kernel_rfl))
  f281 := Tryz.func214.trans (congrArg some (by kernel_rfl))
  f282 := Tryz.func215.trans (congrArg some (by kernel_rfl))
  f283 := Tryz.func193.trans (congrArg some (by kernel_rfl))
  f284 := Tryz.func194.trans (congrArg some (by kernel_rfl))
  f285 := Tryz.func195.trans (congrArg some (by kernel_rfl))
  f286 := Tryz.func196.trans (congrArg some (by kernel_rfl))
  f287 := Tryz.func234.trans (congrArg some (by kernel_rfl))
  f316 := Tryz.func235.trans (congrArg some (by kernel_rfl))
  f317 := Tryz.func220.trans (congrArg some (by kernel_rfl))
  f318 := Tryz.func221.trans (congrArg some (by kernel_rfl))
  f319 := Tryz.func222.trans (congrArg some (by kernel_rfl))
  f320 := Tryz.func223.trans (congrArg some (by kernel_rfl))
  f321 := Tryz.func245.trans (congrArg some (by kernel_rfl))
  f322 := Tryz.func246.trans (congrArg some (by kernel_rfl))
  f337 := Tryz.func238.trans (congrArg some (by kernel_rfl))
  f338 := Tryz.func239.trans (congrArg some (by kernel_rfl))
  t0 := Tryz.underlying0
  a0 := Tryz.isAgg0
  z0 := Tryz.sizeOf0
  v0 := Tryz.zeroValue0
  t2 := Tryz.underlying2
  a2 := Tryz.isAgg2
  z2 := Tryz.sizeOf2
  v2 := Tryz.zeroValue2
  t3 := Tryz.underlying3
  a3 := Tryz.isAgg3
  z3 := Tryz.sizeOf3
  v3 := Tryz.zeroValue3
  t4 := Tryz.underlying4
  a4 := Tryz.isAgg4
  z4 := Tryz.sizeOf4
  v4 := Tryz.zeroValue4
  t5 := Tryz.underlying5
  a5 := Tryz.isAgg5
  z5 := Tryz.sizeOf5
  v5 := Tryz.zeroValue5
  t9 := Tryz.underlying9
  a9 := Tryz.isAgg9
  z9 := Tryz.sizeOf9
  v9 := Tryz.zeroValue9
  t20 := Tryz.underlying20
  a20 := Tryz.isAgg20
  z20 := Tryz.sizeOf20
  v20 := Tryz.zeroValue20
  t21 := Tryz.underlying21
  a21 := Tryz.isAgg21
  z21 := Tryz.sizeOf21
  v21 := Tryz.zeroValue21
  t37 := Tryz.underlying48
  a37 := Tryz.isAgg48
  z37 := Tryz.sizeOf48
  v37 := Tryz.zeroValue48
  t46 := Tryz.underlying156
  a46 := Tryz.isAgg156
  z46 := Tryz.sizeOf156
  v46 := Tryz.zeroValue156
  t51 := Tryz.underlying206
  a51 := Tryz.isAgg206
  z51 := Tryz.sizeOf206
  v51 := Tryz.zeroValue206
  t53 := Tryz.underlying208
  a53 := Tryz.isAgg208
  z53 := Tryz.sizeOf208
  v53 := Tryz.zeroValue208
  t75 := Tryz.underlying72
  a75 := Tryz.isAgg72
  z75 := Tryz.sizeOf72
  v75 := Tryz.zeroValue72
  t76 := Tryz.underlying189
  a76 := Tryz.isAgg189
  z76 := Tryz.sizeOf189
  v76 := Tryz.zeroValue189
  t85 := Tryz.underlying293
  a85 := Tryz.isAgg293
  z85 := Tryz.sizeOf293
  v85 := Tryz.zeroValue293
  t127 := Tryz.underlying244
  a127 := Tryz.isAgg244
  z127 := Tryz.sizeOf244
  v127 := Tryz.zeroValue244
  t143 := Tryz.underlying175
  a143 := Tryz.isAgg175
  z143 := Tryz.sizeOf175
  v143 := Tryz.zeroValue175
  t145 := Tryz.underlying177
  a145 := Tryz.isAgg177
  z145 := Tryz.sizeOf177
  v145 := Tryz.zeroValue177
  t167 := Tryz.underlying292
  a167 := Tryz.isAgg292
  z167 := Tryz.sizeOf292
  v167 := Tryz.zeroValue292
  t168 := Tryz.underlying295
  a168 := Tryz.isAgg295
  z168 := Tryz.sizeOf295
  v168 := Tryz.zeroValue295
  t171 := Tryz.underlying261
  a171 := Tryz.isAgg261
  z171 := Tryz.sizeOf261
  v171 := Tryz.zeroValue261
  t173 := Tryz.underlying263
  a173 := Tryz.isAgg263
  z173 := Tryz.sizeOf263
  v173 := Tryz.zeroValue263
  t175 := Tryz.underlying318
  a175 := Tryz.isAgg318
  z175 := Tryz.sizeOf318
  v175 := Tryz.zeroValue318
  t210 := Tryz.underlying321
  a210 := Tryz.isAgg321
  z210 := Tryz.sizeOf321
  v210 := Tryz.zeroValue321
  t212 := Tryz.underlying302
  a212 := Tryz.isAgg302
  z212 := Tryz.sizeOf302
  v212 := Tryz.zeroValue302
  t213 := Tryz.underlying303
  a213 := Tryz.isAgg303
  z213 := Tryz.sizeOf303
  t232 := Tryz.underlying335
  a232 := Tryz.isAgg335
  z232 := Tryz.sizeOf335
  v232 := Tryz.zeroValue335
  t233 := Tryz.underlying336
  a233 := Tryz.isAgg336
  z233 := Tryz.sizeOf336
  v233 := Tryz.zeroValue336
  g15 := by kernel_rfl
  g16 := by kernel_rfl
  g17 := by kernel_rfl
  g18 := by kernel_rfl
  g19 := by kernel_rfl }
open Go.RowKit in
/-- strconv.Atoi: "Atoi is equivalent to ParseInt(s, 10, 0), converted to type int.": AT A DECIMAL NUMERAL OF AT MOST 18 BYTES: its value, and a nil error. The world behind the call: the one new row that the library's '[]byte(s)' lays. (LAID: no walk: one application.) -/
theorem Tryz.strconv_Atoi (s : ByteArray) (n : Int) (hl : s.size ≤ 18) (h : Lib.atoi s.data.toList = some n) (w : World) :
    Calls Tryz.prog 145 #[.string s] w fun e w' => e = .returned (.tuple #[.int .i64 n, .nilIface]) ∧ ∃ t, w' = Lib.bytesWorld w 5 t := Any.strconv_Atoi Tryz.lays172 s n hl h w
def Tryz.laysM171_ren : Go.Shelf.Ren := ⟨fun | 171 => 65 | 243 => 107 | 246 => 153 | 283 => 193 | 284 => 194 | 285 => 195 | 286 => 196 | 129 => 140 | 317 => 220 | 318 => 221 | 319 => 222 | 320 => 223 | 337 => 238 | 338 => 239 | n => n, fun | 3 => 3 | 9 => 9 | 2 => 2 | 4 => 4 | 171 => 261 | 0 => 0 | 53 => 208 | 37 => 48 | 5 => 5 | 173 => 263 | 212 => 302 | 51 => 206 | 20 => 20 | 213 => 303 | 46 => 156 | 232 => 335 | 233 => 336 | n => n, fun | 17 => 9 | 18 => 16 | 19 => 17 | n => n⟩
theorem Tryz.laysM171 : Go.Proofs.LaysM.n171 Tryz.prog Tryz.laysM171_ren := {
  mixed := by kernel_rfl
  f129 := Tryz.func140.trans (congrArg some (by kernel_rfl))
  f171 := Tryz.func65.trans (congrArg some (by kernel_rfl))
  f243 := Tryz.func107.trans (congrArg some (by kernel_rfl))
  f246 := Tryz.func153.trans (congrArg some (by kernel_rfl))
  f283 := Tryz.func193.trans (congrArg some (by kernel_rfl))
  f284 := Tryz.func194.trans (congrArg some (by kernel_rfl))
  f285 := Tryz.func195.trans (congrArg some (by kernel_rfl))
  f286 := Tryz.func196.trans (congrArg some (by kernel_rfl))
  f317 := Tryz.func220.trans (congrArg some (by kernel_rfl))
  f318 := Tryz.func221.trans (congrArg some (by kernel_rfl))
  f319 := Tryz.func222.trans (congrArg some (by kernel_rfl))
  f320 := Tryz.func223.trans (congrArg some (by kernel_rfl))
  f337 := Tryz.func238.trans (congrArg some (by kernel_rfl))
  f338 := Tryz.func239.trans (congrArg some (by kernel_rfl))
  t0 := Tryz.underlying0
  a0 := Tryz.isAgg0
  z0 := Tryz.sizeOf0
  v0 := Tryz.zeroValue0
  t2 := Tryz.underlying2
  a2 := Tryz.isAgg2
  z2 := Tryz.sizeOf2
  v2 := Tryz.zeroValue2
  t3 := Tryz.underlying3
  a3 := Tryz.isAgg3
  z3 := Tryz.sizeOf3
  v3 := Tryz.zeroValue3
  t4 := Tryz.underlying4
  a4 := Tryz.isAgg4
  z4 := Tryz.sizeOf4
  v4 := Tryz.zeroValue4
  t5 := Tryz.underlying5
  a5 := Tryz.isAgg5
  z5 := Tryz.sizeOf5
  v5 := Tryz.zeroValue5
  t9 := Tryz.underlying9
  a9 := Tryz.isAgg9
  z9 := Tryz.sizeOf9
  v9 := Tryz.zeroValue9
  t20 := Tryz.underlying20
  a20 := Tryz.isAgg20
  z20 := Tryz.sizeOf20
  v20 := Tryz.zeroValue20
  t37 := Tryz.underlying48
  a37 := Tryz.isAgg48
  z37 := Tryz.sizeOf48
  v37 := Tryz.zeroValue48
  t46 := Tryz.underlying156
  a46 := Tryz.isAgg156
  z46 := Tryz.sizeOf156
  v46 := Tryz.zeroValue156
  t51 := Tryz.underlying206
  a51 := Tryz.isAgg206
  z51 := Tryz.sizeOf206
  v51 := Tryz.zeroValue206
  t53 := Tryz.underlying208
  a53 := Tryz.isAgg208
  z53 := Tryz.sizeOf208
  v53 := Tryz.zeroValue208
  t171 := Tryz.underlying261
  a171 := Tryz.isAgg261
  z171 := Tryz.sizeOf261
  v171 := Tryz.zeroValue261
  t173 := Tryz.underlying263
  a173 := Tryz.isAgg263
  z173 := Tryz.sizeOf263
  v173 := Tryz.zeroValue263
  t212 := Tryz.underlying302
  a212 := Tryz.isAgg302
  z212 := Tryz.sizeOf302
  v212 := Tryz.zeroValue302
  t213 := Tryz.underlying303
  a213 := Tryz.isAgg303
  z213 := Tryz.sizeOf303
  t232 := Tryz.underlying335
  a232 := Tryz.isAgg335
  z232 := Tryz.sizeOf335
  v232 := Tryz.zeroValue335
  t233 := Tryz.underlying336
  a233 := Tryz.isAgg336
  z233 := Tryz.sizeOf336
  v233 := Tryz.zeroValue336
  g17 := by kernel_rfl
  g18 := by kernel_rfl
  g19 := by kernel_rfl
  i0 := by kernel_rfl
  i2 := by kernel_rfl
  i3 := by kernel_rfl
  i4 := by kernel_rfl
  i5 := by kernel_rfl
  i9 := by kernel_rfl
  i20 := by kernel_rfl
  i37 := by kernel_rfl
  i46 := by kernel_rfl
  i51 := by kernel_rfl
  i53 := by kernel_rfl
  i171 := by kernel_rfl
  i173 := by kernel_rfl
  i212 := by kernel_rfl
  i232 := by kernel_rfl
  i233 := by kernel_rfl
  m17 := by kernel_rfl
  m18 := by kernel_rfl
  m19 := by kernel_rfl }
open Go.RowKit Go.Sort Go.Lib in
/-- strconv.Itoa: "Itoa is equivalent to FormatInt(int64(i), 10).": i's DECIMAL NUMERAL ('Lib.itoa': a '-' where i is negative, then the digits), FOR EVERY int. The world behind the call: the world before it, new blocks behind the heap (the library's 'var a [24]byte'), draws. (LAID: no walk: one application.) -/
theorem Tryz.strconv_Itoa (n : Int) (h0 : -9223372036854775808 ≤ n) (h1 : n ≤ 9223372036854775807) (w : World) (htab : Lib.TabIs Tryz.prog w "internal/strconv.uint64pow10" .u64 Lib.pow10Tab) :
    Calls Tryz.prog 65 #[.int .i64 n] w fun e w' => e = .returned (.string ⟨(Lib.itoa n).toArray⟩) ∧ ∃ k os, w' = grow (w.drewN k) os := Any.strconv_Itoa Tryz.laysM171 n h0 h1 w htab
open Go.RowKit Go.Lib in
def Tryz.lays101_ren : Go.Shelf.Ren := ⟨fun | 101 => 142 | 208 => 183 | 206 => 192 | n => n, fun | 9 => 9 | 4 => 4 | 3 => 3 | n => n, fun | n => n⟩
theorem Tryz.lays101 : Go.Proofs.Lays.n101 Tryz.prog Tryz.lays101_ren := {
  mixed := by kernel_rfl
  f101 := Tryz.func142.trans (congrArg some (by kernel_rfl))
  f206 := Tryz.func192.trans (congrArg some (by kernel_rfl))
  f208 := Tryz.func183.trans (congrArg some (by kernel_rfl))
  t3 := Tryz.underlying3
  a3 := Tryz.isAgg3
  z3 := Tryz.sizeOf3
  v3 := Tryz.zeroValue3
  t4 := Tryz.underlying4
  a4 := Tryz.isAgg4
  z4 := Tryz.sizeOf4
  v4 := Tryz.zeroValue4
  t9 := Tryz.underlying9
  a9 := Tryz.isAgg9
  z9 := Tryz.sizeOf9
  v9 := Tryz.zeroValue9 }
open Go.RowKit Go.Lib in
/-- strings.TrimPrefix: "TrimPrefix returns s without the provided leading prefix string. If s doesn't start with prefix, s is returned unchanged.": IT RETURNS 'Lib.trimPrefix s prefix'; the world is as it was. (LAID: no walk: one application.) -/
theorem Tryz.strings_TrimPrefix (s p : ByteArray) (w : World) :
    Calls Tryz.prog 142 #[.string s, .string p] w fun e w' => e = .returned (.string ⟨(Lib.trimPrefix s.data.toList p.data.toList).toArray⟩) ∧ w' = w := Any.strings_TrimPrefix Tryz.lays101 s p w
def Tryz.lays107_ren : Go.Shelf.Ren := ⟨fun | 107 => 90 | 108 => 141 | n => n, fun | 28 => 22 | 3 => 3 | 4 => 4 | 0 => 0 | n => n, fun | n => n⟩
theorem Tryz.lays107 : Go.Proofs.Lays.n107 Tryz.prog Tryz.lays107_ren := {
  mixed := by kernel_rfl
  f107 := Tryz.func90.trans (congrArg some (by kernel_rfl))
  f108 := Tryz.func141.trans (congrArg some (by kernel_rfl))
  t0 := Tryz.underlying0
  a0 := Tryz.isAgg0
  z0 := Tryz.sizeOf0
  v0 := Tryz.zeroValue0
  t3 := Tryz.underlying3
  a3 := Tryz.isAgg3
  z3 := Tryz.sizeOf3
  v3 := Tryz.zeroValue3
  t4 := Tryz.underlying4
  a4 := Tryz.isAgg4
  z4 := Tryz.sizeOf4
  v4 := Tryz.zeroValue4
  t28 := Tryz.underlying22
  a28 := Tryz.isAgg22
  z28 := Tryz.sizeOf22
  v28 := Tryz.zeroValue22 }
open Go.Lib in
/-- slices.Contains at []int: "Contains reports whether v is present in s.": IT RETURNS 'elements.contains v'; the world is as it was. ITS CALLEE slices.Index IS MET BY ITS OWN CONTRACT OFF THE SHELF (lay that first): no loop is walked here. (LAID: no walk: one application.) -/
theorem Tryz.slices_Contains_int (b off n c : Nat) (zs : List Int) (x : Int) (w : World) (hz : n ≤ zs.length) (hbig : n ≤ 9223372036854775807) (hc : ∀ j, j < zs.length → w.cell? ⟨b, off + j, none⟩ = some (.int .i64 (zs.getD j 0))) :
    Calls Tryz.prog 90 #[.slice (some ⟨b, off, none⟩) n c, .int .i64 x] w fun e w' => e = .returned (.bool ((zs.take n).contains x)) ∧ w' = w := Any.slices_Contains_int Tryz.lays107 b off n c zs x w hz hbig hc
open Go.Lib in
def Tryz.lays109_ren : Go.Shelf.Ren := ⟨fun | 109 => 126 | n => n, fun | 31 => 41 | 9 => 9 | 3 => 3 | 0 => 0 | 4 => 4 | n => n, fun | n => n⟩
theorem Tryz.lays109 : Go.Proofs.Lays.n109 Tryz.prog Tryz.lays109_ren := {
  mixed := by kernel_rfl
  f109 := Tryz.func126.trans (congrArg some (by kernel_rfl))
  t0 := Tryz.underlying0
  a0 := Tryz.isAgg0
  z0 := Tryz.sizeOf0
  v0 := Tryz.zeroValue0
  t3 := Tryz.underlying3
  a3 := Tryz.isAgg3
  z3 := Tryz.sizeOf3
  v3 := Tryz.zeroValue3
  t4 := Tryz.underlying4
  a4 := Tryz.isAgg4
  z4 := Tryz.sizeOf4
  v4 := Tryz.zeroValue4
  t9 := Tryz.underlying9
  a9 := Tryz.isAgg9
  z9 := Tryz.sizeOf9
  v9 := Tryz.zeroValue9
  t31 := Tryz.underlying41
  a31 := Tryz.isAgg41
  z31 := Tryz.sizeOf41
  v31 := Tryz.zeroValue41 }
open Go.Lib in
/-- slices.Index at []string: "Index returns the index of the first occurrence of v in s, or -1 if not present.": IT RETURNS 'Lib.idxOfS (the elements) v'; the world is as it was. 'zs': what the cells behind the slice's address hold (its spare capacity too, if you have it); 'zs.take n': its elements. (LAID: no walk: one application.) -/
theorem Tryz.slices_Index_string (b off n c : Nat) (zs : List ByteArray) (x : ByteArray) (w : World) (hz : n ≤ zs.length) (hbig : n ≤ 9223372036854775807) (hc : ∀ j, j < zs.length → w.cell? ⟨b, off + j, none⟩ = some (.string (zs.getD j ByteArray.empty))) :
    Calls Tryz.prog 126 #[.slice (some ⟨b, off, none⟩) n c, .string x] w fun e w' => e = .returned (.int .i64 (Lib.idxOfS (zs.take n) x)) ∧ w' = w := Any.slices_Index_string Tryz.lays109 b off n c zs x w hz hbig hc
open Go.Lib in
def Tryz.lays111_ren : Go.Shelf.Ren := ⟨fun | 111 => 86 | n => n, fun | 28 => 22 | 3 => 3 | 4 => 4 | 0 => 0 | n => n, fun | n => n⟩
theorem Tryz.lays111 : Go.Proofs.Lays.n111 Tryz.prog Tryz.lays111_ren := {
  mixed := by kernel_rfl
  f111 := Tryz.func86.trans (congrArg some (by kernel_rfl))
  t0 := Tryz.underlying0
  a0 := Tryz.isAgg0
  z0 := Tryz.sizeOf0
  v0 := Tryz.zeroValue0
  t3 := Tryz.underlying3
  a3 := Tryz.isAgg3
  z3 := Tryz.sizeOf3
  v3 := Tryz.zeroValue3
  t4 := Tryz.underlying4
  a4 := Tryz.isAgg4
  z4 := Tryz.sizeOf4
  v4 := Tryz.zeroValue4
  t28 := Tryz.underlying22
  a28 := Tryz.isAgg22
  z28 := Tryz.sizeOf22
  v28 := Tryz.zeroValue22 }
open Go.RowKit Go.Lib in
/-- slices.Equal at []int: "Equal reports whether two slices are equal: the same length and all elements equal. If the lengths are different, Equal returns false. Otherwise, the elements are compared in increasing index order, and the comparison stops at the first unequal pair. Empty and nil slices are considered equal.": IT RETURNS WHETHER THE TWO LISTS OF ELEMENTS ARE ONE; the world is as it was but for the count of draws (the test 's1[i] != s2[i]' has two reads, whose order the model draws, once a round). 'xs', 'ys': what the cells behind the two addresses hold (the spare capacity too, if you have it); 'xs.take n', 'ys.take m': the elements. THE TWO SLICES MAY OVERLAP. (LAID: no walk: one application.) -/
theorem Tryz.slices_Equal_int (b1 o1 n c b2 o2 m d : Nat) (xs ys : List Int) (w : World) (hx : n ≤ xs.length) (hy : m ≤ ys.length) (hbig : n ≤ 9223372036854775807) (hbig2 : m ≤ 9223372036854775807) (hc1 : ∀ j, j < xs.length → w.cell? ⟨b1, o1 + j, none⟩ = some (.int .i64 (xs.getD j 0))) (hc2 : ∀ j, j < ys.length → w.cell? ⟨b2, o2 + j, none⟩ = some (.int .i64 (ys.getD j 0))) :
    Calls Tryz.prog 86 #[.slice (some ⟨b1, o1, none⟩) n c, .slice (some ⟨b2, o2, none⟩) m d] w fun e w' => e = .returned (.bool (xs.take n == ys.take m)) ∧ ∃ q, w' = w.drewN q := Any.slices_Equal_int Tryz.lays111 b1 o1 n c b2 o2 m d xs ys w hx hy hbig hbig2 hc1 hc2
open Go.RowKit Go.Lib in
/-- The same where the first is of length 0 (a nil one too): no cell is asked for. (LAID: no walk: one application.) -/
theorem Tryz.slices_Equal_int_empty (a1 a2 : Option Addr) (c m d : Nat) (w : World) (hbig2 : m ≤ 9223372036854775807) :
    Calls Tryz.prog 86 #[.slice a1 0 c, .slice a2 m d] w fun e w' => e = .returned (.bool (decide (m = 0))) ∧ w' = w := Any.slices_Equal_int_empty Tryz.lays111 a1 a2 c m d w hbig2
def Tryz.laysNm215_ren : Go.Shelf.Ren := ⟨fun | 15 => 80 | n => n, fun | 22 => 22 | 3 => 3 | 4 => 4 | n => n, fun | n => n⟩
theorem Tryz.laysNm215 : Go.Proofs.Lays2.n15 Tryz.prog Tryz.laysNm215_ren := {
  mixed := by kernel_rfl
  f15 := Tryz.func80.trans (congrArg some (by kernel_rfl))
  t3 := Tryz.underlying3
  a3 := Tryz.isAgg3
  z3 := Tryz.sizeOf3
  v3 := Tryz.zeroValue3
  t4 := Tryz.underlying4
  a4 := Tryz.isAgg4
  z4 := Tryz.sizeOf4
  v4 := Tryz.zeroValue4
  t22 := Tryz.underlying22
  a22 := Tryz.isAgg22
  z22 := Tryz.sizeOf22
  v22 := Tryz.zeroValue22
  i3 := by kernel_rfl }
open Go.RowKit Go.Lib in
/-- slices.Clone at []int: "Clone returns a copy of the slice. The elements are copied using assignment, so this is a shallow clone. The result may have additional unused capacity. The result preserves the nilness of s.": OF A SLICE THAT IS NOT nil IT RETURNS A SLICE THAT IS NOT nil, OF THE SAME ELEMENTS, IN MEMORY OF THE CALL's OWN: in the how-to's words (6f): 'w'.ownsRow B e 1 v' n cells': v' begins at the head of a row among the blocks from B on (B: the heap's size at the call), not frozen, whose first cells are the elements · 'Below B w w'': below B all is as it was. The capacity is whatever the run-time gives. 'zs': what the cells behind the slice's address hold; 'zs.take n': its elements. (LAID: no walk: one application.) -/
theorem Tryz.slices_Clone_int (b off n c : Nat) (zs : List Int) (w : World) (hz : n ≤ zs.length) (hbig : n * 8 ≤ 140737488355328) (hc : ∀ j, j < zs.length → w.cell? ⟨b, off + j, none⟩ = some (.int .i64 (zs.getD j 0))) :
    Calls Tryz.prog 80 #[.slice (some ⟨b, off, none⟩) n c] w fun e w' => ∃ v', e = .returned v' ∧ w'.ownsRow w.heap.size 3 1 v' n ((zs.take n).map (Value.int .i64)) ∧ v' ≠ .slice none 0 0 ∧ Below w.heap.size w w' := Any.slices_Clone_int Tryz.laysNm215 b off n c zs w hz hbig hc
open Go.RowKit Go.Lib in
/-- The same at nil: nil comes back; the world is as it was. (LAID: no walk: one application.) -/
theorem Tryz.slices_Clone_int_nil (n c : Nat) (w : World) :
    Calls Tryz.prog 80 #[.slice none n c] w fun e w' => e = .returned (.slice none 0 0) ∧ w' = w := Any.slices_Clone_int_nil Tryz.laysNm215 n c w
open Go.RowKit Go.Lib in
open Go.RowKit Go.Lib in
open Go.RowKit Go.Lib in
/-- The same at a slice of length 0 that is not nil, WHATEVER ITS ADDRESS (no cell is asked for): a slice that is not nil and owns nothing comes back. (LAID: no walk: one application.) -/
theorem Tryz.slices_Clone_int_zero (a : Addr) (c : Nat) (w : World) :
    Calls Tryz.prog 80 #[.slice (some a) 0 c] w fun e w' => ∃ v', e = .returned v' ∧ w'.ownsRow w.heap.size 3 1 v' 0 [] ∧ v' ≠ .slice none 0 0 ∧ Below w.heap.size w w' := Any.slices_Clone_int_zero Tryz.laysNm215 a c w
open Go.RowKit Go.Lib in
open Go.RowKit Go.Lib Go.Sort in
open Go.RowKit Go.Lib Go.Sort in
open Go.RowKit Go.Lib Go.Sort in
open Go.RowKit Go.Lib in
open Go.RowKit Go.Lib in
def Tryz.laysSlN33_f25_ren : Go.Shelf.Ren := ⟨fun | 33 => 25 | n => n, fun | 22 => 26 | 23 => 2 | 4 => 4 | 3 => 3 | 0 => 0 | n => n, fun | n => n⟩
theorem Tryz.laysSlN33_f25 : Go.Proofs.SlLaysN.n33 Tryz.prog Tryz.laysSlN33_f25_ren := {
  mixed := by kernel_rfl
  f33 := ⟨Tryz.f25.name, by decide, Tryz.func25.trans (congrArg some (by kernel_rfl))⟩
  t0 := Tryz.underlying0
  a0 := Tryz.isAgg0
  z0 := Tryz.sizeOf0
  v0 := Tryz.zeroValue0
  t3 := Tryz.underlying3
  a3 := Tryz.isAgg3
  z3 := Tryz.sizeOf3
  v3 := Tryz.zeroValue3
  t4 := Tryz.underlying4
  a4 := Tryz.isAgg4
  z4 := Tryz.sizeOf4
  v4 := Tryz.zeroValue4
  t22 := Tryz.underlying26
  a22 := Tryz.isAgg26
  z22 := Tryz.sizeOf26
  v22 := Tryz.zeroValue26
  t23 := Tryz.underlying2
  a23 := Tryz.isAgg2
  z23 := Tryz.sizeOf2
  v23 := Tryz.zeroValue2 }
open Go.RowKit Go.Lib in
/-- slices.Equal at []int: "Equal reports whether two slices are equal: the same length and all elements equal. If the lengths are different, Equal returns false. Otherwise, the elements are compared in increasing index order, and the comparison stops at the first unequal pair. Empty and nil slices are considered equal.": IT RETURNS WHETHER THE TWO LISTS OF ELEMENTS ARE ONE; the world is as it was but for the count of draws (the test 's1[i] != s2[i]' has two reads, whose order the model draws, once a round). 'xs', 'ys': what the cells behind the two addresses hold (the spare capacity too, if you have it); 'xs.take n', 'ys.take m': the elements. THE TWO SLICES MAY OVERLAP. (LAID AT THE INSTANCE 'slices.Equal[[]int64,int64]': no walk: one application.) -/
theorem Tryz.slices_Equal_int_f25 (b1 o1 n c b2 o2 m d : Nat) (xs ys : List Int) (w : World) (hx : n ≤ xs.length) (hy : m ≤ ys.length) (hbig : n ≤ 9223372036854775807) (hbig2 : m ≤ 9223372036854775807) (hc1 : ∀ j, j < xs.length → w.cell? ⟨b1, o1 + j, none⟩ = some (.int .i64 (xs.getD j 0))) (hc2 : ∀ j, j < ys.length → w.cell? ⟨b2, o2 + j, none⟩ = some (.int .i64 (ys.getD j 0))) :
    Calls Tryz.prog 25 #[.slice (some ⟨b1, o1, none⟩) n c, .slice (some ⟨b2, o2, none⟩) m d] w fun e w' => e = .returned (.bool (xs.take n == ys.take m)) ∧ ∃ q, w' = w.drewN q := AnyG.slices_Equal_int Tryz.laysSlN33_f25 b1 o1 n c b2 o2 m d xs ys w hx hy hbig hbig2 hc1 hc2
open Go.RowKit Go.Lib in
/-- The same where the first is of length 0 (a nil one too): no cell is asked for. (LAID AT THE INSTANCE 'slices.Equal[[]int64,int64]': no walk: one application.) -/
theorem Tryz.slices_Equal_int_empty_f25 (a1 a2 : Option Addr) (c m d : Nat) (w : World) (hbig2 : m ≤ 9223372036854775807) :
    Calls Tryz.prog 25 #[.slice a1 0 c, .slice a2 m d] w fun e w' => e = .returned (.bool (decide (m = 0))) ∧ w' = w := AnyG.slices_Equal_int_empty Tryz.laysSlN33_f25 a1 a2 c m d w hbig2
def Tryz.laysSlN41_f30_ren : Go.Shelf.Ren := ⟨fun | 41 => 30 | n => n, fun | 22 => 26 | 23 => 2 | 4 => 4 | n => n, fun | n => n⟩
theorem Tryz.laysSlN41_f30 : Go.Proofs.SlLaysN.n41 Tryz.prog Tryz.laysSlN41_f30_ren := {
  mixed := by kernel_rfl
  f41 := ⟨Tryz.f30.name, by decide, Tryz.func30.trans (congrArg some (by kernel_rfl))⟩
  t4 := Tryz.underlying4
  a4 := Tryz.isAgg4
  z4 := Tryz.sizeOf4
  v4 := Tryz.zeroValue4
  t22 := Tryz.underlying26
  a22 := Tryz.isAgg26
  z22 := Tryz.sizeOf26
  v22 := Tryz.zeroValue26
  t23 := Tryz.underlying2
  a23 := Tryz.isAgg2
  z23 := Tryz.sizeOf2
  v23 := Tryz.zeroValue2
  i23 := by kernel_rfl }
open Go.RowKit Go.Lib in
/-- slices.Clone at []int: "Clone returns a copy of the slice. The elements are copied using assignment, so this is a shallow clone. The result may have additional unused capacity. The result preserves the nilness of s.": OF A SLICE THAT IS NOT nil IT RETURNS A SLICE THAT IS NOT nil, OF THE SAME ELEMENTS, IN MEMORY OF THE CALL's OWN: in the how-to's words (6f): 'w'.ownsRow B e 1 v' n cells': v' begins at the head of a row among the blocks from B on (B: the heap's size at the call), not frozen, whose first cells are the elements · 'Below B w w'': below B all is as it was. The capacity is whatever the run-time gives. 'zs': what the cells behind the slice's address hold; 'zs.take n': its elements. (LAID AT THE INSTANCE 'slices.Clone[[]int64,int64]': no walk: one application.) -/
theorem Tryz.slices_Clone_int_f30 (b off n c : Nat) (zs : List Int) (w : World) (hz : n ≤ zs.length) (hbig : n * 8 ≤ 140737488355328) (hc : ∀ j, j < zs.length → w.cell? ⟨b, off + j, none⟩ = some (.int .i64 (zs.getD j 0))) :
    Calls Tryz.prog 30 #[.slice (some ⟨b, off, none⟩) n c] w fun e w' => ∃ v', e = .returned v' ∧ w'.ownsRow w.heap.size 2 1 v' n ((zs.take n).map (Value.int .i64)) ∧ v' ≠ .slice none 0 0 ∧ Below w.heap.size w w' := AnyG.slices_Clone_int Tryz.laysSlN41_f30 b off n c zs w hz hbig hc
open Go.RowKit Go.Lib in
/-- The same at nil: nil comes back; the world is as it was. (LAID AT THE INSTANCE 'slices.Clone[[]int64,int64]': no walk: one application.) -/
theorem Tryz.slices_Clone_int_nil_f30 (n c : Nat) (w : World) :
    Calls Tryz.prog 30 #[.slice none n c] w fun e w' => e = .returned (.slice none 0 0) ∧ w' = w := AnyG.slices_Clone_int_nil Tryz.laysSlN41_f30 n c w
open Go.RowKit Go.Lib in
/-- The same at a slice of length 0 that is not nil, WHATEVER ITS ADDRESS (no cell is asked for): a slice that is not nil and owns nothing comes back. (LAID AT THE INSTANCE 'slices.Clone[[]int64,int64]': no walk: one application.) -/
theorem Tryz.slices_Clone_int_zero_f30 (a : Addr) (c : Nat) (w : World) :
    Calls Tryz.prog 30 #[.slice (some a) 0 c] w fun e w' => ∃ v', e = .returned v' ∧ w'.ownsRow w.heap.size 2 1 v' 0 [] ∧ v' ≠ .slice none 0 0 ∧ Below w.heap.size w w' := AnyG.slices_Clone_int_zero Tryz.laysSlN41_f30 a c w
def Tryz.laysSlM5_f49_ren : Go.Shelf.Ren := ⟨fun | 5 => 49 | 8 => 89 | 7 => 88 | 19 => 139 | 20 => 140 | 10 => 130 | 11 => 131 | 12 => 132 | 13 => 133 | 14 => 134 | 15 => 135 | 16 => 136 | 17 => 137 | 18 => 138 | 30 => 177 | 31 => 178 | 32 => 179 | 33 => 180 | 34 => 181 | 35 => 182 | 40 => 209 | n => n, fun | 23 => 26 | 25 => 2 | 3 => 3 | 32 => 156 | 22 => 26 | 0 => 0 | 44 => 206 | 46 => 208 | 4 => 4 | 36 => 199 | 35 => 198 | 41 => 145 | 5 => 5 | 9 => 9 | 53 => 245 | 57 => 249 | 63 => 287 | 64 => 288 | n => n, fun | n => n⟩
theorem Tryz.laysSlM5_f49 : Go.Proofs.SlLaysM.n5 Tryz.prog Tryz.laysSlM5_f49_ren := {
  mixed := by kernel_rfl
  f5 := ⟨Tryz.f49.name, by decide, Tryz.func49.trans (congrArg some (by kernel_rfl))⟩
  f7 := ⟨Tryz.f88.name, by decide, Tryz.func88.trans (congrArg some (by kernel_rfl))⟩
  f8 := Tryz.func89.trans (congrArg some (by kernel_rfl))
  f10 := ⟨Tryz.f130.name, by decide, Tryz.func130.trans (congrArg some (by kernel_rfl))⟩
  f11 := ⟨Tryz.f131.name, by decide, Tryz.func131.trans (congrArg some (by kernel_rfl))⟩
  f12 := ⟨Tryz.f132.name, by decide, Tryz.func132.trans (congrArg some (by kernel_rfl))⟩
  f13 := ⟨Tryz.f133.name, by decide, Tryz.func133.trans (congrArg some (by kernel_rfl))⟩
  f14 := ⟨Tryz.f134.name, by decide, Tryz.func134.trans (congrArg some (by kernel_rfl))⟩
  f15 := ⟨Tryz.f135.name, by decide, Tryz.func135.trans (congrArg some (by kernel_rfl))⟩
  f16 := ⟨Tryz.f136.name, by decide, Tryz.func136.trans (congrArg some (by kernel_rfl))⟩
  f17 := ⟨Tryz.f137.name, by decide, Tryz.func137.trans (congrArg some (by kernel_rfl))⟩
  f18 := ⟨Tryz.f138.name, by decide, Tryz.func138.trans (congrArg some (by kernel_rfl))⟩
  f19 := Tryz.func139.trans (congrArg some (by kernel_rfl))
  f20 := Tryz.func140.trans (congrArg some (by kernel_rfl))
  f30 := ⟨Tryz.f177.name, by decide, Tryz.func177.trans (congrArg some (by kernel_rfl))⟩
  f31 := Tryz.func178.trans (congrArg some (by kernel_rfl))
  f32 := Tryz.func179.trans (congrArg some (by kernel_rfl))
  f33 := ⟨Tryz.f180.name, by decide, Tryz.func180.trans (congrArg some (by kernel_rfl))⟩
  f34 := ⟨Tryz.f181.name, by decide, Tryz.func181.trans (congrArg some (by kernel_rfl))⟩
  f35 := ⟨Tryz.f182.name, by decide, Tryz.func182.trans (congrArg some (by kernel_rfl))⟩
  f40 := ⟨Tryz.f209.name, by decide, Tryz.func209.trans (congrArg some (by kernel_rfl))⟩
  t0 := Tryz.underlying0
  a0 := Tryz.isAgg0
  z0 := Tryz.sizeOf0
  v0 := Tryz.zeroValue0
  t3 := Tryz.underlying3
  a3 := Tryz.isAgg3
  z3 := Tryz.sizeOf3
  v3 := Tryz.zeroValue3
  t4 := Tryz.underlying4
  a4 := Tryz.isAgg4
  z4 := Tryz.sizeOf4
  v4 := Tryz.zeroValue4
  t5 := Tryz.underlying5
  a5 := Tryz.isAgg5
  z5 := Tryz.sizeOf5
  v5 := Tryz.zeroValue5
  t9 := Tryz.underlying9
  a9 := Tryz.isAgg9
  z9 := Tryz.sizeOf9
  v9 := Tryz.zeroValue9
  t22 := Tryz.underlying26
  a22 := Tryz.isAgg26
  z22 := Tryz.sizeOf26
  v22 := Tryz.zeroValue26
  t23 := Tryz.underlying26
  a23 := Tryz.isAgg26
  z23 := Tryz.sizeOf26
  v23 := Tryz.zeroValue26
  t25 := Tryz.underlying2
  a25 := Tryz.isAgg2
  z25 := Tryz.sizeOf2
  v25 := Tryz.zeroValue2
  t32 := Tryz.underlying156
  a32 := Tryz.isAgg156
  z32 := Tryz.sizeOf156
  v32 := Tryz.zeroValue156
  t35 := Tryz.underlying198
  a35 := Tryz.isAgg198
  z35 := Tryz.sizeOf198
  v35 := Tryz.zeroValue198
  t36 := Tryz.underlying199
  a36 := Tryz.isAgg199
  z36 := Tryz.sizeOf199
  v36 := Tryz.zeroValue199
  t41 := Tryz.underlying145
  a41 := Tryz.isAgg145
  z41 := Tryz.sizeOf145
  v41 := Tryz.zeroValue145
  t44 := Tryz.underlying206
  a44 := Tryz.isAgg206
  z44 := Tryz.sizeOf206
  v44 := Tryz.zeroValue206
  t46 := Tryz.underlying208
  a46 := Tryz.isAgg208
  z46 := Tryz.sizeOf208
  v46 := Tryz.zeroValue208
  t53 := Tryz.underlying245
  a53 := Tryz.isAgg245
  z53 := Tryz.sizeOf245
  v53 := Tryz.zeroValue245
  t57 := Tryz.underlying249
  a57 := Tryz.isAgg249
  z57 := Tryz.sizeOf249
  v57 := Tryz.zeroValue249
  t63 := Tryz.underlying287
  a63 := Tryz.isAgg287
  z63 := Tryz.sizeOf287
  v63 := Tryz.zeroValue287
  t64 := Tryz.underlying288
  a64 := Tryz.isAgg288
  z64 := Tryz.sizeOf288
  v64 := Tryz.zeroValue288 }
open Go.Sort Go.RowKit in
theorem Tryz.slices_Sort_int (blk off cap : Nat) (zs : List Int) (w : World) (hH : Holds (Value.int .i64) w blk off zs.toArray) (hblk : blk < w.heap.size) (hsz : zs.length < 4611686018427387904) :
    Calls Tryz.prog 49 #[.slice (some ⟨blk, off, none⟩) zs.length cap] w fun e w' =>
      e = .returned (.tuple #[]) ∧ ∃ n os, w' = grow (putRow (Value.int .i64) (Sort.ahead w n) blk off (zs.mergeSort fun x y => decide (x ≤ y)).toArray) os := AnyM.slices_Sort_int Tryz.laysSlM5_f49 blk off cap zs w hH hblk hsz
open Go.RowKit Go.Sort in
/-- .. and plain. (LAID AT THE INSTANCE 'slices.Sort[[]int64,int64]': no walk: one application.) -/
theorem Tryz.slices_Sort_int_none (p : Option Addr) (cap : Nat) (w : World) :
    Calls Tryz.prog 49 #[.slice p 0 cap] w fun e w' => e = .returned (.tuple #[]) ∧ w' = w := AnyM.slices_Sort_int_none Tryz.laysSlM5_f49 p cap w
end Go.Proofs

