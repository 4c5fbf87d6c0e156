/- Contracts of Go's library at this program, laid by the kit's tool, in plain words. -/
import Derived.Shelf.Strings.Builder1
import Derived.Shelf.Strings.Builder2
import Derived.Shelf.Strings.OnBuilder
import Derived.Shelf.Strings.Trim
import Derived.Shelf.Small.Utf8
import Derived.Shelf.Small.Strs
import Derived.Shelf.Strings.BuilderF
import Derived.Shelf.Strings.BuilderK
import Derived.Shelf.Utf8.RuneCount
import Derived.Shelf.Strconv.Atoi
import Derived.Shelf.Strconv.Itoa0
import Derived.Shelf.Strconv.Itoa1
import Derived.Shelf.LaysM
import Derived.Shelf.Strconv.Itoa2
import Derived.Shelf.Strconv.Itoa3
import Derived.Shelf.Strconv.AtoiErrFast
import Derived.Shelf.Strconv.ParseIntEmpty
import Derived.Shelf.Strconv.AtoiFail
import Derived.Shelf.Strconv.Clone
import Derived.Shelf.Strconv.SyntaxError
import Derived.Shelf.LaysC
import Derived.Shelf.Strconv.ToError
import Derived.Shelf.Strconv.Lower
import Derived.Shelf.Strconv.ParseUint10
import Derived.Shelf.Strconv.ParseUint10Empty
import Derived.Shelf.Strconv.ParseUint10Any
import Derived.Shelf.Strconv.ParseInt10
import Derived.Shelf.Strconv.AtoiLong
import Derived.Shelf.Strconv.AtoiInnerAll
import Derived.Shelf.Strconv.RangeError
import Derived.Shelf.Strconv.ToErrorRange
import Derived.Shelf.Strconv.AtoiAll
import Derived.Shelf.Strconv.ErrVarAll
import Derived.Shelf.Strings.Search1
import Derived.Shelf.Strings.Search2
import Derived.Shelf.Strings.Search3
import Derived.Shelf.Strings.Cut
import Derived.Shelf.Strings.Count
import Derived.Shelf.Strings.Shaped
import Derived.Shelf.Strings.LastIndex
import Derived.Shelf.Strings.Prefix
import Derived.Shelf.Strings.Split
import Derived.Shelf.Strings.Fold
import Derived.Shelf.Strings.SplitShaped
import Derived.Shelf.Unicode.Decode
import Derived.Shelf.Strings.Runes
import Derived.Shelf.Strings.RuneCount
import Derived.Shelf.Strings.AsciiSet
import Derived.Shelf.Strings.Explode
import Derived.Shelf.Bits.Mul64
import Derived.Shelf.Unicode.DecodeSlow
import Derived.Shelf.Unicode.DecodeAny
import Derived.Shelf.Unicode.DecodeLast
import Derived.Shelf.Unicode.CaseLookup
import Derived.Shelf.Unicode.CaseConvert
import Derived.Shelf.Bytes.SlClone
import Derived.Test.YtblngdnndkljoaaDoorProg
namespace Go.Proofs
open Go.Shelf Go.RowKit Go.Lib Go.Sort
def Tryd.lays156_ren : Go.Shelf.Ren := ⟨fun | 156 => 74 | 165 => 102 | 166 => 103 | 169 => 51 | 240 => 82 | 241 => 137 | 276 => 114 | 277 => 161 | n => n, fun | 31 => 83 | 9 => 9 | 3 => 3 | 4 => 4 | 0 => 0 | 20 => 20 | 72 => 67 | 76 => 76 | 70 => 65 | 37 => 27 | 75 => 69 | 127 => 93 | 164 => 126 | 5 => 5 | 80 => 71 | n => n, fun | n => n⟩
theorem Tryd.lays156 : Go.Proofs.Lays.n156 Tryd.prog Tryd.lays156_ren := {
  mixed := by kernel_rfl
  f156 := Tryd.func74.trans (congrArg some (by kernel_rfl))
  f165 := Tryd.func102.trans (congrArg some (by kernel_rfl))
  f166 := Tryd.func103.trans (congrArg some (by kernel_rfl))
  f169 := Tryd.func51.trans (congrArg some (by kernel_rfl))
  f240 := Tryd.func82.trans (congrArg some (by kernel_rfl))
  f241 := Tryd.func137.trans (congrArg some (by kernel_rfl))
  f276 := Tryd.func114.trans (congrArg some (by kernel_rfl))
  f277 := Tryd.func161.trans (congrArg some (by kernel_rfl))
  t0 := Tryd.underlying0
  a0 := Tryd.isAgg0
  z0 := Tryd.sizeOf0
  v0 := Tryd.zeroValue0
  t3 := Tryd.underlying3
  a3 := Tryd.isAgg3
  z3 := Tryd.sizeOf3
  v3 := Tryd.zeroValue3
  t4 := Tryd.underlying4
  a4 := Tryd.isAgg4
  z4 := Tryd.sizeOf4
  v4 := Tryd.zeroValue4
  t9 := Tryd.underlying9
  a9 := Tryd.isAgg9
  z9 := Tryd.sizeOf9
  v9 := Tryd.zeroValue9
  t20 := Tryd.underlying20
  a20 := Tryd.isAgg20
  z20 := Tryd.sizeOf20
  v20 := Tryd.zeroValue20
  t31 := Tryd.underlying83
  a31 := Tryd.isAgg83
  z31 := Tryd.sizeOf83
  v31 := Tryd.zeroValue83
  t37 := Tryd.underlying27
  a37 := Tryd.isAgg27
  z37 := Tryd.sizeOf27
  v37 := Tryd.zeroValue27
  t70 := Tryd.underlying65
  a70 := Tryd.isAgg65
  z70 := Tryd.sizeOf65
  v70 := Tryd.zeroValue65
  t72 := Tryd.underlying67
  a72 := Tryd.isAgg67
  z72 := Tryd.sizeOf67
  v72 := Tryd.zeroValue67
  t75 := Tryd.underlying69
  a75 := Tryd.isAgg69
  z75 := Tryd.sizeOf69
  v75 := Tryd.zeroValue69
  t76 := Tryd.underlying76
  a76 := Tryd.isAgg76
  z76 := Tryd.sizeOf76
  v76 := Tryd.zeroValue76
  t127 := Tryd.underlying93
  a127 := Tryd.isAgg93
  z127 := Tryd.sizeOf93
  v127 := Tryd.zeroValue93
  t164 := Tryd.underlying126
  a164 := Tryd.isAgg126
  z164 := Tryd.sizeOf126
  v164 := Tryd.zeroValue126 }
theorem Tryd.Builder_Extra_156 : Builder.Extra Tryd.prog Tryd.lays156_ren := {
  sizeBuilder := by kernel_rfl
  liesBuilder := by kernel_rfl
  t5 := Tryd.underlying5
  a5 := Tryd.isAgg5
  z5 := Tryd.sizeOf5
  v5 := Tryd.zeroValue5
  infoByte := by kernel_rfl
  cellsByte := by kernel_rfl
  sizeByte := by kernel_rfl
  neB5 := by decide }
theorem Tryd.strings_Join_none (a : Option Addr) (c : Nat) (sep : ByteArray) (w : World) :
    Calls Tryd.prog 74 #[.slice a 0 c, .string sep] w fun e w' => e = .returned (.string ⟨#[]⟩) ∧ w' = w := Any.strings_Join_none Tryd.lays156 Tryd.Builder_Extra_156 a c sep w
theorem Tryd.strings_Join (bk o c : Nat) (xs : List ByteArray) (sep : ByteArray) (w : World) (hcells : ∀ (j : Nat) x, xs[j]? = some x → w.cell? ⟨bk, o + j, none⟩ = some (.string x)) (hbk : bk < w.heap.size) (hN : xs.length ≤ 140737488355328) (hcap : xs.length ≤ c) (hlen : (Lib.join (xs.map (·.data.toList)) sep.data.toList).length ≤ 140737488355328) :
    Calls Tryd.prog 74 #[.slice (some ⟨bk, o, none⟩) xs.length c, .string sep] w fun e w' => e = .returned (.string ⟨(Lib.join (xs.map (·.data.toList)) sep.data.toList).toArray⟩) ∧ Below w.heap.size w w' := Any.strings_Join Tryd.lays156 Tryd.Builder_Extra_156 bk o c xs sep w hcells hbk hN hcap hlen
def Tryd.laysC172_ren : Go.Shelf.Ren := ⟨fun | 172 => 64 | 244 => 96 | 245 => 97 | 247 => 129 | 279 => 130 | 280 => 131 | 281 => 132 | 282 => 133 | 287 => 158 | 316 => 159 | 171 => 66 | 205 => 160 | 321 => 176 | 322 => 177 | 243 => 100 | 246 => 104 | 283 => 138 | 284 => 139 | 285 => 140 | 286 => 141 | 129 => 163 | 317 => 162 | 318 => 164 | 319 => 165 | 320 => 166 | 337 => 178 | 338 => 179 | n => n, fun | 9 => 9 | 3 => 3 | 75 => 69 | 76 => 76 | 4 => 4 | 5 => 5 | 167 => 143 | 37 => 27 | 0 => 0 | 85 => 144 | 2 => 2 | 168 => 146 | 53 => 101 | 175 => 172 | 46 => 38 | 210 => 175 | 127 => 93 | 145 => 194 | 143 => 192 | 21 => 21 | 171 => 150 | 173 => 153 | 212 => 179 | 51 => 97 | 20 => 20 | 213 => 180 | 232 => 197 | 233 => 198 | 80 => 71 | n => n, fun | 15 => 6 | 16 => 7 | 17 => 8 | 18 => 9 | 19 => 10 | n => n⟩
theorem Tryd.laysC172 : Go.Proofs.LaysC.n172 Tryd.prog Tryd.laysC172_ren := {
  mixed := by kernel_rfl
  f129 := Tryd.func163.trans (congrArg some (by kernel_rfl))
  f171 := Tryd.func66.trans (congrArg some (by kernel_rfl))
  f172 := Tryd.func64.trans (congrArg some (by kernel_rfl))
  f205 := Tryd.func160.trans (congrArg some (by kernel_rfl))
  f243 := Tryd.func100.trans (congrArg some (by kernel_rfl))
  f244 := Tryd.func96.trans (congrArg some (by kernel_rfl))
  f245 := Tryd.func97.trans (congrArg some (by kernel_rfl))
  f246 := Tryd.func104.trans (congrArg some (by kernel_rfl))
  f247 := Tryd.func129.trans (congrArg some (by kernel_rfl))
  f279 := Tryd.func130.trans (congrArg some (by kernel_rfl))
  f280 := Tryd.func131.trans (congrArg some (by kernel_rfl))
  f281 := Tryd.func132.trans (congrArg some (by kernel_rfl))
  f282 := Tryd.func133.trans (congrArg some (by kernel_rfl))
  f283 := Tryd.func138.trans (congrArg some (by kernel_rfl))
  f284 := Tryd.func139.trans (congrArg some (by kernel_rfl))
  f285 := Tryd.func140.trans (congrArg some (by kernel_rfl))
  f286 := Tryd.func141.trans (congrArg some (by kernel_rfl))
  f287 := Tryd.func158.trans (congrArg some (by kernel_rfl))
  f316 := Tryd.func159.trans (congrArg some (by kernel_rfl))
  f317 := Tryd.func162.trans (congrArg some (by kernel_rfl))
  f318 := Tryd.func164.trans (congrArg some (by kernel_rfl))
  f319 := Tryd.func165.trans (congrArg some (by kernel_rfl))
  f320 := Tryd.func166.trans (congrArg some (by kernel_rfl))
  f321 := Tryd.func176.trans (congrArg some (by kernel_rfl))
  f322 := Tryd.func177.trans (congrArg some (by kernel_rfl))
  f337 := Tryd.func178.trans (congrArg some (by kernel_rfl))
  f338 := Tryd.func179.trans (congrArg some (by kernel_rfl))
  t0 := Tryd.underlying0
  a0 := Tryd.isAgg0
  z0 := Tryd.sizeOf0
  v0 := Tryd.zeroValue0
  t2 := Tryd.underlying2
  a2 := Tryd.isAgg2
  z2 := Tryd.sizeOf2
  v2 := Tryd.zeroValue2
  t3 := Tryd.underlying3
  a3 := Tryd.isAgg3
  z3 := Tryd.sizeOf3
  v3 := Tryd.zeroValue3
  t4 := Tryd.underlying4
  a4 := Tryd.isAgg4
  z4 := Tryd.sizeOf4
  v4 := Tryd.zeroValue4
  t5 := Tryd.underlying5
  a5 := Tryd.isAgg5
  z5 := Tryd.sizeOf5
  v5 := Tryd.zeroValue5
  t9 := Tryd.underlying9
  a9 := Tryd.isAgg9
  z9 := Tryd.sizeOf9
  v9 := Tryd.zeroValue9
  t20 := Tryd.underlying20
  a20 := Tryd.isAgg20
  z20 := Tryd.sizeOf20
  v20 := Tryd.zeroValue20
  t21 := Tryd.underlying21
  a21 := Tryd.isAgg21
  z21 := Tryd.sizeOf21
  v21 := Tryd.zeroValue21
  t37 := Tryd.underlying27
  a37 := Tryd.isAgg27
  z37 := Tryd.sizeOf27
  v37 := Tryd.zeroValue27
  t46 := Tryd.underlying38
  a46 := Tryd.isAgg38
  z46 := Tryd.sizeOf38
  v46 := Tryd.zeroValue38
  t51 := Tryd.underlying97
  a51 := Tryd.isAgg97
  z51 := Tryd.sizeOf97
  v51 := Tryd.zeroValue97
  t53 := Tryd.underlying101
  a53 := Tryd.isAgg101
  z53 := Tryd.sizeOf101
  v53 := Tryd.zeroValue101
  t75 := Tryd.underlying69
  a75 := Tryd.isAgg69
  z75 := Tryd.sizeOf69
  v75 := Tryd.zeroValue69
  t76 := Tryd.underlying76
  a76 := Tryd.isAgg76
  z76 := Tryd.sizeOf76
  v76 := Tryd.zeroValue76
  t85 := Tryd.underlying144
  a85 := Tryd.isAgg144
  z85 := Tryd.sizeOf144
  v85 := Tryd.zeroValue144
  t127 := Tryd.underlying93
  a127 := Tryd.isAgg93
  z127 := Tryd.sizeOf93
  v127 := Tryd.zeroValue93
  t143 := Tryd.underlying192
  a143 := Tryd.isAgg192
  z143 := Tryd.sizeOf192
  v143 := Tryd.zeroValue192
  t145 := Tryd.underlying194
  a145 := Tryd.isAgg194
  z145 := Tryd.sizeOf194
  v145 := Tryd.zeroValue194
  t167 := Tryd.underlying143
  a167 := Tryd.isAgg143
  z167 := Tryd.sizeOf143
  v167 := Tryd.zeroValue143
  t168 := Tryd.underlying146
  a168 := Tryd.isAgg146
  z168 := Tryd.sizeOf146
  v168 := Tryd.zeroValue146
  t171 := Tryd.underlying150
  a171 := Tryd.isAgg150
  z171 := Tryd.sizeOf150
  v171 := Tryd.zeroValue150
  t173 := Tryd.underlying153
  a173 := Tryd.isAgg153
  z173 := Tryd.sizeOf153
  v173 := Tryd.zeroValue153
  t175 := Tryd.underlying172
  a175 := Tryd.isAgg172
  z175 := Tryd.sizeOf172
  v175 := Tryd.zeroValue172
  t210 := Tryd.underlying175
  a210 := Tryd.isAgg175
  z210 := Tryd.sizeOf175
  v210 := Tryd.zeroValue175
  t212 := Tryd.underlying179
  a212 := Tryd.isAgg179
  z212 := Tryd.sizeOf179
  v212 := Tryd.zeroValue179
  t213 := Tryd.underlying180
  a213 := Tryd.isAgg180
  z213 := Tryd.sizeOf180
  t232 := Tryd.underlying197
  a232 := Tryd.isAgg197
  z232 := Tryd.sizeOf197
  v232 := Tryd.zeroValue197
  t233 := Tryd.underlying198
  a233 := Tryd.isAgg198
  z233 := Tryd.sizeOf198
  v233 := Tryd.zeroValue198
  g15 := by kernel_rfl
  g16 := by kernel_rfl
  g17 := by kernel_rfl
  g18 := by kernel_rfl
  g19 := by kernel_rfl
  t80 := Tryd.underlying71
  a80 := Tryd.isAgg71
  z80 := Tryd.sizeOf71
  v80 := Tryd.zeroValue71
  i0 := by kernel_rfl
  i2 := by kernel_rfl
  i3 := by kernel_rfl
  i4 := by kernel_rfl
  i5 := by kernel_rfl
  i9 := by kernel_rfl
  i20 := by kernel_rfl
  i21 := by kernel_rfl
  i37 := by kernel_rfl
  i46 := by kernel_rfl
  i51 := by kernel_rfl
  i53 := by kernel_rfl
  i75 := by kernel_rfl
  i76 := by kernel_rfl
  i80 := by kernel_rfl
  i85 := by kernel_rfl
  i127 := by kernel_rfl
  i143 := by kernel_rfl
  i145 := by kernel_rfl
  i167 := by kernel_rfl
  i168 := by kernel_rfl
  i171 := by kernel_rfl
  i173 := by kernel_rfl
  i175 := by kernel_rfl
  i210 := by kernel_rfl
  i212 := by kernel_rfl
  i232 := by kernel_rfl
  i233 := by kernel_rfl
  m15 := by kernel_rfl
  m16 := by kernel_rfl
  m17 := by kernel_rfl
  m18 := by kernel_rfl
  m19 := by kernel_rfl
  c0 := by kernel_rfl
  c2 := by kernel_rfl
  c3 := by kernel_rfl
  c4 := by kernel_rfl
  c5 := by kernel_rfl
  c9 := by kernel_rfl
  c20 := by kernel_rfl
  c21 := by kernel_rfl
  c37 := by kernel_rfl
  c46 := by kernel_rfl
  c51 := by kernel_rfl
  c53 := by kernel_rfl
  c75 := by kernel_rfl
  c76 := by kernel_rfl
  c80 := by kernel_rfl
  c85 := by kernel_rfl
  c127 := by kernel_rfl
  c143 := by kernel_rfl
  c145 := by kernel_rfl
  c167 := by kernel_rfl
  c168 := by kernel_rfl
  c171 := by kernel_rfl
  c173 := by kernel_rfl
  c175 := by kernel_rfl
  c210 := by kernel_rfl
  c212 := by kernel_rfl
  c213 := by kernel_rfl
  c232 := by kernel_rfl
  c233 := by kernel_rfl }
theorem Tryd.strconv_Atoi_ok (s : ByteArray) (hmax : s.size ≤ 9223372036854775806) (v : Int) (h : Lib.atoiAll s.data.toList = .ok v) (w : World) :
    Calls Tryd.prog 64 #[.string s] w fun e w' => e = .returned (.tuple #[.int .i64 v, .nilIface]) ∧ (w' = w ∨ ∃ t, w' = Lib.bytesWorld w 5 t) := Any.strconv_Atoi_ok Tryd.laysC172 s hmax v h w
theorem Tryd.strconv_Atoi_syntax (s : ByteArray) (hlim : s.size ≤ 281474976710656) (h : Lib.atoiAll s.data.toList = .«syntax») (ev : Value) (w : World) (hv : w.cell? ⟨6, 0, none⟩ = some ev) (hev : ev = .nilIface ∨ ∃ te pe, ev = .iface te pe) :
    Calls Tryd.prog 64 #[.string s] w fun e w' => ∃ N, e = .returned (.tuple #[.int .i64 (0), .iface 146 (.pointer (some ⟨N, 0, none⟩))]) ∧ w.heap.size ≤ N ∧ w'.heap[N]? = some (.cells #[.string ⟨#[65, 116, 111, 105]⟩, .string s, ev] 175 (0, 0)) ∧ Below w.heap.size w w' := Any.strconv_Atoi_syntax Tryd.laysC172 s hlim h ev w hv hev
theorem Tryd.strconv_Atoi_range (s : ByteArray) (hlim : s.size ≤ 281474976710656) (h : Lib.atoiAll s.data.toList = .range) (ev : Value) (w : World) (hv : w.cell? ⟨7, 0, none⟩ = some ev) (hev : ev = .nilIface ∨ ∃ te pe, ev = .iface te pe) :
    Calls Tryd.prog 64 #[.string s] w fun e w' => ∃ N, e = .returned (.tuple #[.int .i64 (Lib.atoiSat s.data.toList), .iface 146 (.pointer (some ⟨N, 0, none⟩))]) ∧ w.heap.size ≤ N ∧ w'.heap[N]? = some (.cells #[.string ⟨#[65, 116, 111, 105]⟩, .string s, ev] 175 (0, 0)) ∧ Below w.heap.size w w' := Any.strconv_Atoi_range Tryd.laysC172 s hlim h ev w hv hev
def Tryd.lays149_ren : Go.Shelf.Ren := ⟨fun | 149 => 63 | 222 => 95 | n => n, fun | 9 => 9 | 5 => 5 | 3 => 3 | 4 => 4 | n => n, fun | n => n⟩
theorem Tryd.lays149 : Go.Proofs.Lays.n149 Tryd.prog Tryd.lays149_ren := {
  mixed := by kernel_rfl
  f149 := Tryd.func63.trans (congrArg some (by kernel_rfl))
  f222 := Tryd.func95.trans (congrArg some (by kernel_rfl))
  t3 := Tryd.underlying3
  a3 := Tryd.isAgg3
  z3 := Tryd.sizeOf3
  v3 := Tryd.zeroValue3
  t4 := Tryd.underlying4
  a4 := Tryd.isAgg4
  z4 := Tryd.sizeOf4
  v4 := Tryd.zeroValue4
  t5 := Tryd.underlying5
  a5 := Tryd.isAgg5
  z5 := Tryd.sizeOf5
  v5 := Tryd.zeroValue5
  t9 := Tryd.underlying9
  a9 := Tryd.isAgg9
  z9 := Tryd.sizeOf9
  v9 := Tryd.zeroValue9 }
theorem Tryd.strings_LastIndexByte (s : ByteArray) (c : Int) (hs : s.size < 4611686018427387904) (w : World) :
    Calls Tryd.prog 63 #[.string s, .int .u8 c] w fun e w' => e = .returned (.int .i64 (Lib.lastIndexByte s c)) ∧ w' = w := Any.strings_LastIndexByte Tryd.lays149 s c hs w
def Tryd.lays146_ren : Go.Shelf.Ren := ⟨fun | 146 => 90 | 221 => 124 | 268 => 155 | 138 => 156 | 143 => 135 | 195 => 173 | 197 => 77 | 218 => 174 | 219 => 113 | 260 => 105 | 217 => 112 | 225 => 146 | 224 => 147 | 267 => 148 | 266 => 145 | 314 => 169 | n => n, fun | 9 => 9 | 31 => 83 | 3 => 3 | 4 => 4 | 0 => 0 | 105 => 89 | 21 => 21 | 5 => 5 | 46 => 38 | 119 => 155 | 139 => 158 | 138 => 157 | 146 => 184 | 51 => 97 | n => n, fun | 1 => 3 | 3 => 4 | 4 => 5 | n => n⟩
theorem Tryd.lays146 : Go.Proofs.Lays.n146 Tryd.prog Tryd.lays146_ren := {
  mixed := by kernel_rfl
  f138 := Tryd.func156.trans (congrArg some (by kernel_rfl))
  f143 := Tryd.func135.trans (congrArg some (by kernel_rfl))
  f146 := Tryd.func90.trans (congrArg some (by kernel_rfl))
  f195 := Tryd.func173.trans (congrArg some (by kernel_rfl))
  f197 := Tryd.func77.trans (congrArg some (by kernel_rfl))
  f217 := Tryd.func112.trans (congrArg some (by kernel_rfl))
  f218 := Tryd.func174.trans (congrArg some (by kernel_rfl))
  f219 := Tryd.func113.trans (congrArg some (by kernel_rfl))
  f221 := Tryd.func124.trans (congrArg some (by kernel_rfl))
  f224 := Tryd.func147.trans (congrArg some (by kernel_rfl))
  f225 := Tryd.func146.trans (congrArg some (by kernel_rfl))
  f260 := Tryd.func105.trans (congrArg some (by kernel_rfl))
  f266 := Tryd.func145.trans (congrArg some (by kernel_rfl))
  f267 := Tryd.func148.trans (congrArg some (by kernel_rfl))
  f268 := Tryd.func155.trans (congrArg some (by kernel_rfl))
  f314 := Tryd.func169.trans (congrArg some (by kernel_rfl))
  t0 := Tryd.underlying0
  a0 := Tryd.isAgg0
  z0 := Tryd.sizeOf0
  v0 := Tryd.zeroValue0
  t3 := Tryd.underlying3
  a3 := Tryd.isAgg3
  z3 := Tryd.sizeOf3
  v3 := Tryd.zeroValue3
  t4 := Tryd.underlying4
  a4 := Tryd.isAgg4
  z4 := Tryd.sizeOf4
  v4 := Tryd.zeroValue4
  t5 := Tryd.underlying5
  a5 := Tryd.isAgg5
  z5 := Tryd.sizeOf5
  v5 := Tryd.zeroValue5
  t9 := Tryd.underlying9
  a9 := Tryd.isAgg9
  z9 := Tryd.sizeOf9
  v9 := Tryd.zeroValue9
  t21 := Tryd.underlying21
  a21 := Tryd.isAgg21
  z21 := Tryd.sizeOf21
  v21 := Tryd.zeroValue21
  t31 := Tryd.underlying83
  a31 := Tryd.isAgg83
  z31 := Tryd.sizeOf83
  v31 := Tryd.zeroValue83
  t46 := Tryd.underlying38
  a46 := Tryd.isAgg38
  z46 := Tryd.sizeOf38
  v46 := Tryd.zeroValue38
  t51 := Tryd.underlying97
  a51 := Tryd.isAgg97
  z51 := Tryd.sizeOf97
  v51 := Tryd.zeroValue97
  t105 := Tryd.underlying89
  a105 := Tryd.isAgg89
  z105 := Tryd.sizeOf89
  v105 := Tryd.zeroValue89
  t119 := Tryd.underlying155
  a119 := Tryd.isAgg155
  z119 := Tryd.sizeOf155
  t138 := Tryd.underlying157
  a138 := Tryd.isAgg157
  z138 := Tryd.sizeOf157
  v138 := Tryd.zeroValue157
  t139 := Tryd.underlying158
  a139 := Tryd.isAgg158
  z139 := Tryd.sizeOf158
  v139 := Tryd.zeroValue158
  t146 := Tryd.underlying184
  a146 := Tryd.isAgg184
  z146 := Tryd.sizeOf184
  v146 := Tryd.zeroValue184
  g1 := by kernel_rfl
  g3 := by kernel_rfl
  g4 := by kernel_rfl }
theorem Tryd.strings_Split (s sep : ByteArray) (m : Int) (w : World) (hs : s.size < 4294967281) (hm : w.cell? ⟨3, 0, none⟩ = some (.int .i64 m)) (h1 : 1 ≤ sep.size) :
    Calls Tryd.prog 90 #[.string s, .string sep] w fun e w' =>
      e = .returned (.slice (some ⟨w.heap.size, 0, none⟩) (Lib.countB s sep + 1) (Lib.countB s sep + 1)) ∧ w' = w.alloc (.cells ((Lib.splitB sep 0 (Lib.countB s sep) s).map Value.string).toArray 9) := Any.strings_Split Tryd.lays146 (by kernel_rfl) s sep m w hs hm h1
end Go.Proofs
