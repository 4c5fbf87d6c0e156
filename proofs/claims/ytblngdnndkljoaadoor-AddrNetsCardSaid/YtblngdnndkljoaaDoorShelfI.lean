/- Contracts of Go's library at this program, laid by the kit's tool, in plain words. -/
import Derived.Shelf.Strings.Builder1
import Derived.Shelf.Strings.Builder2
import Derived.Shelf.Strings.OnBuilder
import Derived.Shelf.Strings.Trim
import Derived.Shelf.Small.Utf8
import Derived.Shelf.Small.Strs
import Derived.Shelf.Strings.BuilderF
import Derived.Shelf.Strings.BuilderK
import Derived.Shelf.Utf8.RuneCount
import Derived.Shelf.Strconv.Atoi
import Derived.Shelf.Strconv.Itoa0
import Derived.Shelf.Strconv.Itoa1
import Derived.Shelf.LaysM
import Derived.Shelf.Strconv.Itoa2
import Derived.Shelf.Strconv.Itoa3
import Derived.Shelf.Strconv.AtoiErrFast
import Derived.Shelf.Strconv.ParseIntEmpty
import Derived.Shelf.Strconv.AtoiFail
import Derived.Shelf.Strconv.Clone
import Derived.Shelf.Strconv.SyntaxError
import Derived.Shelf.LaysC
import Derived.Shelf.Strconv.ToError
import Derived.Shelf.Strconv.Lower
import Derived.Shelf.Strconv.ParseUint10
import Derived.Shelf.Strconv.ParseUint10Empty
import Derived.Shelf.Strconv.ParseUint10Any
import Derived.Shelf.Strconv.ParseInt10
import Derived.Shelf.Strconv.AtoiLong
import Derived.Shelf.Strconv.AtoiInnerAll
import Derived.Shelf.Strconv.RangeError
import Derived.Shelf.Strconv.ToErrorRange
import Derived.Shelf.Strconv.AtoiAll
import Derived.Shelf.Strconv.ErrVarAll
import Derived.Shelf.Strings.Search1
import Derived.Shelf.Strings.Search2
import Derived.Shelf.Strings.Search3
import Derived.Shelf.Strings.Cut
import Derived.Shelf.Strings.Count
import Derived.Shelf.Strings.Shaped
import Derived.Shelf.Strings.LastIndex
import Derived.Shelf.Strings.Prefix
import Derived.Shelf.Strings.Split
import Derived.Shelf.Strings.Fold
import Derived.Shelf.Strings.SplitShaped
import Derived.Shelf.Unicode.Decode
import Derived.Shelf.Strings.Runes
import Derived.Shelf.Strings.RuneCount
import Derived.Shelf.Strings.AsciiSet
import Derived.Shelf.Strings.Explode
import Derived.Shelf.Bits.Mul64
import Derived.Shelf.Unicode.DecodeSlow
import Derived.Shelf.Unicode.DecodeAny
import Derived.Shelf.Unicode.DecodeLast
import Derived.Shelf.Unicode.CaseLookup
import Derived.Shelf.Unicode.CaseConvert
import Derived.Shelf.Bytes.SlClone
import Derived.Test.YtblngdnndkljoaaDoorProg
namespace Go.Proofs
open Go.Shelf Go.RowKit Go.Lib Go.Sort
def Tryd.laysM171_ren : Go.Shelf.Ren := ⟨fun | 171 => 66 | 243 => 100 | 246 => 104 | 283 => 138 | 284 => 139 | 285 => 140 | 286 => 141 | 129 => 163 | 317 => 162 | 318 => 164 | 319 => 165 | 320 => 166 | 337 => 178 | 338 => 179 | n => n, fun | 3 => 3 | 9 => 9 | 2 => 2 | 4 => 4 | 171 => 150 | 0 => 0 | 53 => 101 | 37 => 27 | 5 => 5 | 173 => 153 | 212 => 179 | 51 => 97 | 20 => 20 | 213 => 180 | 46 => 38 | 232 => 197 | 233 => 198 | n => n, fun | 17 => 8 | 18 => 9 | 19 => 10 | n => n⟩
theorem Tryd.laysM171 : Go.Proofs.LaysM.n171 Tryd.prog Tryd.laysM171_ren := {
  mixed := by kernel_rfl
  f129 := Tryd.func163.trans (congrArg some (by kernel_rfl))
  f171 := Tryd.func66.trans (congrArg some (by kernel_rfl))
  f243 := Tryd.func100.trans (congrArg some (by kernel_rfl))
  f246 := Tryd.func104.trans (congrArg some (by kernel_rfl))
  f283 := Tryd.func138.trans (congrArg some (by kernel_rfl))
  f284 := Tryd.func139.trans (congrArg some (by kernel_rfl))
  f285 := Tryd.func140.trans (congrArg some (by kernel_rfl))
  f286 := Tryd.func141.trans (congrArg some (by kernel_rfl))
  f317 := Tryd.func162.trans (congrArg some (by kernel_rfl))
  f318 := Tryd.func164.trans (congrArg some (by kernel_rfl))
  f319 := Tryd.func165.trans (congrArg some (by kernel_rfl))
  f320 := Tryd.func166.trans (congrArg some (by kernel_rfl))
  f337 := Tryd.func178.trans (congrArg some (by kernel_rfl))
  f338 := Tryd.func179.trans (congrArg some (by kernel_rfl))
  t0 := Tryd.underlying0
  a0 := Tryd.isAgg0
  z0 := Tryd.sizeOf0
  v0 := Tryd.zeroValue0
  t2 := Tryd.underlying2
  a2 := Tryd.isAgg2
  z2 := Tryd.sizeOf2
  v2 := Tryd.zeroValue2
  t3 := Tryd.underlying3
  a3 := Tryd.isAgg3
  z3 := Tryd.sizeOf3
  v3 := Tryd.zeroValue3
  t4 := Tryd.underlying4
  a4 := Tryd.isAgg4
  z4 := Tryd.sizeOf4
  v4 := Tryd.zeroValue4
  t5 := Tryd.underlying5
  a5 := Tryd.isAgg5
  z5 := Tryd.sizeOf5
  v5 := Tryd.zeroValue5
  t9 := Tryd.underlying9
  a9 := Tryd.isAgg9
  z9 := Tryd.sizeOf9
  v9 := Tryd.zeroValue9
  t20 := Tryd.underlying20
  a20 := Tryd.isAgg20
  z20 := Tryd.sizeOf20
  v20 := Tryd.zeroValue20
  t37 := Tryd.underlying27
  a37 := Tryd.isAgg27
  z37 := Tryd.sizeOf27
  v37 := Tryd.zeroValue27
  t46 := Tryd.underlying38
  a46 := Tryd.isAgg38
  z46 := Tryd.sizeOf38
  v46 := Tryd.zeroValue38
  t51 := Tryd.underlying97
  a51 := Tryd.isAgg97
  z51 := Tryd.sizeOf97
  v51 := Tryd.zeroValue97
  t53 := Tryd.underlying101
  a53 := Tryd.isAgg101
  z53 := Tryd.sizeOf101
  v53 := Tryd.zeroValue101
  t171 := Tryd.underlying150
  a171 := Tryd.isAgg150
  z171 := Tryd.sizeOf150
  v171 := Tryd.zeroValue150
  t173 := Tryd.underlying153
  a173 := Tryd.isAgg153
  z173 := Tryd.sizeOf153
  v173 := Tryd.zeroValue153
  t212 := Tryd.underlying179
  a212 := Tryd.isAgg179
  z212 := Tryd.sizeOf179
  v212 := Tryd.zeroValue179
  t213 := Tryd.underlying180
  a213 := Tryd.isAgg180
  z213 := Tryd.sizeOf180
  t232 := Tryd.underlying197
  a232 := Tryd.isAgg197
  z232 := Tryd.sizeOf197
  v232 := Tryd.zeroValue197
  t233 := Tryd.underlying198
  a233 := Tryd.isAgg198
  z233 := Tryd.sizeOf198
  v233 := Tryd.zeroValue198
  g17 := by kernel_rfl
  g18 := by kernel_rfl
  g19 := by kernel_rfl
  i0 := by kernel_rfl
  i2 := by kernel_rfl
  i3 := by kernel_rfl
  i4 := by kernel_rfl
  i5 := by kernel_rfl
  i9 := by kernel_rfl
  i20 := by kernel_rfl
  i37 := by kernel_rfl
  i46 := by kernel_rfl
  i51 := by kernel_rfl
  i53 := by kernel_rfl
  i171 := by kernel_rfl
  i173 := by kernel_rfl
  i212 := by kernel_rfl
  i232 := by kernel_rfl
  i233 := by kernel_rfl
  m17 := by kernel_rfl
  m18 := by kernel_rfl
  m19 := by kernel_rfl }
theorem Tryd.strconv_Itoa (n : Int) (h0 : -9223372036854775808 ≤ n) (h1 : n ≤ 9223372036854775807) (w : World) (htab : Lib.TabIs Tryd.prog w "internal/strconv.uint64pow10" .u64 Lib.pow10Tab) :
    Calls Tryd.prog 66 #[.int .i64 n] w fun e w' => e = .returned (.string ⟨(Lib.itoa n).toArray⟩) ∧ ∃ k os, w' = grow (w.drewN k) os := Any.strconv_Itoa Tryd.laysM171 n h0 h1 w htab
end Go.Proofs
