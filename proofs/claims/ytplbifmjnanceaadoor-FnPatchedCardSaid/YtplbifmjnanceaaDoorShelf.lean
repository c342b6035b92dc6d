/- The library's contracts of the kit's shelf, laid at this translation in plain words (written by the kit's lay-plain; remarks struck). -/
import Derived.Shelf.SlSorted.Search
import Derived.Shelf.Strings.TrimSpace
import Derived.Shelf.Small.Utf8
import Derived.Shelf.Strconv.Itoa0
import Derived.Shelf.Strconv.Itoa1
import Derived.Shelf.LaysM
import Derived.Shelf.Strconv.Itoa2
import Derived.Shelf.Strconv.Itoa3
import Derived.Shelf.Bytes.Len
import Derived.Shelf.Bytes.TryGrow
import Derived.Shelf.Bytes.GrowSliceCatch
import Derived.Shelf.Bytes.GrowSlice
import Derived.Shelf.Bytes.Bytes
import Derived.Shelf.Bytes.GrowRow0Kept
import Derived.Shelf.Bytes.GrowRowKept
import Derived.Shelf.Bytes.GrowNilKept
import Derived.Shelf.Bytes.GrowKept
import Derived.Shelf.Bytes.WriteStringKept
import Derived.Shelf.Bytes.ResetKept
import Derived.Shelf.Bytes.BufferK
import Derived.Shelf.Unicode.Latin
import Derived.Shelf.Unicode.DecodeSlow
import Derived.Shelf.Unicode.DecodeAny
import Derived.Shelf.Unicode.Is16White
import Derived.Shelf.Unicode.IsSpaceAny
import Derived.Shelf.Unicode.DecodeLast
import Derived.Shelf.Strings.TrimSpaceAny
import Derived.Shelf.Unicode.Is16Any
import Derived.Shelf.Unicode.Is32Any
import Derived.Shelf.Unicode.ExclAny
import Derived.Shelf.Bytes.SlIndexAt
import Derived.Shelf.Bytes.SlSmallAll
import Derived.Shelf.Bytes.SlEqualAll
import Derived.Shelf.Bytes.Small
import Derived.Shelf.Bytes.IndexByte
import Derived.Test.YtplbifmjnanceaaDoorProg
namespace Go.Proofs
open Go.Shelf
def Tryd.lays163_ren : Go.Shelf.Ren := ⟨fun | 163 => 44 | 237 => 51 | 199 => 52 | 238 => 53 | 272 => 59 | 261 => 60 | 273 => 61 | 197 => 62 | 315 => 65 | 311 => 66 | 312 => 67 | 271 => 68 | 260 => 69 | 120 => 70 | n => n, fun | 9 => 9 | 37 => 41 | 3 => 3 | 0 => 0 | 5 => 5 | 4 => 4 | 40 => 102 | 119 => 103 | 21 => 21 | 51 => 106 | 141 => 110 | 105 => 112 | 196 => 118 | 193 => 115 | 198 => 121 | 49 => 119 | 194 => 116 | 201 => 124 | 226 => 128 | 46 => 91 | 227 => 129 | 139 => 133 | 138 => 132 | n => n, fun | 0 => 1 | 6 => 4 | 3 => 7 | 4 => 8 | n => n⟩
theorem Tryd.lays163 : Go.Proofs.Lays.n163 Tryd.prog Tryd.lays163_ren := {
  mixed := by kernel_rfl
  f120 := Tryd.func70.trans (congrArg some (by kernel_rfl))
  f163 := Tryd.func44.trans (congrArg some (by kernel_rfl))
  f197 := Tryd.func62.trans (congrArg some (by kernel_rfl))
  f199 := Tryd.func52.trans (congrArg some (by kernel_rfl))
  f237 := Tryd.func51.trans (congrArg some (by kernel_rfl))
  f238 := Tryd.func53.trans (congrArg some (by kernel_rfl))
  f260 := Tryd.func69.trans (congrArg some (by kernel_rfl))
  f261 := Tryd.func60.trans (congrArg some (by kernel_rfl))
  f271 := Tryd.func68.trans (congrArg some (by kernel_rfl))
  f272 := Tryd.func59.trans (congrArg some (by kernel_rfl))
  f273 := Tryd.func61.trans (congrArg some (by kernel_rfl))
  f311 := Tryd.func66.trans (congrArg some (by kernel_rfl))
  f312 := Tryd.func67.trans (congrArg some (by kernel_rfl))
  f315 := Tryd.func65.trans (congrArg some (by kernel_rfl))
  t0 := Tryd.underlying0
  a0 := Tryd.isAgg0
  z0 := Tryd.sizeOf0
  v0 := Tryd.zeroValue0
  t3 := Tryd.underlying3
  a3 := Tryd.isAgg3
  z3 := Tryd.sizeOf3
  v3 := Tryd.zeroValue3
  t4 := Tryd.underlying4
  a4 := Tryd.isAgg4
  z4 := Tryd.sizeOf4
  v4 := Tryd.zeroValue4
  t5 := Tryd.underlying5
  a5 := Tryd.isAgg5
  z5 := Tryd.sizeOf5
  v5 := Tryd.zeroValue5
  t9 := Tryd.underlying9
  a9 := Tryd.isAgg9
  z9 := Tryd.sizeOf9
  v9 := Tryd.zeroValue9
  t21 := Tryd.underlying21
  a21 := Tryd.isAgg21
  z21 := Tryd.sizeOf21
  v21 := Tryd.zeroValue21
  t37 := Tryd.underlying41
  a37 := Tryd.isAgg41
  z37 := Tryd.sizeOf41
  v37 := Tryd.zeroValue41
  t40 := Tryd.underlying102
  a40 := Tryd.isAgg102
  z40 := Tryd.sizeOf102
  v40 := Tryd.zeroValue102
  t46 := Tryd.underlying91
  a46 := Tryd.isAgg91
  z46 := Tryd.sizeOf91
  v46 := Tryd.zeroValue91
  t49 := Tryd.underlying119
  a49 := Tryd.isAgg119
  z49 := Tryd.sizeOf119
  v49 := Tryd.zeroValue119
  t51 := Tryd.underlying106
  a51 := Tryd.isAgg106
  z51 := Tryd.sizeOf106
  v51 := Tryd.zeroValue106
  t105 := Tryd.underlying112
  a105 := Tryd.isAgg112
  z105 := Tryd.sizeOf112
  v105 := Tryd.zeroValue112
  t119 := Tryd.underlying103
  a119 := Tryd.isAgg103
  z119 := Tryd.sizeOf103
  t138 := Tryd.underlying132
  a138 := Tryd.isAgg132
  z138 := Tryd.sizeOf132
  v138 := Tryd.zeroValue132
  t139 := Tryd.underlying133
  a139 := Tryd.isAgg133
  z139 := Tryd.sizeOf133
  v139 := Tryd.zeroValue133
  t141 := Tryd.underlying110
  a141 := Tryd.isAgg110
  z141 := Tryd.sizeOf110
  v141 := Tryd.zeroValue110
  t193 := Tryd.underlying115
  a193 := Tryd.isAgg115
  z193 := Tryd.sizeOf115
  v193 := Tryd.zeroValue115
  t194 := Tryd.underlying116
  a194 := Tryd.isAgg116
  z194 := Tryd.sizeOf116
  v194 := Tryd.zeroValue116
  t196 := Tryd.underlying118
  a196 := Tryd.isAgg118
  z196 := Tryd.sizeOf118
  v196 := Tryd.zeroValue118
  t198 := Tryd.underlying121
  a198 := Tryd.isAgg121
  z198 := Tryd.sizeOf121
  v198 := Tryd.zeroValue121
  t201 := Tryd.underlying124
  a201 := Tryd.isAgg124
  z201 := Tryd.sizeOf124
  v201 := Tryd.zeroValue124
  t226 := Tryd.underlying128
  a226 := Tryd.isAgg128
  z226 := Tryd.sizeOf128
  v226 := Tryd.zeroValue128
  t227 := Tryd.underlying129
  a227 := Tryd.isAgg129
  z227 := Tryd.sizeOf129
  v227 := Tryd.zeroValue129
  g0 := by kernel_rfl
  g3 := by kernel_rfl
  g4 := by kernel_rfl
  g6 := by kernel_rfl }
theorem Tryd.Space_Extra_163 : Space.Extra Tryd.prog Tryd.lays163_ren := {
  gNamed := by kernel_rfl }
open Go.RowKit in
theorem Tryd.strings_TrimSpace (s : ByteArray) (w : World) (hs : s.size ≤ 9223372036854775807) (hascii : ∀ (j : Nat) b, s.data.toList[j]? = some b → b.toNat < 128) (htab : Lib.TabIs Tryd.prog w "strings.asciiSpace" .u8 Lib.asciiSpaceTab) :
    Calls Tryd.prog 44 #[.string s] w fun e w' => e = .returned (.string ⟨(Lib.trimSpace s.data.toList).toArray⟩) ∧ w' = Lib.bytesWorld w 5 s := Any.strings_TrimSpace Tryd.lays163 Tryd.Space_Extra_163 s w hs hascii htab
def Tryd.lays120_ren : Go.Shelf.Ren := ⟨fun | 120 => 70 | n => n, fun | 5 => 5 | 4 => 4 | n => n, fun | n => n⟩
theorem Tryd.lays120 : Go.Proofs.Lays.n120 Tryd.prog Tryd.lays120_ren := {
  mixed := by kernel_rfl
  f120 := Tryd.func70.trans (congrArg some (by kernel_rfl))
  t4 := Tryd.underlying4
  a4 := Tryd.isAgg4
  z4 := Tryd.sizeOf4
  v4 := Tryd.zeroValue4
  t5 := Tryd.underlying5
  a5 := Tryd.isAgg5
  z5 := Tryd.sizeOf5
  v5 := Tryd.zeroValue5 }
theorem Tryd.utf8_RuneStart (b : Int) (w : World) (h0 : 0 ≤ b) (h1 : b < 256) :
    Calls Tryd.prog 70 #[.int .u8 b] w fun e w' => e = .returned (.bool (Lib.runeStart b)) ∧ w' = w := Any.utf8_RuneStart Tryd.lays120 b w h0 h1
def Tryd.lays129_ren : Go.Shelf.Ren := ⟨fun | 129 => 55 | n => n, fun | 53 => 96 | 3 => 3 | 4 => 4 | 46 => 91 | 5 => 5 | 9 => 9 | n => n, fun | n => n⟩
theorem Tryd.lays129 : Go.Proofs.Lays.n129 Tryd.prog Tryd.lays129_ren := {
  mixed := by kernel_rfl
  f129 := Tryd.func55.trans (congrArg some (by kernel_rfl))
  t3 := Tryd.underlying3
  a3 := Tryd.isAgg3
  z3 := Tryd.sizeOf3
  v3 := Tryd.zeroValue3
  t4 := Tryd.underlying4
  a4 := Tryd.isAgg4
  z4 := Tryd.sizeOf4
  v4 := Tryd.zeroValue4
  t5 := Tryd.underlying5
  a5 := Tryd.isAgg5
  z5 := Tryd.sizeOf5
  v5 := Tryd.zeroValue5
  t9 := Tryd.underlying9
  a9 := Tryd.isAgg9
  z9 := Tryd.sizeOf9
  v9 := Tryd.zeroValue9
  t46 := Tryd.underlying91
  a46 := Tryd.isAgg91
  z46 := Tryd.sizeOf91
  v46 := Tryd.zeroValue91
  t53 := Tryd.underlying96
  a53 := Tryd.isAgg96
  z53 := Tryd.sizeOf96
  v53 := Tryd.zeroValue96 }
theorem Tryd.bits_Len64 (x : Int) (w : World) (h0 : 0 ≤ x) (h1 : x ≤ 18446744073709551615) :
    Calls Tryd.prog 55 #[.int .u64 x] w fun e w' => e = .returned (.int .i64 (Lib.bitLen x.toNat)) ∧ w' = w := Any.bits_Len64 Tryd.lays129 x w h0 h1
def Tryd.lays317_ren : Go.Shelf.Ren := ⟨fun | 317 => 54 | n => n, fun | 3 => 3 | 46 => 91 | n => n, fun | n => n⟩
theorem Tryd.lays317 : Go.Proofs.Lays.n317 Tryd.prog Tryd.lays317_ren := {
  mixed := by kernel_rfl
  f317 := Tryd.func54.trans (congrArg some (by kernel_rfl))
  t3 := Tryd.underlying3
  a3 := Tryd.isAgg3
  z3 := Tryd.sizeOf3
  v3 := Tryd.zeroValue3
  t46 := Tryd.underlying91
  a46 := Tryd.isAgg91
  z46 := Tryd.sizeOf91
  v46 := Tryd.zeroValue91 }
open Go.Lib in
theorem Tryd.internal_strconv_log10Pow2 (x : Nat) (h : x ≤ 64) (w : World) :
    Calls Tryd.prog 54 #[.int .i64 x] w fun e w' => e = .returned (.int .i64 (Lib.l10 x)) ∧ w' = w := Any.internal_strconv_log10Pow2 Tryd.lays317 x h w
def Tryd.lays318_ren : Go.Shelf.Ren := ⟨fun | 318 => 56 | n => n, fun | 3 => 3 | 4 => 4 | n => n, fun | n => n⟩
theorem Tryd.lays318 : Go.Proofs.Lays.n318 Tryd.prog Tryd.lays318_ren := {
  mixed := by kernel_rfl
  f318 := Tryd.func56.trans (congrArg some (by kernel_rfl))
  t3 := Tryd.underlying3
  a3 := Tryd.isAgg3
  z3 := Tryd.sizeOf3
  v3 := Tryd.zeroValue3
  t4 := Tryd.underlying4
  a4 := Tryd.isAgg4
  z4 := Tryd.sizeOf4
  v4 := Tryd.zeroValue4 }
open Go.Lib in
theorem Tryd.internal_strconv_bool2_int (b : Bool) (w : World) :
    Calls Tryd.prog 56 #[.bool b] w fun e w' => e = .returned (.int .i64 (if b then 1 else 0)) ∧ w' = w := Any.internal_strconv_bool2_int Tryd.lays318 b w
def Tryd.lays283_ren : Go.Shelf.Ren := ⟨fun | 283 => 46 | n => n, fun | 3 => 3 | 9 => 9 | 4 => 4 | n => n, fun | n => n⟩
theorem Tryd.lays283 : Go.Proofs.Lays.n283 Tryd.prog Tryd.lays283_ren := {
  mixed := by kernel_rfl
  f283 := Tryd.func46.trans (congrArg some (by kernel_rfl))
  t3 := Tryd.underlying3
  a3 := Tryd.isAgg3
  z3 := Tryd.sizeOf3
  v3 := Tryd.zeroValue3
  t4 := Tryd.underlying4
  a4 := Tryd.isAgg4
  z4 := Tryd.sizeOf4
  v4 := Tryd.zeroValue4
  t9 := Tryd.underlying9
  a9 := Tryd.isAgg9
  z9 := Tryd.sizeOf9
  v9 := Tryd.zeroValue9 }
open Go.Lib in
theorem Tryd.internal_strconv_small (i : Nat) (h : i < 100) (w : World) :
    Calls Tryd.prog 46 #[.int .i64 i] w fun e w' => e = .returned (.string ⟨(Lib.decDigits i).toArray⟩) ∧ w' = w := Any.internal_strconv_small Tryd.lays283 i h w
def Tryd.laysM284_ren : Go.Shelf.Ren := ⟨fun | 284 => 47 | 129 => 55 | 317 => 54 | 318 => 56 | n => n, fun | 53 => 96 | 3 => 3 | 212 => 105 | 0 => 0 | 4 => 4 | 46 => 91 | 5 => 5 | 9 => 9 | n => n, fun | 17 => 2 | n => n⟩
theorem Tryd.laysM284 : Go.Proofs.LaysM.n284 Tryd.prog Tryd.laysM284_ren := {
  mixed := by kernel_rfl
  f129 := Tryd.func55.trans (congrArg some (by kernel_rfl))
  f284 := Tryd.func47.trans (congrArg some (by kernel_rfl))
  f317 := Tryd.func54.trans (congrArg some (by kernel_rfl))
  f318 := Tryd.func56.trans (congrArg some (by kernel_rfl))
  t0 := Tryd.underlying0
  a0 := Tryd.isAgg0
  z0 := Tryd.sizeOf0
  v0 := Tryd.zeroValue0
  t3 := Tryd.underlying3
  a3 := Tryd.isAgg3
  z3 := Tryd.sizeOf3
  v3 := Tryd.zeroValue3
  t4 := Tryd.underlying4
  a4 := Tryd.isAgg4
  z4 := Tryd.sizeOf4
  v4 := Tryd.zeroValue4
  t5 := Tryd.underlying5
  a5 := Tryd.isAgg5
  z5 := Tryd.sizeOf5
  v5 := Tryd.zeroValue5
  t9 := Tryd.underlying9
  a9 := Tryd.isAgg9
  z9 := Tryd.sizeOf9
  v9 := Tryd.zeroValue9
  t46 := Tryd.underlying91
  a46 := Tryd.isAgg91
  z46 := Tryd.sizeOf91
  v46 := Tryd.zeroValue91
  t53 := Tryd.underlying96
  a53 := Tryd.isAgg96
  z53 := Tryd.sizeOf96
  v53 := Tryd.zeroValue96
  t212 := Tryd.underlying105
  a212 := Tryd.isAgg105
  z212 := Tryd.sizeOf105
  v212 := Tryd.zeroValue105
  g17 := by kernel_rfl
  i0 := by kernel_rfl
  i3 := by kernel_rfl
  i4 := by kernel_rfl
  i5 := by kernel_rfl
  i9 := by kernel_rfl
  i46 := by kernel_rfl
  i53 := by kernel_rfl
  i212 := by kernel_rfl
  m17 := by kernel_rfl }
open Go.Lib in
theorem Tryd.internal_strconv_numDigits (u : Nat) (h1 : 1 ≤ u) (h2 : u < 18446744073709551616) (w : World) (htab : Lib.TabIs Tryd.prog w "internal/strconv.uint64pow10" .u64 Lib.pow10Tab) :
    Calls Tryd.prog 47 #[.int .u64 u] w fun e w' => e = .returned (.int .i64 (Lib.nDigits u)) ∧ w' = w := Any.internal_strconv_numDigits Tryd.laysM284 u h1 h2 w htab
def Tryd.lays285_ren : Go.Shelf.Ren := ⟨fun | 285 => 48 | n => n, fun | 37 => 41 | 53 => 96 | 3 => 3 | 4 => 4 | 51 => 106 | 9 => 9 | 5 => 5 | 0 => 0 | n => n, fun | n => n⟩
theorem Tryd.lays285 : Go.Proofs.Lays.n285 Tryd.prog Tryd.lays285_ren := {
  mixed := by kernel_rfl
  f285 := Tryd.func48.trans (congrArg some (by kernel_rfl))
  t0 := Tryd.underlying0
  a0 := Tryd.isAgg0
  z0 := Tryd.sizeOf0
  v0 := Tryd.zeroValue0
  t3 := Tryd.underlying3
  a3 := Tryd.isAgg3
  z3 := Tryd.sizeOf3
  v3 := Tryd.zeroValue3
  t4 := Tryd.underlying4
  a4 := Tryd.isAgg4
  z4 := Tryd.sizeOf4
  v4 := Tryd.zeroValue4
  t5 := Tryd.underlying5
  a5 := Tryd.isAgg5
  z5 := Tryd.sizeOf5
  v5 := Tryd.zeroValue5
  t9 := Tryd.underlying9
  a9 := Tryd.isAgg9
  z9 := Tryd.sizeOf9
  v9 := Tryd.zeroValue9
  t37 := Tryd.underlying41
  a37 := Tryd.isAgg41
  z37 := Tryd.sizeOf41
  v37 := Tryd.zeroValue41
  t51 := Tryd.underlying106
  a51 := Tryd.isAgg106
  z51 := Tryd.sizeOf106
  v51 := Tryd.zeroValue106
  t53 := Tryd.underlying96
  a53 := Tryd.isAgg96
  z53 := Tryd.sizeOf96
  v53 := Tryd.zeroValue96 }
open Go.RowKit Go.Sort Go.Lib in
theorem Tryd.internal_strconv_formatBase10 (blk off cap : Nat) (u : Nat) (d : Array UInt8) (w : World) (hH : Holds (fun (b : UInt8) => Value.int .u8 (b.toNat : Int)) w blk off d) (hu : u < 10 ^ d.size) (hu64 : u < 18446744073709551616) (hsz : d.size < 4611686018427387904) :
    Calls Tryd.prog 48 #[.slice (some ⟨blk, off, none⟩) d.size cap, .int .u64 u] w fun e w' =>
      e = .returned (.tuple #[]) ∧ ∃ (n v' : Nat) (dk : Array UInt8), w' = (putRow (fun (b : UInt8) => Value.int .u8 (b.toNat : Int)) w blk off dk).drewN n ∧ FmtInv d.size u 0 v' dk := Any.internal_strconv_formatBase10 Tryd.lays285 blk off cap u d w hH hu hu64 hsz
def Tryd.laysM246_ren : Go.Shelf.Ren := ⟨fun | 246 => 38 | 283 => 46 | 284 => 47 | 285 => 48 | 286 => 49 | 129 => 55 | 317 => 54 | 318 => 56 | 319 => 57 | 320 => 58 | 337 => 63 | 338 => 64 | n => n, fun | 2 => 2 | 3 => 3 | 9 => 9 | 4 => 4 | 171 => 95 | 0 => 0 | 53 => 96 | 37 => 41 | 5 => 5 | 173 => 99 | 212 => 105 | 51 => 106 | 20 => 20 | 213 => 107 | 46 => 91 | 232 => 126 | 233 => 127 | n => n, fun | 17 => 2 | 18 => 5 | 19 => 6 | n => n⟩
theorem Tryd.laysM246 : Go.Proofs.LaysM.n246 Tryd.prog Tryd.laysM246_ren := {
  mixed := by kernel_rfl
  f129 := Tryd.func55.trans (congrArg some (by kernel_rfl))
  f246 := Tryd.func38.trans (congrArg some (by kernel_rfl))
  f283 := Tryd.func46.trans (congrArg some (by kernel_rfl))
  f284 := Tryd.func47.trans (congrArg some (by kernel_rfl))
  f285 := Tryd.func48.trans (congrArg some (by kernel_rfl))
  f286 := Tryd.func49.trans (congrArg some (by kernel_rfl))
  f317 := Tryd.func54.trans (congrArg some (by kernel_rfl))
  f318 := Tryd.func56.trans (congrArg some (by kernel_rfl))
  f319 := Tryd.func57.trans (congrArg some (by kernel_rfl))
  f320 := Tryd.func58.trans (congrArg some (by kernel_rfl))
  f337 := Tryd.func63.trans (congrArg some (by kernel_rfl))
  f338 := Tryd.func64.trans (congrArg some (by kernel_rfl))
  t0 := Tryd.underlying0
  a0 := Tryd.isAgg0
  z0 := Tryd.sizeOf0
  v0 := Tryd.zeroValue0
  t2 := Tryd.underlying2
  a2 := Tryd.isAgg2
  z2 := Tryd.sizeOf2
  v2 := Tryd.zeroValue2
  t3 := Tryd.underlying3
  a3 := Tryd.isAgg3
  z3 := Tryd.sizeOf3
  v3 := Tryd.zeroValue3
  t4 := Tryd.underlying4
  a4 := Tryd.isAgg4
  z4 := Tryd.sizeOf4
  v4 := Tryd.zeroValue4
  t5 := Tryd.underlying5
  a5 := Tryd.isAgg5
  z5 := Tryd.sizeOf5
  v5 := Tryd.zeroValue5
  t9 := Tryd.underlying9
  a9 := Tryd.isAgg9
  z9 := Tryd.sizeOf9
  v9 := Tryd.zeroValue9
  t20 := Tryd.underlying20
  a20 := Tryd.isAgg20
  z20 := Tryd.sizeOf20
  v20 := Tryd.zeroValue20
  t37 := Tryd.underlying41
  a37 := Tryd.isAgg41
  z37 := Tryd.sizeOf41
  v37 := Tryd.zeroValue41
  t46 := Tryd.underlying91
  a46 := Tryd.isAgg91
  z46 := Tryd.sizeOf91
  v46 := Tryd.zeroValue91
  t51 := Tryd.underlying106
  a51 := Tryd.isAgg106
  z51 := Tryd.sizeOf106
  v51 := Tryd.zeroValue106
  t53 := Tryd.underlying96
  a53 := Tryd.isAgg96
  z53 := Tryd.sizeOf96
  v53 := Tryd.zeroValue96
  t171 := Tryd.underlying95
  a171 := Tryd.isAgg95
  z171 := Tryd.sizeOf95
  v171 := Tryd.zeroValue95
  t173 := Tryd.underlying99
  a173 := Tryd.isAgg99
  z173 := Tryd.sizeOf99
  v173 := Tryd.zeroValue99
  t212 := Tryd.underlying105
  a212 := Tryd.isAgg105
  z212 := Tryd.sizeOf105
  v212 := Tryd.zeroValue105
  t213 := Tryd.underlying107
  a213 := Tryd.isAgg107
  z213 := Tryd.sizeOf107
  t232 := Tryd.underlying126
  a232 := Tryd.isAgg126
  z232 := Tryd.sizeOf126
  v232 := Tryd.zeroValue126
  t233 := Tryd.underlying127
  a233 := Tryd.isAgg127
  z233 := Tryd.sizeOf127
  v233 := Tryd.zeroValue127
  g17 := by kernel_rfl
  g18 := by kernel_rfl
  g19 := by kernel_rfl
  i0 := by kernel_rfl
  i2 := by kernel_rfl
  i3 := by kernel_rfl
  i4 := by kernel_rfl
  i5 := by kernel_rfl
  i9 := by kernel_rfl
  i20 := by kernel_rfl
  i37 := by kernel_rfl
  i46 := by kernel_rfl
  i51 := by kernel_rfl
  i53 := by kernel_rfl
  i171 := by kernel_rfl
  i173 := by kernel_rfl
  i212 := by kernel_rfl
  i232 := by kernel_rfl
  i233 := by kernel_rfl
  m17 := by kernel_rfl
  m18 := by kernel_rfl
  m19 := by kernel_rfl }
open Go.RowKit Go.Sort Go.Lib in
theorem Tryd.internal_strconv_FormatInt_10 (n : Int) (h0 : -9223372036854775808 ≤ n) (h1 : n ≤ 9223372036854775807) (w : World) (htab : Lib.TabIs Tryd.prog w "internal/strconv.uint64pow10" .u64 Lib.pow10Tab) :
    Calls Tryd.prog 38 #[.int .i64 n, .int .i64 10] w fun e w' => e = .returned (.string ⟨(Lib.itoa n).toArray⟩) ∧ ∃ k os, w' = grow (w.drewN k) os := Any.internal_strconv_FormatInt_10 Tryd.laysM246 n h0 h1 w htab
def Tryd.lays246_ren : Go.Shelf.Ren := ⟨fun | 246 => 38 | 283 => 46 | 284 => 47 | 285 => 48 | 286 => 49 | 129 => 55 | 317 => 54 | 318 => 56 | 319 => 57 | 320 => 58 | 337 => 63 | 338 => 64 | n => n, fun | 2 => 2 | 3 => 3 | 9 => 9 | 4 => 4 | 171 => 95 | 0 => 0 | 53 => 96 | 37 => 41 | 5 => 5 | 173 => 99 | 212 => 105 | 51 => 106 | 20 => 20 | 213 => 107 | 46 => 91 | 232 => 126 | 233 => 127 | n => n, fun | 17 => 2 | 18 => 5 | 19 => 6 | n => n⟩
theorem Tryd.lays246 : Go.Proofs.Lays.n246 Tryd.prog Tryd.lays246_ren := {
  mixed := by kernel_rfl
  f129 := Tryd.func55.trans (congrArg some (by kernel_rfl))
  f246 := Tryd.func38.trans (congrArg some (by kernel_rfl))
  f283 := Tryd.func46.trans (congrArg some (by kernel_rfl))
  f284 := Tryd.func47.trans (congrArg some (by kernel_rfl))
  f285 := Tryd.func48.trans (congrArg some (by kernel_rfl))
  f286 := Tryd.func49.trans (congrArg some (by kernel_rfl))
  f317 := Tryd.func54.trans (congrArg some (by kernel_rfl))
  f318 := Tryd.func56.trans (congrArg some (by kernel_rfl))
  f319 := Tryd.func57.trans (congrArg some (by kernel_rfl))
  f320 := Tryd.func58.trans (congrArg some (by kernel_rfl))
  f337 := Tryd.func63.trans (congrArg some (by kernel_rfl))
  f338 := Tryd.func64.trans (congrArg some (by kernel_rfl))
  t0 := Tryd.underlying0
  a0 := Tryd.isAgg0
  z0 := Tryd.sizeOf0
  v0 := Tryd.zeroValue0
  t2 := Tryd.underlying2
  a2 := Tryd.isAgg2
  z2 := Tryd.sizeOf2
  v2 := Tryd.zeroValue2
  t3 := Tryd.underlying3
  a3 := Tryd.isAgg3
  z3 := Tryd.sizeOf3
  v3 := Tryd.zeroValue3
  t4 := Tryd.underlying4
  a4 := Tryd.isAgg4
  z4 := Tryd.sizeOf4
  v4 := Tryd.zeroValue4
  t5 := Tryd.underlying5
  a5 := Tryd.isAgg5
  z5 := Tryd.sizeOf5
  v5 := Tryd.zeroValue5
  t9 := Tryd.underlying9
  a9 := Tryd.isAgg9
  z9 := Tryd.sizeOf9
  v9 := Tryd.zeroValue9
  t20 := Tryd.underlying20
  a20 := Tryd.isAgg20
  z20 := Tryd.sizeOf20
  v20 := Tryd.zeroValue20
  t37 := Tryd.underlying41
  a37 := Tryd.isAgg41
  z37 := Tryd.sizeOf41
  v37 := Tryd.zeroValue41
  t46 := Tryd.underlying91
  a46 := Tryd.isAgg91
  z46 := Tryd.sizeOf91
  v46 := Tryd.zeroValue91
  t51 := Tryd.underlying106
  a51 := Tryd.isAgg106
  z51 := Tryd.sizeOf106
  v51 := Tryd.zeroValue106
  t53 := Tryd.underlying96
  a53 := Tryd.isAgg96
  z53 := Tryd.sizeOf96
  v53 := Tryd.zeroValue96
  t171 := Tryd.underlying95
  a171 := Tryd.isAgg95
  z171 := Tryd.sizeOf95
  v171 := Tryd.zeroValue95
  t173 := Tryd.underlying99
  a173 := Tryd.isAgg99
  z173 := Tryd.sizeOf99
  v173 := Tryd.zeroValue99
  t212 := Tryd.underlying105
  a212 := Tryd.isAgg105
  z212 := Tryd.sizeOf105
  v212 := Tryd.zeroValue105
  t213 := Tryd.underlying107
  a213 := Tryd.isAgg107
  z213 := Tryd.sizeOf107
  t232 := Tryd.underlying126
  a232 := Tryd.isAgg126
  z232 := Tryd.sizeOf126
  v232 := Tryd.zeroValue126
  t233 := Tryd.underlying127
  a233 := Tryd.isAgg127
  z233 := Tryd.sizeOf127
  v233 := Tryd.zeroValue127
  g17 := by kernel_rfl
  g18 := by kernel_rfl
  g19 := by kernel_rfl }
open Go.RowKit Go.Sort Go.Lib in
theorem Tryd.internal_strconv_FormatInt_10_small (i : Nat) (hi : i < 100) (w : World) :
    Calls Tryd.prog 38 #[.int .i64 i, .int .i64 10] w fun e w' => e = .returned (.string ⟨(Lib.decDigits i).toArray⟩) ∧ w' = w := Any.internal_strconv_FormatInt_10_small Tryd.lays246 i hi w
def Tryd.laysM243_ren : Go.Shelf.Ren := ⟨fun | 243 => 31 | 246 => 38 | 283 => 46 | 284 => 47 | 285 => 48 | 286 => 49 | 129 => 55 | 317 => 54 | 318 => 56 | 319 => 57 | 320 => 58 | 337 => 63 | 338 => 64 | n => n, fun | 3 => 3 | 9 => 9 | 2 => 2 | 4 => 4 | 171 => 95 | 0 => 0 | 53 => 96 | 37 => 41 | 5 => 5 | 173 => 99 | 212 => 105 | 51 => 106 | 20 => 20 | 213 => 107 | 46 => 91 | 232 => 126 | 233 => 127 | n => n, fun | 17 => 2 | 18 => 5 | 19 => 6 | n => n⟩
theorem Tryd.laysM243 : Go.Proofs.LaysM.n243 Tryd.prog Tryd.laysM243_ren := {
  mixed := by kernel_rfl
  f129 := Tryd.func55.trans (congrArg some (by kernel_rfl))
  f243 := Tryd.func31.trans (congrArg some (by kernel_rfl))
  f246 := Tryd.func38.trans (congrArg some (by kernel_rfl))
  f283 := Tryd.func46.trans (congrArg some (by kernel_rfl))
  f284 := Tryd.func47.trans (congrArg some (by kernel_rfl))
  f285 := Tryd.func48.trans (congrArg some (by kernel_rfl))
  f286 := Tryd.func49.trans (congrArg some (by kernel_rfl))
  f317 := Tryd.func54.trans (congrArg some (by kernel_rfl))
  f318 := Tryd.func56.trans (congrArg some (by kernel_rfl))
  f319 := Tryd.func57.trans (congrArg some (by kernel_rfl))
  f320 := Tryd.func58.trans (congrArg some (by kernel_rfl))
  f337 := Tryd.func63.trans (congrArg some (by kernel_rfl))
  f338 := Tryd.func64.trans (congrArg some (by kernel_rfl))
  t0 := Tryd.underlying0
  a0 := Tryd.isAgg0
  z0 := Tryd.sizeOf0
  v0 := Tryd.zeroValue0
  t2 := Tryd.underlying2
  a2 := Tryd.isAgg2
  z2 := Tryd.sizeOf2
  v2 := Tryd.zeroValue2
  t3 := Tryd.underlying3
  a3 := Tryd.isAgg3
  z3 := Tryd.sizeOf3
  v3 := Tryd.zeroValue3
  t4 := Tryd.underlying4
  a4 := Tryd.isAgg4
  z4 := Tryd.sizeOf4
  v4 := Tryd.zeroValue4
  t5 := Tryd.underlying5
  a5 := Tryd.isAgg5
  z5 := Tryd.sizeOf5
  v5 := Tryd.zeroValue5
  t9 := Tryd.underlying9
  a9 := Tryd.isAgg9
  z9 := Tryd.sizeOf9
  v9 := Tryd.zeroValue9
  t20 := Tryd.underlying20
  a20 := Tryd.isAgg20
  z20 := Tryd.sizeOf20
  v20 := Tryd.zeroValue20
  t37 := Tryd.underlying41
  a37 := Tryd.isAgg41
  z37 := Tryd.sizeOf41
  v37 := Tryd.zeroValue41
  t46 := Tryd.underlying91
  a46 := Tryd.isAgg91
  z46 := Tryd.sizeOf91
  v46 := Tryd.zeroValue91
  t51 := Tryd.underlying106
  a51 := Tryd.isAgg106
  z51 := Tryd.sizeOf106
  v51 := Tryd.zeroValue106
  t53 := Tryd.underlying96
  a53 := Tryd.isAgg96
  z53 := Tryd.sizeOf96
  v53 := Tryd.zeroValue96
  t171 := Tryd.underlying95
  a171 := Tryd.isAgg95
  z171 := Tryd.sizeOf95
  v171 := Tryd.zeroValue95
  t173 := Tryd.underlying99
  a173 := Tryd.isAgg99
  z173 := Tryd.sizeOf99
  v173 := Tryd.zeroValue99
  t212 := Tryd.underlying105
  a212 := Tryd.isAgg105
  z212 := Tryd.sizeOf105
  v212 := Tryd.zeroValue105
  t213 := Tryd.underlying107
  a213 := Tryd.isAgg107
  z213 := Tryd.sizeOf107
  t232 := Tryd.underlying126
  a232 := Tryd.isAgg126
  z232 := Tryd.sizeOf126
  v232 := Tryd.zeroValue126
  t233 := Tryd.underlying127
  a233 := Tryd.isAgg127
  z233 := Tryd.sizeOf127
  v233 := Tryd.zeroValue127
  g17 := by kernel_rfl
  g18 := by kernel_rfl
  g19 := by kernel_rfl
  i0 := by kernel_rfl
  i2 := by kernel_rfl
  i3 := by kernel_rfl
  i4 := by kernel_rfl
  i5 := by kernel_rfl
  i9 := by kernel_rfl
  i20 := by kernel_rfl
  i37 := by kernel_rfl
  i46 := by kernel_rfl
  i51 := by kernel_rfl
  i53 := by kernel_rfl
  i171 := by kernel_rfl
  i173 := by kernel_rfl
  i212 := by kernel_rfl
  i232 := by kernel_rfl
  i233 := by kernel_rfl
  m17 := by kernel_rfl
  m18 := by kernel_rfl
  m19 := by kernel_rfl }
open Go.RowKit Go.Sort Go.Lib in
theorem Tryd.internal_strconv_Itoa (n : Int) (h0 : -9223372036854775808 ≤ n) (h1 : n ≤ 9223372036854775807) (w : World) (htab : Lib.TabIs Tryd.prog w "internal/strconv.uint64pow10" .u64 Lib.pow10Tab) :
    Calls Tryd.prog 31 #[.int .i64 n] w fun e w' => e = .returned (.string ⟨(Lib.itoa n).toArray⟩) ∧ ∃ k os, w' = grow (w.drewN k) os := Any.internal_strconv_Itoa Tryd.laysM243 n h0 h1 w htab
def Tryd.lays243_ren : Go.Shelf.Ren := ⟨fun | 243 => 31 | 246 => 38 | 283 => 46 | 284 => 47 | 285 => 48 | 286 => 49 | 129 => 55 | 317 => 54 | 318 => 56 | 319 => 57 | 320 => 58 | 337 => 63 | 338 => 64 | n => n, fun | 3 => 3 | 9 => 9 | 2 => 2 | 4 => 4 | 171 => 95 | 0 => 0 | 53 => 96 | 37 => 41 | 5 => 5 | 173 => 99 | 212 => 105 | 51 => 106 | 20 => 20 | 213 => 107 | 46 => 91 | 232 => 126 | 233 => 127 | n => n, fun | 17 => 2 | 18 => 5 | 19 => 6 | n => n⟩
theorem Tryd.lays243 : Go.Proofs.Lays.n243 Tryd.prog Tryd.lays243_ren := {
  mixed := by kernel_rfl
  f129 := Tryd.func55.trans (congrArg some (by kernel_rfl))
  f243 := Tryd.func31.trans (congrArg some (by kernel_rfl))
  f246 := Tryd.func38.trans (congrArg some (by kernel_rfl))
  f283 := Tryd.func46.trans (congrArg some (by kernel_rfl))
  f284 := Tryd.func47.trans (congrArg some (by kernel_rfl))
  f285 := Tryd.func48.trans (congrArg some (by kernel_rfl))
  f286 := Tryd.func49.trans (congrArg some (by kernel_rfl))
  f317 := Tryd.func54.trans (congrArg some (by kernel_rfl))
  f318 := Tryd.func56.trans (congrArg some (by kernel_rfl))
  f319 := Tryd.func57.trans (congrArg some (by kernel_rfl))
  f320 := Tryd.func58.trans (congrArg some (by kernel_rfl))
  f337 := Tryd.func63.trans (congrArg some (by kernel_rfl))
  f338 := Tryd.func64.trans (congrArg some (by kernel_rfl))
  t0 := Tryd.underlying0
  a0 := Tryd.isAgg0
  z0 := Tryd.sizeOf0
  v0 := Tryd.zeroValue0
  t2 := Tryd.underlying2
  a2 := Tryd.isAgg2
  z2 := Tryd.sizeOf2
  v2 := Tryd.zeroValue2
  t3 := Tryd.underlying3
  a3 := Tryd.isAgg3
  z3 := Tryd.sizeOf3
  v3 := Tryd.zeroValue3
  t4 := Tryd.underlying4
  a4 := Tryd.isAgg4
  z4 := Tryd.sizeOf4
  v4 := Tryd.zeroValue4
  t5 := Tryd.underlying5
  a5 := Tryd.isAgg5
  z5 := Tryd.sizeOf5
  v5 := Tryd.zeroValue5
  t9 := Tryd.underlying9
  a9 := Tryd.isAgg9
  z9 := Tryd.sizeOf9
  v9 := Tryd.zeroValue9
  t20 := Tryd.underlying20
  a20 := Tryd.isAgg20
  z20 := Tryd.sizeOf20
  v20 := Tryd.zeroValue20
  t37 := Tryd.underlying41
  a37 := Tryd.isAgg41
  z37 := Tryd.sizeOf41
  v37 := Tryd.zeroValue41
  t46 := Tryd.underlying91
  a46 := Tryd.isAgg91
  z46 := Tryd.sizeOf91
  v46 := Tryd.zeroValue91
  t51 := Tryd.underlying106
  a51 := Tryd.isAgg106
  z51 := Tryd.sizeOf106
  v51 := Tryd.zeroValue106
  t53 := Tryd.underlying96
  a53 := Tryd.isAgg96
  z53 := Tryd.sizeOf96
  v53 := Tryd.zeroValue96
  t171 := Tryd.underlying95
  a171 := Tryd.isAgg95
  z171 := Tryd.sizeOf95
  v171 := Tryd.zeroValue95
  t173 := Tryd.underlying99
  a173 := Tryd.isAgg99
  z173 := Tryd.sizeOf99
  v173 := Tryd.zeroValue99
  t212 := Tryd.underlying105
  a212 := Tryd.isAgg105
  z212 := Tryd.sizeOf105
  v212 := Tryd.zeroValue105
  t213 := Tryd.underlying107
  a213 := Tryd.isAgg107
  z213 := Tryd.sizeOf107
  t232 := Tryd.underlying126
  a232 := Tryd.isAgg126
  z232 := Tryd.sizeOf126
  v232 := Tryd.zeroValue126
  t233 := Tryd.underlying127
  a233 := Tryd.isAgg127
  z233 := Tryd.sizeOf127
  v233 := Tryd.zeroValue127
  g17 := by kernel_rfl
  g18 := by kernel_rfl
  g19 := by kernel_rfl }
open Go.RowKit Go.Sort Go.Lib in
theorem Tryd.internal_strconv_Itoa_small (i : Nat) (hi : i < 100) (w : World) :
    Calls Tryd.prog 31 #[.int .i64 i] w fun e w' => e = .returned (.string ⟨(Lib.decDigits i).toArray⟩) ∧ w' = w := Any.internal_strconv_Itoa_small Tryd.lays243 i hi w
def Tryd.laysM171_ren : Go.Shelf.Ren := ⟨fun | 171 => 21 | 243 => 31 | 246 => 38 | 283 => 46 | 284 => 47 | 285 => 48 | 286 => 49 | 129 => 55 | 317 => 54 | 318 => 56 | 319 => 57 | 320 => 58 | 337 => 63 | 338 => 64 | n => n, fun | 3 => 3 | 9 => 9 | 2 => 2 | 4 => 4 | 171 => 95 | 0 => 0 | 53 => 96 | 37 => 41 | 5 => 5 | 173 => 99 | 212 => 105 | 51 => 106 | 20 => 20 | 213 => 107 | 46 => 91 | 232 => 126 | 233 => 127 | n => n, fun | 17 => 2 | 18 => 5 | 19 => 6 | n => n⟩
theorem Tryd.laysM171 : Go.Proofs.LaysM.n171 Tryd.prog Tryd.laysM171_ren := {
  mixed := by kernel_rfl
  f129 := Tryd.func55.trans (congrArg some (by kernel_rfl))
  f171 := Tryd.func21.trans (congrArg some (by kernel_rfl))
  f243 := Tryd.func31.trans (congrArg some (by kernel_rfl))
  f246 := Tryd.func38.trans (congrArg some (by kernel_rfl))
  f283 := Tryd.func46.trans (congrArg some (by kernel_rfl))
  f284 := Tryd.func47.trans (congrArg some (by kernel_rfl))
  f285 := Tryd.func48.trans (congrArg some (by kernel_rfl))
  f286 := Tryd.func49.trans (congrArg some (by kernel_rfl))
  f317 := Tryd.func54.trans (congrArg some (by kernel_rfl))
  f318 := Tryd.func56.trans (congrArg some (by kernel_rfl))
  f319 := Tryd.func57.trans (congrArg some (by kernel_rfl))
  f320 := Tryd.func58.trans (congrArg some (by kernel_rfl))
  f337 := Tryd.func63.trans (congrArg some (by kernel_rfl))
  f338 := Tryd.func64.trans (congrArg some (by kernel_rfl))
  t0 := Tryd.underlying0
  a0 := Tryd.isAgg0
  z0 := Tryd.sizeOf0
  v0 := Tryd.zeroValue0
  t2 := Tryd.underlying2
  a2 := Tryd.isAgg2
  z2 := Tryd.sizeOf2
  v2 := Tryd.zeroValue2
  t3 := Tryd.underlying3
  a3 := Tryd.isAgg3
  z3 := Tryd.sizeOf3
  v3 := Tryd.zeroValue3
  t4 := Tryd.underlying4
  a4 := Tryd.isAgg4
  z4 := Tryd.sizeOf4
  v4 := Tryd.zeroValue4
  t5 := Tryd.underlying5
  a5 := Tryd.isAgg5
  z5 := Tryd.sizeOf5
  v5 := Tryd.zeroValue5
  t9 := Tryd.underlying9
  a9 := Tryd.isAgg9
  z9 := Tryd.sizeOf9
  v9 := Tryd.zeroValue9
  t20 := Tryd.underlying20
  a20 := Tryd.isAgg20
  z20 := Tryd.sizeOf20
  v20 := Tryd.zeroValue20
  t37 := Tryd.underlying41
  a37 := Tryd.isAgg41
  z37 := Tryd.sizeOf41
  v37 := Tryd.zeroValue41
  t46 := Tryd.underlying91
  a46 := Tryd.isAgg91
  z46 := Tryd.sizeOf91
  v46 := Tryd.zeroValue91
  t51 := Tryd.underlying106
  a51 := Tryd.isAgg106
  z51 := Tryd.sizeOf106
  v51 := Tryd.zeroValue106
  t53 := Tryd.underlying96
  a53 := Tryd.isAgg96
  z53 := Tryd.sizeOf96
  v53 := Tryd.zeroValue96
  t171 := Tryd.underlying95
  a171 := Tryd.isAgg95
  z171 := Tryd.sizeOf95
  v171 := Tryd.zeroValue95
  t173 := Tryd.underlying99
  a173 := Tryd.isAgg99
  z173 := Tryd.sizeOf99
  v173 := Tryd.zeroValue99
  t212 := Tryd.underlying105
  a212 := Tryd.isAgg105
  z212 := Tryd.sizeOf105
  v212 := Tryd.zeroValue105
  t213 := Tryd.underlying107
  a213 := Tryd.isAgg107
  z213 := Tryd.sizeOf107
  t232 := Tryd.underlying126
  a232 := Tryd.isAgg126
  z232 := Tryd.sizeOf126
  v232 := Tryd.zeroValue126
  t233 := Tryd.underlying127
  a233 := Tryd.isAgg127
  z233 := Tryd.sizeOf127
  v233 := Tryd.zeroValue127
  g17 := by kernel_rfl
  g18 := by kernel_rfl
  g19 := by kernel_rfl
  i0 := by kernel_rfl
  i2 := by kernel_rfl
  i3 := by kernel_rfl
  i4 := by kernel_rfl
  i5 := by kernel_rfl
  i9 := by kernel_rfl
  i20 := by kernel_rfl
  i37 := by kernel_rfl
  i46 := by kernel_rfl
  i51 := by kernel_rfl
  i53 := by kernel_rfl
  i171 := by kernel_rfl
  i173 := by kernel_rfl
  i212 := by kernel_rfl
  i232 := by kernel_rfl
  i233 := by kernel_rfl
  m17 := by kernel_rfl
  m18 := by kernel_rfl
  m19 := by kernel_rfl }
open Go.RowKit Go.Sort Go.Lib in
theorem Tryd.strconv_Itoa (n : Int) (h0 : -9223372036854775808 ≤ n) (h1 : n ≤ 9223372036854775807) (w : World) (htab : Lib.TabIs Tryd.prog w "internal/strconv.uint64pow10" .u64 Lib.pow10Tab) :
    Calls Tryd.prog 21 #[.int .i64 n] w fun e w' => e = .returned (.string ⟨(Lib.itoa n).toArray⟩) ∧ ∃ k os, w' = grow (w.drewN k) os := Any.strconv_Itoa Tryd.laysM171 n h0 h1 w htab
def Tryd.lays171_ren : Go.Shelf.Ren := ⟨fun | 171 => 21 | 243 => 31 | 246 => 38 | 283 => 46 | 284 => 47 | 285 => 48 | 286 => 49 | 129 => 55 | 317 => 54 | 318 => 56 | 319 => 57 | 320 => 58 | 337 => 63 | 338 => 64 | n => n, fun | 3 => 3 | 9 => 9 | 2 => 2 | 4 => 4 | 171 => 95 | 0 => 0 | 53 => 96 | 37 => 41 | 5 => 5 | 173 => 99 | 212 => 105 | 51 => 106 | 20 => 20 | 213 => 107 | 46 => 91 | 232 => 126 | 233 => 127 | n => n, fun | 17 => 2 | 18 => 5 | 19 => 6 | n => n⟩
theorem Tryd.lays171 : Go.Proofs.Lays.n171 Tryd.prog Tryd.lays171_ren := {
  mixed := by kernel_rfl
  f129 := Tryd.func55.trans (congrArg some (by kernel_rfl))
  f171 := Tryd.func21.trans (congrArg some (by kernel_rfl))
  f243 := Tryd.func31.trans (congrArg some (by kernel_rfl))
  f246 := Tryd.func38.trans (congrArg some (by kernel_rfl))
  f283 := Tryd.func46.trans (congrArg some (by kernel_rfl))
  f284 := Tryd.func47.trans (congrArg some (by kernel_rfl))
  f285 := Tryd.func48.trans (congrArg some (by kernel_rfl))
  f286 := Tryd.func49.trans (congrArg some (by kernel_rfl))
  f317 := Tryd.func54.trans (congrArg some (by kernel_rfl))
  f318 := Tryd.func56.trans (congrArg some (by kernel_rfl))
  f319 := Tryd.func57.trans (congrArg some (by kernel_rfl))
  f320 := Tryd.func58.trans (congrArg some (by kernel_rfl))
  f337 := Tryd.func63.trans (congrArg some (by kernel_rfl))
  f338 := Tryd.func64.trans (congrArg some (by kernel_rfl))
  t0 := Tryd.underlying0
  a0 := Tryd.isAgg0
  z0 := Tryd.sizeOf0
  v0 := Tryd.zeroValue0
  t2 := Tryd.underlying2
  a2 := Tryd.isAgg2
  z2 := Tryd.sizeOf2
  v2 := Tryd.zeroValue2
  t3 := Tryd.underlying3
  a3 := Tryd.isAgg3
  z3 := Tryd.sizeOf3
  v3 := Tryd.zeroValue3
  t4 := Tryd.underlying4
  a4 := Tryd.isAgg4
  z4 := Tryd.sizeOf4
  v4 := Tryd.zeroValue4
  t5 := Tryd.underlying5
  a5 := Tryd.isAgg5
  z5 := Tryd.sizeOf5
  v5 := Tryd.zeroValue5
  t9 := Tryd.underlying9
  a9 := Tryd.isAgg9
  z9 := Tryd.sizeOf9
  v9 := Tryd.zeroValue9
  t20 := Tryd.underlying20
  a20 := Tryd.isAgg20
  z20 := Tryd.sizeOf20
  v20 := Tryd.zeroValue20
  t37 := Tryd.underlying41
  a37 := Tryd.isAgg41
  z37 := Tryd.sizeOf41
  v37 := Tryd.zeroValue41
  t46 := Tryd.underlying91
  a46 := Tryd.isAgg91
  z46 := Tryd.sizeOf91
  v46 := Tryd.zeroValue91
  t51 := Tryd.underlying106
  a51 := Tryd.isAgg106
  z51 := Tryd.sizeOf106
  v51 := Tryd.zeroValue106
  t53 := Tryd.underlying96
  a53 := Tryd.isAgg96
  z53 := Tryd.sizeOf96
  v53 := Tryd.zeroValue96
  t171 := Tryd.underlying95
  a171 := Tryd.isAgg95
  z171 := Tryd.sizeOf95
  v171 := Tryd.zeroValue95
  t173 := Tryd.underlying99
  a173 := Tryd.isAgg99
  z173 := Tryd.sizeOf99
  v173 := Tryd.zeroValue99
  t212 := Tryd.underlying105
  a212 := Tryd.isAgg105
  z212 := Tryd.sizeOf105
  v212 := Tryd.zeroValue105
  t213 := Tryd.underlying107
  a213 := Tryd.isAgg107
  z213 := Tryd.sizeOf107
  t232 := Tryd.underlying126
  a232 := Tryd.isAgg126
  z232 := Tryd.sizeOf126
  v232 := Tryd.zeroValue126
  t233 := Tryd.underlying127
  a233 := Tryd.isAgg127
  z233 := Tryd.sizeOf127
  v233 := Tryd.zeroValue127
  g17 := by kernel_rfl
  g18 := by kernel_rfl
  g19 := by kernel_rfl }
open Go.RowKit Go.Sort Go.Lib in
theorem Tryd.strconv_Itoa_small (i : Nat) (hi : i < 100) (w : World) :
    Calls Tryd.prog 21 #[.int .i64 i] w fun e w' => e = .returned (.string ⟨(Lib.decDigits i).toArray⟩) ∧ w' = w := Any.strconv_Itoa_small Tryd.lays171 i hi w
def Tryd.laysM181_ren : Go.Shelf.Ren := ⟨fun | 181 => 35 | n => n, fun | 130 => 77 | 3 => 3 | 0 => 0 | 93 => 62 | 37 => 41 | 91 => 60 | 5 => 5 | n => n, fun | n => n⟩
theorem Tryd.laysM181 : Go.Proofs.LaysM.n181 Tryd.prog Tryd.laysM181_ren := {
  mixed := by kernel_rfl
  f181 := Tryd.func35.trans (congrArg some (by kernel_rfl))
  t0 := Tryd.underlying0
  a0 := Tryd.isAgg0
  z0 := Tryd.sizeOf0
  v0 := Tryd.zeroValue0
  t3 := Tryd.underlying3
  a3 := Tryd.isAgg3
  z3 := Tryd.sizeOf3
  v3 := Tryd.zeroValue3
  t37 := Tryd.underlying41
  a37 := Tryd.isAgg41
  z37 := Tryd.sizeOf41
  v37 := Tryd.zeroValue41
  t93 := Tryd.underlying62
  a93 := Tryd.isAgg62
  z93 := Tryd.sizeOf62
  v93 := Tryd.zeroValue62
  t130 := Tryd.underlying77
  a130 := Tryd.isAgg77
  z130 := Tryd.sizeOf77
  v130 := Tryd.zeroValue77
  t5 := Tryd.underlying5
  a5 := Tryd.isAgg5
  z5 := Tryd.sizeOf5
  v5 := Tryd.zeroValue5
  t91 := Tryd.underlying60
  a91 := Tryd.isAgg60
  z91 := Tryd.sizeOf60
  v91 := Tryd.zeroValue60
  i0 := by kernel_rfl
  i3 := by kernel_rfl
  i5 := by kernel_rfl
  i37 := by kernel_rfl
  i91 := by kernel_rfl
  i93 := by kernel_rfl
  i130 := by kernel_rfl }
open Go.RowKit in
theorem Tryd.Buffer_Len (B b : Nat) (bs : List Value) (w : World) (h : Lib.IsBuffer 62 5 B b bs w) :
    Calls Tryd.prog 35 #[.pointer (some ⟨b, 0, none⟩)] w fun e w' => e = .returned (.int .i64 bs.length) ∧ ∃ n, w' = w.drewN n := Any.Buffer_Len Tryd.laysM181 B b bs w h
def Tryd.laysM251_ren : Go.Shelf.Ren := ⟨fun | 251 => 27 | n => n, fun | 130 => 77 | 3 => 3 | 4 => 4 | 0 => 0 | 93 => 62 | 37 => 41 | 91 => 60 | 5 => 5 | n => n, fun | n => n⟩
theorem Tryd.laysM251 : Go.Proofs.LaysM.n251 Tryd.prog Tryd.laysM251_ren := {
  mixed := by kernel_rfl
  f251 := Tryd.func27.trans (congrArg some (by kernel_rfl))
  t0 := Tryd.underlying0
  a0 := Tryd.isAgg0
  z0 := Tryd.sizeOf0
  v0 := Tryd.zeroValue0
  t3 := Tryd.underlying3
  a3 := Tryd.isAgg3
  z3 := Tryd.sizeOf3
  v3 := Tryd.zeroValue3
  t4 := Tryd.underlying4
  a4 := Tryd.isAgg4
  z4 := Tryd.sizeOf4
  v4 := Tryd.zeroValue4
  t37 := Tryd.underlying41
  a37 := Tryd.isAgg41
  z37 := Tryd.sizeOf41
  v37 := Tryd.zeroValue41
  t93 := Tryd.underlying62
  a93 := Tryd.isAgg62
  z93 := Tryd.sizeOf62
  v93 := Tryd.zeroValue62
  t130 := Tryd.underlying77
  a130 := Tryd.isAgg77
  z130 := Tryd.sizeOf77
  v130 := Tryd.zeroValue77
  t5 := Tryd.underlying5
  a5 := Tryd.isAgg5
  z5 := Tryd.sizeOf5
  v5 := Tryd.zeroValue5
  t91 := Tryd.underlying60
  a91 := Tryd.isAgg60
  z91 := Tryd.sizeOf60
  v91 := Tryd.zeroValue60
  i0 := by kernel_rfl
  i3 := by kernel_rfl
  i4 := by kernel_rfl
  i5 := by kernel_rfl
  i37 := by kernel_rfl
  i91 := by kernel_rfl
  i93 := by kernel_rfl
  i130 := by kernel_rfl }
open Go.RowKit in
theorem Tryd.Buffer_tryGrow_room (b : Nat) (ao : Option Addr) (l cap n : Nat) (w : World) (c0 : w.cell? ⟨b, 0, none⟩ = some (.slice ao l cap)) (f0 : w.frozen? ⟨b, 0, none⟩ = false) (hlc : l ≤ cap) (hcap : cap ≤ maxLen) (hn : n ≤ cap - l) :
    Calls Tryd.prog 27 #[.pointer (some ⟨b, 0, none⟩), .int .i64 n] w fun e w' => e = .returned (.tuple #[.int .i64 l, .bool true]) ∧ w' = w.setCell ⟨b, 0, none⟩ (.slice ao (l + n) cap) := Any.Buffer_tryGrow_room Tryd.laysM251 b ao l cap n w c0 f0 hlc hcap hn
open Go.RowKit in
theorem Tryd.Buffer_tryGrow_none (b : Nat) (ao : Option Addr) (l cap n : Nat) (w : World) (c0 : w.cell? ⟨b, 0, none⟩ = some (.slice ao l cap)) (hlc : l ≤ cap) (hcap : cap ≤ maxLen) (hn : cap - l < n) :
    Calls Tryd.prog 27 #[.pointer (some ⟨b, 0, none⟩), .int .i64 n] w fun e w' => e = .returned (.tuple #[.int .i64 0, .bool false]) ∧ w' = w := Any.Buffer_tryGrow_none Tryd.laysM251 b ao l cap n w c0 hlc hcap hn
def Tryd.laysM324_ren : Go.Shelf.Ren := ⟨fun | 324 => 45 | n => n, fun | 20 => 20 | 4 => 4 | 75 => 64 | 0 => 0 | 80 => 135 | 9 => 9 | n => n, fun | 14 => 0 | n => n⟩
theorem Tryd.laysM324 : Go.Proofs.LaysM.n324 Tryd.prog Tryd.laysM324_ren := {
  mixed := by kernel_rfl
  f324 := Tryd.func45.trans (congrArg some (by kernel_rfl))
  t0 := Tryd.underlying0
  a0 := Tryd.isAgg0
  z0 := Tryd.sizeOf0
  v0 := Tryd.zeroValue0
  t4 := Tryd.underlying4
  a4 := Tryd.isAgg4
  z4 := Tryd.sizeOf4
  v4 := Tryd.zeroValue4
  t20 := Tryd.underlying20
  a20 := Tryd.isAgg20
  z20 := Tryd.sizeOf20
  v20 := Tryd.zeroValue20
  t75 := Tryd.underlying64
  a75 := Tryd.isAgg64
  z75 := Tryd.sizeOf64
  v75 := Tryd.zeroValue64
  g14 := by kernel_rfl
  t9 := Tryd.underlying9
  a9 := Tryd.isAgg9
  z9 := Tryd.sizeOf9
  v9 := Tryd.zeroValue9
  t80 := Tryd.underlying135
  a80 := Tryd.isAgg135
  z80 := Tryd.sizeOf135
  v80 := Tryd.zeroValue135
  i0 := by kernel_rfl
  i4 := by kernel_rfl
  i9 := by kernel_rfl
  i20 := by kernel_rfl
  i75 := by kernel_rfl
  i80 := by kernel_rfl
  m14 := by kernel_rfl }
theorem Tryd.growSlice_catch_idle (w : World) :
    CallsD Tryd.prog 45 #[] .returning w fun e u' w' => e = .returned (.tuple #[]) ∧ u' = .returning ∧ w' = w := Any.growSlice_catch_idle Tryd.laysM324 w
def Tryd.laysM290_ren : Go.Shelf.Ren := ⟨fun | 290 => 37 | 324 => 45 | n => n, fun | 37 => 41 | 3 => 3 | 0 => 0 | 4 => 4 | 20 => 20 | 75 => 64 | 5 => 5 | 80 => 135 | 9 => 9 | n => n, fun | 14 => 0 | n => n⟩
theorem Tryd.laysM290 : Go.Proofs.LaysM.n290 Tryd.prog Tryd.laysM290_ren := {
  mixed := by kernel_rfl
  f290 := Tryd.func37.trans (congrArg some (by kernel_rfl))
  f324 := Tryd.func45.trans (congrArg some (by kernel_rfl))
  t0 := Tryd.underlying0
  a0 := Tryd.isAgg0
  z0 := Tryd.sizeOf0
  v0 := Tryd.zeroValue0
  t3 := Tryd.underlying3
  a3 := Tryd.isAgg3
  z3 := Tryd.sizeOf3
  v3 := Tryd.zeroValue3
  t4 := Tryd.underlying4
  a4 := Tryd.isAgg4
  z4 := Tryd.sizeOf4
  v4 := Tryd.zeroValue4
  t20 := Tryd.underlying20
  a20 := Tryd.isAgg20
  z20 := Tryd.sizeOf20
  v20 := Tryd.zeroValue20
  t37 := Tryd.underlying41
  a37 := Tryd.isAgg41
  z37 := Tryd.sizeOf41
  v37 := Tryd.zeroValue41
  t75 := Tryd.underlying64
  a75 := Tryd.isAgg64
  z75 := Tryd.sizeOf64
  v75 := Tryd.zeroValue64
  g14 := by kernel_rfl
  t5 := Tryd.underlying5
  a5 := Tryd.isAgg5
  z5 := Tryd.sizeOf5
  v5 := Tryd.zeroValue5
  t9 := Tryd.underlying9
  a9 := Tryd.isAgg9
  z9 := Tryd.sizeOf9
  v9 := Tryd.zeroValue9
  t80 := Tryd.underlying135
  a80 := Tryd.isAgg135
  z80 := Tryd.sizeOf135
  v80 := Tryd.zeroValue135
  i0 := by kernel_rfl
  i3 := by kernel_rfl
  i4 := by kernel_rfl
  i5 := by kernel_rfl
  i9 := by kernel_rfl
  i20 := by kernel_rfl
  i37 := by kernel_rfl
  i75 := by kernel_rfl
  i80 := by kernel_rfl
  m14 := by kernel_rfl }
open Go.RowKit in
theorem Tryd.bytes_growSlice_row (g l c n : Nat) (cur : Array Value) (w : World) (hg : w.heap[g]? = some (.cells cur 5 (0, 0))) (hcs : cur.size = c) (hlc : l ≤ c) (hn : 1 ≤ n) (hlim : l + n ≤ 140737488355328) (hc2 : c ≤ 140737488355328) (h1 : ∀ v ∈ cur.toList.take l, v.oneCell' = true) :
    Calls Tryd.prog 37 #[.slice (some ⟨g, 0, none⟩) l c, .int .i64 n] w fun e w' => ∃ cap2 cells, e = .returned (.slice (some ⟨w.heap.size, 0, none⟩) l cap2) ∧ w'.heap[w.heap.size]? = some (.cells cells 5 (0, 0)) ∧
      cells.size = cap2 ∧ cells.toList.take l = cur.toList.take l ∧ l + n ≤ cap2 ∧ cap2 ≤ maxLen ∧ Below w.heap.size w w' := Any.bytes_growSlice_row Tryd.laysM290 g l c n cur w hg hcs hlc hn hlim hc2 h1
open Go.RowKit in
theorem Tryd.bytes_growSlice_nil (n : Nat) (w : World) (hn : 1 ≤ n) (hlim : n ≤ 140737488355328) :
    Calls Tryd.prog 37 #[.slice none 0 0, .int .i64 n] w fun e w' => ∃ cap2 cells, e = .returned (.slice (some ⟨w.heap.size, 0, none⟩) 0 cap2) ∧ w'.heap[w.heap.size]? = some (.cells cells 5 (0, 0)) ∧
      cells.size = cap2 ∧ n ≤ cap2 ∧ cap2 ≤ maxLen ∧ Below w.heap.size w w' := Any.bytes_growSlice_nil Tryd.laysM290 n w hn hlim
def Tryd.laysM183_ren : Go.Shelf.Ren := ⟨fun | 183 => 22 | n => n, fun | 130 => 77 | 37 => 41 | 0 => 0 | 93 => 62 | 3 => 3 | 5 => 5 | 91 => 60 | n => n, fun | n => n⟩
theorem Tryd.laysM183 : Go.Proofs.LaysM.n183 Tryd.prog Tryd.laysM183_ren := {
  mixed := by kernel_rfl
  f183 := Tryd.func22.trans (congrArg some (by kernel_rfl))
  t0 := Tryd.underlying0
  a0 := Tryd.isAgg0
  z0 := Tryd.sizeOf0
  v0 := Tryd.zeroValue0
  t3 := Tryd.underlying3
  a3 := Tryd.isAgg3
  z3 := Tryd.sizeOf3
  v3 := Tryd.zeroValue3
  t37 := Tryd.underlying41
  a37 := Tryd.isAgg41
  z37 := Tryd.sizeOf41
  v37 := Tryd.zeroValue41
  t93 := Tryd.underlying62
  a93 := Tryd.isAgg62
  z93 := Tryd.sizeOf62
  v93 := Tryd.zeroValue62
  t130 := Tryd.underlying77
  a130 := Tryd.isAgg77
  z130 := Tryd.sizeOf77
  v130 := Tryd.zeroValue77
  t5 := Tryd.underlying5
  a5 := Tryd.isAgg5
  z5 := Tryd.sizeOf5
  v5 := Tryd.zeroValue5
  t91 := Tryd.underlying60
  a91 := Tryd.isAgg60
  z91 := Tryd.sizeOf60
  v91 := Tryd.zeroValue60
  i0 := by kernel_rfl
  i3 := by kernel_rfl
  i5 := by kernel_rfl
  i37 := by kernel_rfl
  i91 := by kernel_rfl
  i93 := by kernel_rfl
  i130 := by kernel_rfl }
open Go.RowKit in
theorem Tryd.Buffer_Bytes (B b : Nat) (bs : List Value) (w : World) (h : Lib.IsBuffer 62 5 B b bs w) :
    Calls Tryd.prog 22 #[.pointer (some ⟨b, 0, none⟩)] w fun e w' => ∃ v, e = .returned v ∧ w'.ownsRow B 5 1 v bs.length bs ∧ ∃ n, w' = w.drewN n := Any.Buffer_Bytes Tryd.laysM183 B b bs w h
def Tryd.laysM252_ren : Go.Shelf.Ren := ⟨fun | 252 => 28 | 181 => 35 | 184 => 36 | 251 => 27 | 290 => 37 | 324 => 45 | n => n, fun | 130 => 77 | 3 => 3 | 4 => 4 | 0 => 0 | 93 => 62 | 131 => 78 | 37 => 41 | 75 => 64 | 91 => 60 | 20 => 20 | 5 => 5 | 80 => 135 | 9 => 9 | n => n, fun | 14 => 0 | n => n⟩
theorem Tryd.laysM252 : Go.Proofs.LaysM.n252 Tryd.prog Tryd.laysM252_ren := {
  mixed := by kernel_rfl
  f181 := Tryd.func35.trans (congrArg some (by kernel_rfl))
  f184 := Tryd.func36.trans (congrArg some (by kernel_rfl))
  f251 := Tryd.func27.trans (congrArg some (by kernel_rfl))
  f252 := Tryd.func28.trans (congrArg some (by kernel_rfl))
  f290 := Tryd.func37.trans (congrArg some (by kernel_rfl))
  f324 := Tryd.func45.trans (congrArg some (by kernel_rfl))
  t0 := Tryd.underlying0
  a0 := Tryd.isAgg0
  z0 := Tryd.sizeOf0
  v0 := Tryd.zeroValue0
  t3 := Tryd.underlying3
  a3 := Tryd.isAgg3
  z3 := Tryd.sizeOf3
  v3 := Tryd.zeroValue3
  t4 := Tryd.underlying4
  a4 := Tryd.isAgg4
  z4 := Tryd.sizeOf4
  v4 := Tryd.zeroValue4
  t20 := Tryd.underlying20
  a20 := Tryd.isAgg20
  z20 := Tryd.sizeOf20
  v20 := Tryd.zeroValue20
  t37 := Tryd.underlying41
  a37 := Tryd.isAgg41
  z37 := Tryd.sizeOf41
  v37 := Tryd.zeroValue41
  t75 := Tryd.underlying64
  a75 := Tryd.isAgg64
  z75 := Tryd.sizeOf64
  v75 := Tryd.zeroValue64
  t91 := Tryd.underlying60
  a91 := Tryd.isAgg60
  z91 := Tryd.sizeOf60
  v91 := Tryd.zeroValue60
  t93 := Tryd.underlying62
  a93 := Tryd.isAgg62
  z93 := Tryd.sizeOf62
  v93 := Tryd.zeroValue62
  t130 := Tryd.underlying77
  a130 := Tryd.isAgg77
  z130 := Tryd.sizeOf77
  v130 := Tryd.zeroValue77
  t131 := Tryd.underlying78
  a131 := Tryd.isAgg78
  z131 := Tryd.sizeOf78
  v131 := Tryd.zeroValue78
  g14 := by kernel_rfl
  t5 := Tryd.underlying5
  a5 := Tryd.isAgg5
  z5 := Tryd.sizeOf5
  v5 := Tryd.zeroValue5
  t9 := Tryd.underlying9
  a9 := Tryd.isAgg9
  z9 := Tryd.sizeOf9
  v9 := Tryd.zeroValue9
  t80 := Tryd.underlying135
  a80 := Tryd.isAgg135
  z80 := Tryd.sizeOf135
  v80 := Tryd.zeroValue135
  i0 := by kernel_rfl
  i3 := by kernel_rfl
  i4 := by kernel_rfl
  i5 := by kernel_rfl
  i9 := by kernel_rfl
  i20 := by kernel_rfl
  i37 := by kernel_rfl
  i75 := by kernel_rfl
  i80 := by kernel_rfl
  i91 := by kernel_rfl
  i93 := by kernel_rfl
  i130 := by kernel_rfl
  i131 := by kernel_rfl
  m14 := by kernel_rfl }
open Go.RowKit in
theorem Tryd.Buffer_grow_row0_kept (B b g cap n : Nat) (lr : Int) (cur : Array Value) (bs : List Value) (w : World) (hB : B ≤ b) (hBw : B ≤ w.heap.size) (hbk : w.heap[b]? = some (.cells #[.slice (some ⟨g, 0, none⟩) 0 cap, .int .i64 0, .int .i8 lr] 62 (0, 0))) (hl : bs.length = 0) (hBg : B ≤ g) (hg : w.heap[g]? = some (.cells cur 5 (0, 0))) (hlc : 0 ≤ cap) (hcm : cap ≤ maxLen) (hcs : cur.size = cap) (htake : cur.toList.take 0 = bs) (hgb : g ≠ b) (h1 : ∀ v ∈ bs, v.oneCell' = true) (hn : 1 ≤ n) (hroom : cap - 0 < n) (hlim : 0 + n ≤ 140737488355328) :
    Calls Tryd.prog 28 #[.pointer (some ⟨b, 0, none⟩), .int .i64 n] w fun e w' => e = .returned (.int .i64 0) ∧ ∃ xs, xs.length = n ∧ Lib.IsBuffer 62 5 B b (bs ++ xs) w' ∧ Below B w w' ∧ Lib.OthersKept 5 (some b) w w' := Any.Buffer_grow_row0_kept Tryd.laysM252 B b g cap n lr cur bs w hB hBw hbk hl hBg hg hlc hcm hcs htake hgb h1 hn hroom hlim
open Go.RowKit in
theorem Tryd.Buffer_grow_row_kept (B b g l cap n : Nat) (lr : Int) (cur : Array Value) (bs : List Value) (w : World) (hB : B ≤ b) (hBw : B ≤ w.heap.size) (hbk : w.heap[b]? = some (.cells #[.slice (some ⟨g, 0, none⟩) l cap, .int .i64 0, .int .i8 lr] 62 (0, 0))) (hl : bs.length = l) (hBg : B ≤ g) (hg : w.heap[g]? = some (.cells cur 5 (0, 0))) (hlc : l ≤ cap) (hcm : cap ≤ maxLen) (hcs : cur.size = cap) (htake : cur.toList.take l = bs) (hgb : g ≠ b) (h1 : ∀ v ∈ bs, v.oneCell' = true) (hn : 1 ≤ n) (hroom : cap - l < n) (hlim : l + n ≤ 140737488355328) :
    Calls Tryd.prog 28 #[.pointer (some ⟨b, 0, none⟩), .int .i64 n] w fun e w' => e = .returned (.int .i64 l) ∧ ∃ xs, xs.length = n ∧ Lib.IsBuffer 62 5 B b (bs ++ xs) w' ∧ Below B w w' ∧ Lib.OthersKept 5 (some b) w w' := Any.Buffer_grow_row_kept Tryd.laysM252 B b g l cap n lr cur bs w hB hBw hbk hl hBg hg hlc hcm hcs htake hgb h1 hn hroom hlim
open Go.RowKit in
theorem Tryd.Buffer_grow_nil_small_kept (B b n : Nat) (lr : Int) (w : World) (hB : B ≤ b) (hBw : B ≤ w.heap.size) (hbk : w.heap[b]? = some (.cells #[.slice none 0 0, .int .i64 0, .int .i8 lr] 62 (0, 0))) (hn : 1 ≤ n) (h64 : n ≤ 64) :
    Calls Tryd.prog 28 #[.pointer (some ⟨b, 0, none⟩), .int .i64 n] w fun e w' => e = .returned (.int .i64 0) ∧ ∃ xs, xs.length = n ∧ Lib.IsBuffer 62 5 B b xs w' ∧ Below B w w' ∧ Lib.OthersKept 5 (some b) w w' := Any.Buffer_grow_nil_small_kept Tryd.laysM252 B b n lr w hB hBw hbk hn h64
open Go.RowKit in
theorem Tryd.Buffer_grow_nil_big_kept (B b n : Nat) (lr : Int) (w : World) (hB : B ≤ b) (hBw : B ≤ w.heap.size) (hbk : w.heap[b]? = some (.cells #[.slice none 0 0, .int .i64 0, .int .i8 lr] 62 (0, 0))) (h64 : 64 < n) (hlim : n ≤ 140737488355328) :
    Calls Tryd.prog 28 #[.pointer (some ⟨b, 0, none⟩), .int .i64 n] w fun e w' => e = .returned (.int .i64 0) ∧ ∃ xs, xs.length = n ∧ Lib.IsBuffer 62 5 B b xs w' ∧ Below B w w' ∧ Lib.OthersKept 5 (some b) w w' := Any.Buffer_grow_nil_big_kept Tryd.laysM252 B b n lr w hB hBw hbk h64 hlim
open Go.RowKit in
theorem Tryd.Buffer_tryGrow_kept (B b n : Nat) (bs : List Value) (w : World) (h : Lib.IsBuffer 62 5 B b bs w) :
    Calls Tryd.prog 27 #[.pointer (some ⟨b, 0, none⟩), .int .i64 n] w fun e w' =>
      (e = .returned (.tuple #[.int .i64 bs.length, .bool true]) ∧ ∃ xs, xs.length = n ∧ Lib.IsBuffer 62 5 B b (bs ++ xs) w' ∧ Below B w w' ∧ Lib.OthersKept 5 (some b) w w') ∨
      (e = .returned (.tuple #[.int .i64 0, .bool false]) ∧ w' = w ∧ Lib.NoRoom b n w) := Any.Buffer_tryGrow_kept Tryd.laysM251 B b n bs w h
open Go.RowKit in
theorem Tryd.Buffer_grow_kept (B b n : Nat) (bs : List Value) (w : World) (h : Lib.IsBuffer 62 5 B b bs w) (hnr : Lib.NoRoom b n w) (hBw : B ≤ w.heap.size) (h1 : ∀ v ∈ bs, v.oneCell' = true) (hlim : bs.length + n ≤ 140737488355328) :
    Calls Tryd.prog 28 #[.pointer (some ⟨b, 0, none⟩), .int .i64 n] w fun e w' => e = .returned (.int .i64 bs.length) ∧ ∃ xs, xs.length = n ∧ Lib.IsBuffer 62 5 B b (bs ++ xs) w' ∧ Below B w w' ∧ Lib.OthersKept 5 (some b) w w' := Any.Buffer_grow_kept Tryd.laysM252 B b n bs w h hnr hBw h1 hlim
def Tryd.laysM178_ren : Go.Shelf.Ren := ⟨fun | 178 => 19 | 251 => 27 | 252 => 28 | 181 => 35 | 184 => 36 | 290 => 37 | 324 => 45 | n => n, fun | 130 => 77 | 9 => 9 | 3 => 3 | 75 => 64 | 0 => 0 | 93 => 62 | 91 => 60 | 131 => 78 | 4 => 4 | 37 => 41 | 20 => 20 | 80 => 135 | 5 => 5 | n => n, fun | 14 => 0 | n => n⟩
theorem Tryd.laysM178 : Go.Proofs.LaysM.n178 Tryd.prog Tryd.laysM178_ren := {
  mixed := by kernel_rfl
  f178 := Tryd.func19.trans (congrArg some (by kernel_rfl))
  f181 := Tryd.func35.trans (congrArg some (by kernel_rfl))
  f184 := Tryd.func36.trans (congrArg some (by kernel_rfl))
  f251 := Tryd.func27.trans (congrArg some (by kernel_rfl))
  f252 := Tryd.func28.trans (congrArg some (by kernel_rfl))
  f290 := Tryd.func37.trans (congrArg some (by kernel_rfl))
  f324 := Tryd.func45.trans (congrArg some (by kernel_rfl))
  t0 := Tryd.underlying0
  a0 := Tryd.isAgg0
  z0 := Tryd.sizeOf0
  v0 := Tryd.zeroValue0
  t3 := Tryd.underlying3
  a3 := Tryd.isAgg3
  z3 := Tryd.sizeOf3
  v3 := Tryd.zeroValue3
  t4 := Tryd.underlying4
  a4 := Tryd.isAgg4
  z4 := Tryd.sizeOf4
  v4 := Tryd.zeroValue4
  t9 := Tryd.underlying9
  a9 := Tryd.isAgg9
  z9 := Tryd.sizeOf9
  v9 := Tryd.zeroValue9
  t20 := Tryd.underlying20
  a20 := Tryd.isAgg20
  z20 := Tryd.sizeOf20
  v20 := Tryd.zeroValue20
  t37 := Tryd.underlying41
  a37 := Tryd.isAgg41
  z37 := Tryd.sizeOf41
  v37 := Tryd.zeroValue41
  t75 := Tryd.underlying64
  a75 := Tryd.isAgg64
  z75 := Tryd.sizeOf64
  v75 := Tryd.zeroValue64
  t91 := Tryd.underlying60
  a91 := Tryd.isAgg60
  z91 := Tryd.sizeOf60
  v91 := Tryd.zeroValue60
  t93 := Tryd.underlying62
  a93 := Tryd.isAgg62
  z93 := Tryd.sizeOf62
  v93 := Tryd.zeroValue62
  t130 := Tryd.underlying77
  a130 := Tryd.isAgg77
  z130 := Tryd.sizeOf77
  v130 := Tryd.zeroValue77
  t131 := Tryd.underlying78
  a131 := Tryd.isAgg78
  z131 := Tryd.sizeOf78
  v131 := Tryd.zeroValue78
  g14 := by kernel_rfl
  t5 := Tryd.underlying5
  a5 := Tryd.isAgg5
  z5 := Tryd.sizeOf5
  v5 := Tryd.zeroValue5
  t80 := Tryd.underlying135
  a80 := Tryd.isAgg135
  z80 := Tryd.sizeOf135
  v80 := Tryd.zeroValue135
  i0 := by kernel_rfl
  i3 := by kernel_rfl
  i4 := by kernel_rfl
  i5 := by kernel_rfl
  i9 := by kernel_rfl
  i20 := by kernel_rfl
  i37 := by kernel_rfl
  i75 := by kernel_rfl
  i80 := by kernel_rfl
  i91 := by kernel_rfl
  i93 := by kernel_rfl
  i130 := by kernel_rfl
  i131 := by kernel_rfl
  m14 := by kernel_rfl }
open Go.RowKit in
theorem Tryd.Buffer_WriteString_kept (B b : Nat) (bs : List Value) (s : ByteArray) (w : World) (h : Lib.IsBuffer 62 5 B b bs w) (hBw : B ≤ w.heap.size) (h1 : ∀ v ∈ bs, v.oneCell' = true) (hlim : bs.length + s.size ≤ 140737488355328) :
    Calls Tryd.prog 19 #[.pointer (some ⟨b, 0, none⟩), .string s] w fun e w' => e = .returned (.tuple #[.int .i64 s.size, .nilIface]) ∧ Lib.IsBuffer 62 5 B b (bs ++ Lib.byteCells s.data.toList) w' ∧ Below B w w' ∧ Lib.OthersKept 5 (some b) w w' := Any.Buffer_WriteString_kept Tryd.laysM178 B b bs s w h hBw h1 hlim
def Tryd.laysM184_ren : Go.Shelf.Ren := ⟨fun | 184 => 36 | n => n, fun | 130 => 77 | 0 => 0 | 93 => 62 | 37 => 41 | 3 => 3 | 91 => 60 | 5 => 5 | n => n, fun | n => n⟩
theorem Tryd.laysM184 : Go.Proofs.LaysM.n184 Tryd.prog Tryd.laysM184_ren := {
  mixed := by kernel_rfl
  f184 := Tryd.func36.trans (congrArg some (by kernel_rfl))
  t0 := Tryd.underlying0
  a0 := Tryd.isAgg0
  z0 := Tryd.sizeOf0
  v0 := Tryd.zeroValue0
  t3 := Tryd.underlying3
  a3 := Tryd.isAgg3
  z3 := Tryd.sizeOf3
  v3 := Tryd.zeroValue3
  t37 := Tryd.underlying41
  a37 := Tryd.isAgg41
  z37 := Tryd.sizeOf41
  v37 := Tryd.zeroValue41
  t91 := Tryd.underlying60
  a91 := Tryd.isAgg60
  z91 := Tryd.sizeOf60
  v91 := Tryd.zeroValue60
  t93 := Tryd.underlying62
  a93 := Tryd.isAgg62
  z93 := Tryd.sizeOf62
  v93 := Tryd.zeroValue62
  t130 := Tryd.underlying77
  a130 := Tryd.isAgg77
  z130 := Tryd.sizeOf77
  v130 := Tryd.zeroValue77
  t5 := Tryd.underlying5
  a5 := Tryd.isAgg5
  z5 := Tryd.sizeOf5
  v5 := Tryd.zeroValue5
  i0 := by kernel_rfl
  i3 := by kernel_rfl
  i5 := by kernel_rfl
  i37 := by kernel_rfl
  i91 := by kernel_rfl
  i93 := by kernel_rfl
  i130 := by kernel_rfl }
open Go.RowKit in
theorem Tryd.Buffer_Reset_kept (B b : Nat) (bs : List Value) (w : World) (h : Lib.IsBuffer 62 5 B b bs w) :
    Calls Tryd.prog 36 #[.pointer (some ⟨b, 0, none⟩)] w fun e w' => e = .returned (.tuple #[]) ∧ Lib.IsBuffer 62 5 B b [] w' ∧ Below B w w' ∧ Lib.OthersKept 5 (some b) w w' := Any.Buffer_Reset_kept Tryd.laysM184 B b bs w h
open Go.RowKit in
theorem Tryd.Buffer_WriteString_k (B b : Nat) (bs : List Value) (s : ByteArray) (w : World) (h : Lib.IsBuffer 62 5 B b bs w) (hBw : B ≤ w.heap.size) (h1 : ∀ v ∈ bs, v.oneCell' = true) (hlim : bs.length + s.size ≤ 140737488355328) :
    Calls Tryd.prog 19 #[.pointer (some ⟨b, 0, none⟩), .string s] w fun e w' => e = .returned (.tuple #[.int .i64 s.size, .nilIface]) ∧ Lib.IsBuffer 62 5 B b (bs ++ Lib.byteCells s.data.toList) w' ∧ Below B w w' ∧ Lib.OthersKept 5 (some b) w w' := Any.Buffer_WriteString_k Tryd.laysM178 B b bs s w h hBw h1 hlim
open Go.RowKit in
theorem Tryd.Buffer_Reset_k (B b : Nat) (bs : List Value) (w : World) (h : Lib.IsBuffer 62 5 B b bs w) :
    Calls Tryd.prog 36 #[.pointer (some ⟨b, 0, none⟩)] w fun e w' => e = .returned (.tuple #[]) ∧ Lib.IsBuffer 62 5 B b [] w' ∧ Below B w w' ∧ Lib.OthersKept 5 (some b) w w' := Any.Buffer_Reset_k Tryd.laysM184 B b bs w h
def Tryd.lays199_ren : Go.Shelf.Ren := ⟨fun | 199 => 52 | 261 => 60 | 311 => 66 | 312 => 67 | n => n, fun | 21 => 21 | 4 => 4 | 51 => 106 | 141 => 110 | 0 => 0 | 196 => 118 | 193 => 115 | 3 => 3 | 198 => 121 | 49 => 119 | 194 => 116 | 201 => 124 | 226 => 128 | 46 => 91 | 227 => 129 | n => n, fun | 6 => 4 | n => n⟩
theorem Tryd.lays199 : Go.Proofs.Lays.n199 Tryd.prog Tryd.lays199_ren := {
  mixed := by kernel_rfl
  f199 := Tryd.func52.trans (congrArg some (by kernel_rfl))
  f261 := Tryd.func60.trans (congrArg some (by kernel_rfl))
  f311 := Tryd.func66.trans (congrArg some (by kernel_rfl))
  f312 := Tryd.func67.trans (congrArg some (by kernel_rfl))
  t0 := Tryd.underlying0
  a0 := Tryd.isAgg0
  z0 := Tryd.sizeOf0
  v0 := Tryd.zeroValue0
  t3 := Tryd.underlying3
  a3 := Tryd.isAgg3
  z3 := Tryd.sizeOf3
  v3 := Tryd.zeroValue3
  t4 := Tryd.underlying4
  a4 := Tryd.isAgg4
  z4 := Tryd.sizeOf4
  v4 := Tryd.zeroValue4
  t21 := Tryd.underlying21
  a21 := Tryd.isAgg21
  z21 := Tryd.sizeOf21
  v21 := Tryd.zeroValue21
  t46 := Tryd.underlying91
  a46 := Tryd.isAgg91
  z46 := Tryd.sizeOf91
  v46 := Tryd.zeroValue91
  t49 := Tryd.underlying119
  a49 := Tryd.isAgg119
  z49 := Tryd.sizeOf119
  v49 := Tryd.zeroValue119
  t51 := Tryd.underlying106
  a51 := Tryd.isAgg106
  z51 := Tryd.sizeOf106
  v51 := Tryd.zeroValue106
  t141 := Tryd.underlying110
  a141 := Tryd.isAgg110
  z141 := Tryd.sizeOf110
  v141 := Tryd.zeroValue110
  t193 := Tryd.underlying115
  a193 := Tryd.isAgg115
  z193 := Tryd.sizeOf115
  v193 := Tryd.zeroValue115
  t194 := Tryd.underlying116
  a194 := Tryd.isAgg116
  z194 := Tryd.sizeOf116
  v194 := Tryd.zeroValue116
  t196 := Tryd.underlying118
  a196 := Tryd.isAgg118
  z196 := Tryd.sizeOf118
  v196 := Tryd.zeroValue118
  t198 := Tryd.underlying121
  a198 := Tryd.isAgg121
  z198 := Tryd.sizeOf121
  v198 := Tryd.zeroValue121
  t201 := Tryd.underlying124
  a201 := Tryd.isAgg124
  z201 := Tryd.sizeOf124
  v201 := Tryd.zeroValue124
  t226 := Tryd.underlying128
  a226 := Tryd.isAgg128
  z226 := Tryd.sizeOf128
  v226 := Tryd.zeroValue128
  t227 := Tryd.underlying129
  a227 := Tryd.isAgg129
  z227 := Tryd.sizeOf129
  v227 := Tryd.zeroValue129
  g6 := by kernel_rfl }
open Go.RowKit Go.Lib in
theorem Tryd.unicode_IsSpace (r : Int) (w : World) (h0 : 0 ≤ r) (h : r ≤ 255) :
    Calls Tryd.prog 52 #[.int .i32 r] w fun e w' => e = .returned (.bool (Lib.isSpaceL r)) ∧ w' = w := Any.unicode_IsSpace Tryd.lays199 r w h0 h
def Tryd.lays260_ren : Go.Shelf.Ren := ⟨fun | 260 => 69 | n => n, fun | 9 => 9 | 21 => 21 | 3 => 3 | 4 => 4 | 5 => 5 | 119 => 103 | 0 => 0 | 46 => 91 | 139 => 133 | 138 => 132 | n => n, fun | 3 => 7 | 4 => 8 | n => n⟩
theorem Tryd.lays260 : Go.Proofs.Lays.n260 Tryd.prog Tryd.lays260_ren := {
  mixed := by kernel_rfl
  f260 := Tryd.func69.trans (congrArg some (by kernel_rfl))
  t0 := Tryd.underlying0
  a0 := Tryd.isAgg0
  z0 := Tryd.sizeOf0
  v0 := Tryd.zeroValue0
  t3 := Tryd.underlying3
  a3 := Tryd.isAgg3
  z3 := Tryd.sizeOf3
  v3 := Tryd.zeroValue3
  t4 := Tryd.underlying4
  a4 := Tryd.isAgg4
  z4 := Tryd.sizeOf4
  v4 := Tryd.zeroValue4
  t5 := Tryd.underlying5
  a5 := Tryd.isAgg5
  z5 := Tryd.sizeOf5
  v5 := Tryd.zeroValue5
  t9 := Tryd.underlying9
  a9 := Tryd.isAgg9
  z9 := Tryd.sizeOf9
  v9 := Tryd.zeroValue9
  t21 := Tryd.underlying21
  a21 := Tryd.isAgg21
  z21 := Tryd.sizeOf21
  v21 := Tryd.zeroValue21
  t46 := Tryd.underlying91
  a46 := Tryd.isAgg91
  z46 := Tryd.sizeOf91
  v46 := Tryd.zeroValue91
  t119 := Tryd.underlying103
  a119 := Tryd.isAgg103
  z119 := Tryd.sizeOf103
  t138 := Tryd.underlying132
  a138 := Tryd.isAgg132
  z138 := Tryd.sizeOf132
  v138 := Tryd.zeroValue132
  t139 := Tryd.underlying133
  a139 := Tryd.isAgg133
  z139 := Tryd.sizeOf133
  v139 := Tryd.zeroValue133
  g3 := by kernel_rfl
  g4 := by kernel_rfl }
open Go.RowKit Go.Lib in
theorem Tryd.utf8_decodeRuneInStringSlow (s : ByteArray) (w : World) (hT : Lib.Utf8Tabs 7 8 w) :
    Calls Tryd.prog 69 #[.string s] w fun e w' => e = .returned (.tuple #[.int .i32 (Lib.decodeGo s).1, .int .i64 (Lib.decodeGo s).2]) ∧ Below w.heap.size w w' := Any.utf8_decodeRuneInStringSlow Tryd.lays260 s w hT
def Tryd.lays197_ren : Go.Shelf.Ren := ⟨fun | 197 => 62 | 260 => 69 | n => n, fun | 9 => 9 | 21 => 21 | 3 => 3 | 4 => 4 | 5 => 5 | 105 => 112 | 119 => 103 | 0 => 0 | 46 => 91 | 139 => 133 | 138 => 132 | n => n, fun | 3 => 7 | 4 => 8 | n => n⟩
theorem Tryd.lays197 : Go.Proofs.Lays.n197 Tryd.prog Tryd.lays197_ren := {
  mixed := by kernel_rfl
  f197 := Tryd.func62.trans (congrArg some (by kernel_rfl))
  f260 := Tryd.func69.trans (congrArg some (by kernel_rfl))
  t0 := Tryd.underlying0
  a0 := Tryd.isAgg0
  z0 := Tryd.sizeOf0
  v0 := Tryd.zeroValue0
  t3 := Tryd.underlying3
  a3 := Tryd.isAgg3
  z3 := Tryd.sizeOf3
  v3 := Tryd.zeroValue3
  t4 := Tryd.underlying4
  a4 := Tryd.isAgg4
  z4 := Tryd.sizeOf4
  v4 := Tryd.zeroValue4
  t5 := Tryd.underlying5
  a5 := Tryd.isAgg5
  z5 := Tryd.sizeOf5
  v5 := Tryd.zeroValue5
  t9 := Tryd.underlying9
  a9 := Tryd.isAgg9
  z9 := Tryd.sizeOf9
  v9 := Tryd.zeroValue9
  t21 := Tryd.underlying21
  a21 := Tryd.isAgg21
  z21 := Tryd.sizeOf21
  v21 := Tryd.zeroValue21
  t46 := Tryd.underlying91
  a46 := Tryd.isAgg91
  z46 := Tryd.sizeOf91
  v46 := Tryd.zeroValue91
  t105 := Tryd.underlying112
  a105 := Tryd.isAgg112
  z105 := Tryd.sizeOf112
  v105 := Tryd.zeroValue112
  t119 := Tryd.underlying103
  a119 := Tryd.isAgg103
  z119 := Tryd.sizeOf103
  t138 := Tryd.underlying132
  a138 := Tryd.isAgg132
  z138 := Tryd.sizeOf132
  v138 := Tryd.zeroValue132
  t139 := Tryd.underlying133
  a139 := Tryd.isAgg133
  z139 := Tryd.sizeOf133
  v139 := Tryd.zeroValue133
  g3 := by kernel_rfl
  g4 := by kernel_rfl }
open Go.RowKit Go.Lib in
theorem Tryd.utf8_DecodeRuneInString (s : ByteArray) (w : World) (hT : Lib.Utf8Tabs 7 8 w) :
    Calls Tryd.prog 62 #[.string s] w fun e w' => e = .returned (.tuple #[.int .i32 (Lib.decodeGo s).1, .int .i64 (Lib.decodeGo s).2]) ∧ Below w.heap.size w w' := Any.utf8_DecodeRuneInString Tryd.lays197 s w hT
def Tryd.lays311_ren : Go.Shelf.Ren := ⟨fun | 311 => 66 | n => n, fun | 193 => 115 | 49 => 119 | 4 => 4 | 3 => 3 | 0 => 0 | 226 => 128 | 198 => 121 | 46 => 91 | n => n, fun | n => n⟩
theorem Tryd.lays311 : Go.Proofs.Lays.n311 Tryd.prog Tryd.lays311_ren := {
  mixed := by kernel_rfl
  f311 := Tryd.func66.trans (congrArg some (by kernel_rfl))
  t0 := Tryd.underlying0
  a0 := Tryd.isAgg0
  z0 := Tryd.sizeOf0
  v0 := Tryd.zeroValue0
  t3 := Tryd.underlying3
  a3 := Tryd.isAgg3
  z3 := Tryd.sizeOf3
  v3 := Tryd.zeroValue3
  t4 := Tryd.underlying4
  a4 := Tryd.isAgg4
  z4 := Tryd.sizeOf4
  v4 := Tryd.zeroValue4
  t46 := Tryd.underlying91
  a46 := Tryd.isAgg91
  z46 := Tryd.sizeOf91
  v46 := Tryd.zeroValue91
  t49 := Tryd.underlying119
  a49 := Tryd.isAgg119
  z49 := Tryd.sizeOf119
  v49 := Tryd.zeroValue119
  t193 := Tryd.underlying115
  a193 := Tryd.isAgg115
  z193 := Tryd.sizeOf115
  v193 := Tryd.zeroValue115
  t198 := Tryd.underlying121
  a198 := Tryd.isAgg121
  z198 := Tryd.sizeOf121
  v198 := Tryd.zeroValue121
  t226 := Tryd.underlying128
  a226 := Tryd.isAgg128
  z226 := Tryd.sizeOf128
  v226 := Tryd.zeroValue128 }
open Go.RowKit Go.Lib in
theorem Tryd.unicode_is16_white (R oR : Nat) (z : Nat) (w : World) (hz : z < 65536) (hz0 : 255 < z) (c6 : w.cell? ⟨R, oR + 6, none⟩ = some (.int .u16 160)) (c7 : w.cell? ⟨R, oR + 7, none⟩ = some (.int .u16 5760)) (c8 : w.cell? ⟨R, oR + 8, none⟩ = some (.int .u16 5600)) (c9 : w.cell? ⟨R, oR + 9, none⟩ = some (.int .u16 8192)) (c10 : w.cell? ⟨R, oR + 10, none⟩ = some (.int .u16 8202)) (c11 : w.cell? ⟨R, oR + 11, none⟩ = some (.int .u16 1)) (c12 : w.cell? ⟨R, oR + 12, none⟩ = some (.int .u16 8232)) (c13 : w.cell? ⟨R, oR + 13, none⟩ = some (.int .u16 8233)) (c14 : w.cell? ⟨R, oR + 14, none⟩ = some (.int .u16 1)) (c15 : w.cell? ⟨R, oR + 15, none⟩ = some (.int .u16 8239)) (c16 : w.cell? ⟨R, oR + 16, none⟩ = some (.int .u16 8287)) (c17 : w.cell? ⟨R, oR + 17, none⟩ = some (.int .u16 48)) (c18 : w.cell? ⟨R, oR + 18, none⟩ = some (.int .u16 12288)) (c19 : w.cell? ⟨R, oR + 19, none⟩ = some (.int .u16 12288)) (c20 : w.cell? ⟨R, oR + 20, none⟩ = some (.int .u16 1)) :
    Calls Tryd.prog 66 #[.slice (some ⟨R, oR + 6, none⟩) 5 5, .int .u16 z] w fun e w' => e = .returned (.bool (Lib.isSpaceR z)) ∧ Below w.heap.size w w' := Any.unicode_is16_white Tryd.lays311 R oR z w hz hz0 c6 c7 c8 c9 c10 c11 c12 c13 c14 c15 c16 c17 c18 c19 c20
def Tryd.lays261_ren : Go.Shelf.Ren := ⟨fun | 261 => 60 | 311 => 66 | 312 => 67 | n => n, fun | 141 => 110 | 21 => 21 | 4 => 4 | 0 => 0 | 196 => 118 | 193 => 115 | 3 => 3 | 51 => 106 | 198 => 121 | 49 => 119 | 194 => 116 | 201 => 124 | 226 => 128 | 46 => 91 | 227 => 129 | n => n, fun | n => n⟩
theorem Tryd.lays261 : Go.Proofs.Lays.n261 Tryd.prog Tryd.lays261_ren := {
  mixed := by kernel_rfl
  f261 := Tryd.func60.trans (congrArg some (by kernel_rfl))
  f311 := Tryd.func66.trans (congrArg some (by kernel_rfl))
  f312 := Tryd.func67.trans (congrArg some (by kernel_rfl))
  t0 := Tryd.underlying0
  a0 := Tryd.isAgg0
  z0 := Tryd.sizeOf0
  v0 := Tryd.zeroValue0
  t3 := Tryd.underlying3
  a3 := Tryd.isAgg3
  z3 := Tryd.sizeOf3
  v3 := Tryd.zeroValue3
  t4 := Tryd.underlying4
  a4 := Tryd.isAgg4
  z4 := Tryd.sizeOf4
  v4 := Tryd.zeroValue4
  t21 := Tryd.underlying21
  a21 := Tryd.isAgg21
  z21 := Tryd.sizeOf21
  v21 := Tryd.zeroValue21
  t46 := Tryd.underlying91
  a46 := Tryd.isAgg91
  z46 := Tryd.sizeOf91
  v46 := Tryd.zeroValue91
  t49 := Tryd.underlying119
  a49 := Tryd.isAgg119
  z49 := Tryd.sizeOf119
  v49 := Tryd.zeroValue119
  t51 := Tryd.underlying106
  a51 := Tryd.isAgg106
  z51 := Tryd.sizeOf106
  v51 := Tryd.zeroValue106
  t141 := Tryd.underlying110
  a141 := Tryd.isAgg110
  z141 := Tryd.sizeOf110
  v141 := Tryd.zeroValue110
  t193 := Tryd.underlying115
  a193 := Tryd.isAgg115
  z193 := Tryd.sizeOf115
  v193 := Tryd.zeroValue115
  t194 := Tryd.underlying116
  a194 := Tryd.isAgg116
  z194 := Tryd.sizeOf116
  v194 := Tryd.zeroValue116
  t196 := Tryd.underlying118
  a196 := Tryd.isAgg118
  z196 := Tryd.sizeOf118
  v196 := Tryd.zeroValue118
  t198 := Tryd.underlying121
  a198 := Tryd.isAgg121
  z198 := Tryd.sizeOf121
  v198 := Tryd.zeroValue121
  t201 := Tryd.underlying124
  a201 := Tryd.isAgg124
  z201 := Tryd.sizeOf124
  v201 := Tryd.zeroValue124
  t226 := Tryd.underlying128
  a226 := Tryd.isAgg128
  z226 := Tryd.sizeOf128
  v226 := Tryd.zeroValue128
  t227 := Tryd.underlying129
  a227 := Tryd.isAgg129
  z227 := Tryd.sizeOf129
  v227 := Tryd.zeroValue129 }
open Go.RowKit Go.Lib in
theorem Tryd.unicode_isExcludingLatin_white (T oT R oR : Nat) (r : Int) (w : World) (hlo : -2147483648 ≤ r) (hhi : r ≤ 2147483647) (hr : r < 0 ∨ 255 < r) (h2 : w.cell? ⟨T, oT, none⟩ = some (.slice (some ⟨R, oR, none⟩) 7 7)) (h3 : w.cell? ⟨T, oT + 1, none⟩ = some (.slice none 0 0)) (h4 : w.cell? ⟨T, oT + 2, none⟩ = some (.int .i64 2)) (h5 : ∀ i, i < 21 → w.cell? ⟨R, oR + i, none⟩ = some (.int .u16 (whiteT.getD i 0))) :
    Calls Tryd.prog 60 #[.pointer (some ⟨T, oT, none⟩), .int .i32 r] w fun e w' => e = .returned (.bool (Lib.isSpaceZ r)) ∧ Below w.heap.size w w' := Any.unicode_isExcludingLatin_white Tryd.lays261 T oT R oR r w hlo hhi hr h2 h3 h4 h5
open Go.RowKit Go.Lib in
theorem Tryd.unicode_IsSpace_any (r : Int) (w : World) (hlo : -2147483648 ≤ r) (hhi : r ≤ 2147483647) (hW : Lib.WhiteTab 4 w) :
    Calls Tryd.prog 52 #[.int .i32 r] w fun e w' => e = .returned (.bool (Lib.isSpaceZ r)) ∧ Below w.heap.size w w' := Any.unicode_IsSpace_any Tryd.lays199 r w hlo hhi hW
def Tryd.lays271_ren : Go.Shelf.Ren := ⟨fun | 271 => 68 | 120 => 70 | 197 => 62 | 260 => 69 | n => n, fun | 9 => 9 | 21 => 21 | 3 => 3 | 4 => 4 | 5 => 5 | 105 => 112 | 119 => 103 | 0 => 0 | 46 => 91 | 139 => 133 | 138 => 132 | n => n, fun | 3 => 7 | 4 => 8 | n => n⟩
theorem Tryd.lays271 : Go.Proofs.Lays.n271 Tryd.prog Tryd.lays271_ren := {
  mixed := by kernel_rfl
  f120 := Tryd.func70.trans (congrArg some (by kernel_rfl))
  f197 := Tryd.func62.trans (congrArg some (by kernel_rfl))
  f260 := Tryd.func69.trans (congrArg some (by kernel_rfl))
  f271 := Tryd.func68.trans (congrArg some (by kernel_rfl))
  t0 := Tryd.underlying0
  a0 := Tryd.isAgg0
  z0 := Tryd.sizeOf0
  v0 := Tryd.zeroValue0
  t3 := Tryd.underlying3
  a3 := Tryd.isAgg3
  z3 := Tryd.sizeOf3
  v3 := Tryd.zeroValue3
  t4 := Tryd.underlying4
  a4 := Tryd.isAgg4
  z4 := Tryd.sizeOf4
  v4 := Tryd.zeroValue4
  t5 := Tryd.underlying5
  a5 := Tryd.isAgg5
  z5 := Tryd.sizeOf5
  v5 := Tryd.zeroValue5
  t9 := Tryd.underlying9
  a9 := Tryd.isAgg9
  z9 := Tryd.sizeOf9
  v9 := Tryd.zeroValue9
  t21 := Tryd.underlying21
  a21 := Tryd.isAgg21
  z21 := Tryd.sizeOf21
  v21 := Tryd.zeroValue21
  t46 := Tryd.underlying91
  a46 := Tryd.isAgg91
  z46 := Tryd.sizeOf91
  v46 := Tryd.zeroValue91
  t105 := Tryd.underlying112
  a105 := Tryd.isAgg112
  z105 := Tryd.sizeOf112
  v105 := Tryd.zeroValue112
  t119 := Tryd.underlying103
  a119 := Tryd.isAgg103
  z119 := Tryd.sizeOf103
  t138 := Tryd.underlying132
  a138 := Tryd.isAgg132
  z138 := Tryd.sizeOf132
  v138 := Tryd.zeroValue132
  t139 := Tryd.underlying133
  a139 := Tryd.isAgg133
  z139 := Tryd.sizeOf133
  v139 := Tryd.zeroValue133
  g3 := by kernel_rfl
  g4 := by kernel_rfl }
open Go.RowKit Go.Lib in
theorem Tryd.utf8_DecodeLastRuneInString (s : ByteArray) (w : World) (hs : s.size ≤ 9223372036854775807) (hT : Lib.Utf8Tabs 7 8 w) :
    Calls Tryd.prog 68 #[.string s] w fun e w' => e = .returned (.tuple #[.int .i32 (Lib.decodeLastL s.data.toList).1, .int .i64 (Lib.decodeLastL s.data.toList).2]) ∧ Below w.heap.size w w' := Any.utf8_DecodeLastRuneInString Tryd.lays271 s w hs hT
open Go.RowKit in
theorem Tryd.strings_TrimSpace_any (s : ByteArray) (w : World) (hs : s.size ≤ 9223372036854775807) (htab : Lib.TabIs Tryd.prog w "strings.asciiSpace" .u8 Lib.asciiSpaceTab) (hU8 : Lib.Utf8Tabs 7 8 w) (hWS : Lib.WhiteTab 4 w) :
    Calls Tryd.prog 44 #[.string s] w fun e w' => e = .returned (.string ⟨(Lib.trimSpaceD s.data.toList).toArray⟩) ∧ Below w.heap.size w w' := Any.strings_TrimSpace_any Tryd.lays163 Tryd.Space_Extra_163 s w hs htab hU8 hWS
open Go.RowKit Go.Lib in
theorem Tryd.unicode_is16_any (T : Array Rg) (R oR cap : Nat) (z : Nat) (w : World) (hz : z < 65536) (hT : RgTab .u16 R oR T w) (hok : RgOk 65536 T) (hn : T.size ≤ 1000000000) :
    Calls Tryd.prog 66 #[.slice (some ⟨R, oR, none⟩) T.size cap, .int .u16 z] w fun e w' => e = .returned (.bool (is16Go T z)) ∧ ∃ q, w' = w.drewN q := Any.unicode_is16_any Tryd.lays311 T R oR cap z w hz hT hok hn
def Tryd.lays312_ren : Go.Shelf.Ren := ⟨fun | 312 => 67 | n => n, fun | 194 => 116 | 51 => 106 | 4 => 4 | 3 => 3 | 0 => 0 | 227 => 129 | 201 => 124 | 46 => 91 | n => n, fun | n => n⟩
theorem Tryd.lays312 : Go.Proofs.Lays.n312 Tryd.prog Tryd.lays312_ren := {
  mixed := by kernel_rfl
  f312 := Tryd.func67.trans (congrArg some (by kernel_rfl))
  t0 := Tryd.underlying0
  a0 := Tryd.isAgg0
  z0 := Tryd.sizeOf0
  v0 := Tryd.zeroValue0
  t3 := Tryd.underlying3
  a3 := Tryd.isAgg3
  z3 := Tryd.sizeOf3
  v3 := Tryd.zeroValue3
  t4 := Tryd.underlying4
  a4 := Tryd.isAgg4
  z4 := Tryd.sizeOf4
  v4 := Tryd.zeroValue4
  t46 := Tryd.underlying91
  a46 := Tryd.isAgg91
  z46 := Tryd.sizeOf91
  v46 := Tryd.zeroValue91
  t51 := Tryd.underlying106
  a51 := Tryd.isAgg106
  z51 := Tryd.sizeOf106
  v51 := Tryd.zeroValue106
  t194 := Tryd.underlying116
  a194 := Tryd.isAgg116
  z194 := Tryd.sizeOf116
  v194 := Tryd.zeroValue116
  t201 := Tryd.underlying124
  a201 := Tryd.isAgg124
  z201 := Tryd.sizeOf124
  v201 := Tryd.zeroValue124
  t227 := Tryd.underlying129
  a227 := Tryd.isAgg129
  z227 := Tryd.sizeOf129
  v227 := Tryd.zeroValue129 }
open Go.RowKit Go.Lib in
theorem Tryd.unicode_is32_any (T : Array Rg) (R oR cap : Nat) (z : Nat) (w : World) (hz : z < 4294967296) (hT : RgTab .u32 R oR T w) (hok : RgOk 4294967296 T) (hn : T.size ≤ 1000000000) :
    Calls Tryd.prog 67 #[.slice (some ⟨R, oR, none⟩) T.size cap, .int .u32 z] w fun e w' => e = .returned (.bool (is32Go T z)) ∧ Below w.heap.size w w' := Any.unicode_is32_any Tryd.lays312 T R oR cap z w hz hT hok hn
open Go.RowKit Go.Lib in
theorem Tryd.unicode_isExcludingLatin_any (Tb oT : Nat) (T : RTab) (r : Int) (w : World) (hlo : -2147483648 ≤ r) (hhi : r ≤ 2147483647) (hA : RTabAt Tb oT T w) (hok : RTabOk T) :
    Calls Tryd.prog 60 #[.pointer (some ⟨Tb, oT, none⟩), .int .i32 r] w fun e w' => e = .returned (.bool (exclGo T r)) ∧ Below w.heap.size w w' := Any.unicode_isExcludingLatin_any Tryd.lays261 Tb oT T r w hlo hhi hA hok
def Tryd.lays187_ren : Go.Shelf.Ren := ⟨fun | 187 => 41 | 255 => 50 | n => n, fun | 37 => 41 | 5 => 5 | 3 => 3 | n => n, fun | n => n⟩
theorem Tryd.lays187 : Go.Proofs.Lays.n187 Tryd.prog Tryd.lays187_ren := {
  mixed := by kernel_rfl
  f187 := Tryd.func41.trans (congrArg some (by kernel_rfl))
  f255 := Tryd.func50.trans (congrArg some (by kernel_rfl))
  t3 := Tryd.underlying3
  a3 := Tryd.isAgg3
  z3 := Tryd.sizeOf3
  v3 := Tryd.zeroValue3
  t5 := Tryd.underlying5
  a5 := Tryd.isAgg5
  z5 := Tryd.sizeOf5
  v5 := Tryd.zeroValue5
  t37 := Tryd.underlying41
  a37 := Tryd.isAgg41
  z37 := Tryd.sizeOf41
  v37 := Tryd.zeroValue41 }
open Go.RowKit Go.Lib in
theorem Tryd.bytes_IndexByte_at (a : Addr) (n c : Nat) (xs : List Int) (cv : Int) (w : World) (hx : xs.length = n) (hc : ∀ i, i < n → w.cell? (a.add i) = some (.int .u8 (xs.getD i 0))) :
    Calls Tryd.prog 41 #[.slice (some a) n c, .int .u8 cv] w fun e w' => e = .returned (.int .i64 (Lib.indexByte (Lib.bytesOf xs) cv.toNat.toUInt8)) ∧ w' = w := Any.bytes_IndexByte_at Tryd.lays187 a n c xs cv w hx hc
def Tryd.laysnb116_ren : Go.Shelf.Ren := ⟨fun | 116 => 39 | 115 => 17 | n => n, fun | 37 => 41 | 4 => 4 | 3 => 3 | 9 => 9 | 5 => 5 | n => n, fun | n => n⟩
theorem Tryd.laysnb116 : Go.Proofs.Lays.nb116 Tryd.prog Tryd.laysnb116_ren := {
  mixed := by kernel_rfl
  f115 := Tryd.func17.trans (congrArg some (by kernel_rfl))
  f116 := Tryd.func39.trans (congrArg some (by kernel_rfl))
  t3 := Tryd.underlying3
  a3 := Tryd.isAgg3
  z3 := Tryd.sizeOf3
  v3 := Tryd.zeroValue3
  t4 := Tryd.underlying4
  a4 := Tryd.isAgg4
  z4 := Tryd.sizeOf4
  v4 := Tryd.zeroValue4
  t9 := Tryd.underlying9
  a9 := Tryd.isAgg9
  z9 := Tryd.sizeOf9
  v9 := Tryd.zeroValue9
  t37 := Tryd.underlying41
  a37 := Tryd.isAgg41
  z37 := Tryd.sizeOf41
  v37 := Tryd.zeroValue41
  t5 := Tryd.underlying5
  a5 := Tryd.isAgg5
  z5 := Tryd.sizeOf5
  v5 := Tryd.zeroValue5 }
theorem Tryd.bytes_HasPrefix_e2 (p1 p2 : Option Addr) (n c d : Nat) (w : World) :
    Calls Tryd.prog 39 #[.slice p1 n c, .slice p2 0 d] w fun e w' => e = .returned (.bool true) ∧ w' = w := Any.bytes_HasPrefix_e2 Tryd.laysnb116 p1 p2 n c d w
theorem Tryd.bytes_HasPrefix_e1 (p1 p2 : Option Addr) (c m d : Nat) (hm : 0 < m) (w : World) :
    Calls Tryd.prog 39 #[.slice p1 0 c, .slice p2 m d] w fun e w' => e = .returned (.bool false) ∧ w' = w := Any.bytes_HasPrefix_e1 Tryd.laysnb116 p1 p2 c m d hm w
def Tryd.laysnb117_ren : Go.Shelf.Ren := ⟨fun | 117 => 42 | 115 => 17 | n => n, fun | 37 => 41 | 4 => 4 | 3 => 3 | 9 => 9 | 5 => 5 | n => n, fun | n => n⟩
theorem Tryd.laysnb117 : Go.Proofs.Lays.nb117 Tryd.prog Tryd.laysnb117_ren := {
  mixed := by kernel_rfl
  f115 := Tryd.func17.trans (congrArg some (by kernel_rfl))
  f117 := Tryd.func42.trans (congrArg some (by kernel_rfl))
  t3 := Tryd.underlying3
  a3 := Tryd.isAgg3
  z3 := Tryd.sizeOf3
  v3 := Tryd.zeroValue3
  t4 := Tryd.underlying4
  a4 := Tryd.isAgg4
  z4 := Tryd.sizeOf4
  v4 := Tryd.zeroValue4
  t9 := Tryd.underlying9
  a9 := Tryd.isAgg9
  z9 := Tryd.sizeOf9
  v9 := Tryd.zeroValue9
  t37 := Tryd.underlying41
  a37 := Tryd.isAgg41
  z37 := Tryd.sizeOf41
  v37 := Tryd.zeroValue41
  t5 := Tryd.underlying5
  a5 := Tryd.isAgg5
  z5 := Tryd.sizeOf5
  v5 := Tryd.zeroValue5 }
theorem Tryd.bytes_HasSuffix_e2 (p1 p2 : Option Addr) (n c d : Nat) (_hnc : n ≤ c) (hbig : n ≤ 9223372036854775807) (w : World) :
    Calls Tryd.prog 42 #[.slice p1 n c, .slice p2 0 d] w fun e w' => e = .returned (.bool true) ∧ w' = w := Any.bytes_HasSuffix_e2 Tryd.laysnb117 p1 p2 n c d _hnc hbig w
theorem Tryd.bytes_HasSuffix_e1 (p1 p2 : Option Addr) (c m d : Nat) (hm : 0 < m) (w : World) :
    Calls Tryd.prog 42 #[.slice p1 0 c, .slice p2 m d] w fun e w' => e = .returned (.bool false) ∧ w' = w := Any.bytes_HasSuffix_e1 Tryd.laysnb117 p1 p2 c m d hm w
theorem Tryd.bytes_HasPrefix_all (p1 p2 : Option Addr) (n c m d : Nat) (xs ys : List Int) (w : World) (hx : xs.length = n) (hy : ys.length = m) (hnc : n ≤ c) (h1 : Lib.BytesIn w p1 n xs) (h2 : Lib.BytesIn w p2 m ys) :
    Calls Tryd.prog 39 #[.slice p1 n c, .slice p2 m d] w fun e w' => e = .returned (.bool (Lib.hasPrefix (Lib.bytesOf xs) (Lib.bytesOf ys))) ∧ w' = w := Any.bytes_HasPrefix_all Tryd.laysnb116 p1 p2 n c m d xs ys w hx hy hnc h1 h2
theorem Tryd.bytes_HasSuffix_all (p1 p2 : Option Addr) (n c m d : Nat) (xs ys : List Int) (w : World) (hx : xs.length = n) (hy : ys.length = m) (hnc : n ≤ c) (hbig : n ≤ 9223372036854775807) (h1 : Lib.BytesIn w p1 n xs) (h2 : Lib.BytesIn w p2 m ys) :
    Calls Tryd.prog 42 #[.slice p1 n c, .slice p2 m d] w fun e w' => e = .returned (.bool (Lib.hasSuffix (Lib.bytesOf xs) (Lib.bytesOf ys))) ∧ w' = w := Any.bytes_HasSuffix_all Tryd.laysnb117 p1 p2 n c m d xs ys w hx hy hnc hbig h1 h2
def Tryd.laysnb115_ren : Go.Shelf.Ren := ⟨fun | 115 => 17 | n => n, fun | 37 => 41 | 4 => 4 | 9 => 9 | 5 => 5 | n => n, fun | n => n⟩
theorem Tryd.laysnb115 : Go.Proofs.Lays.nb115 Tryd.prog Tryd.laysnb115_ren := {
  mixed := by kernel_rfl
  f115 := Tryd.func17.trans (congrArg some (by kernel_rfl))
  t4 := Tryd.underlying4
  a4 := Tryd.isAgg4
  z4 := Tryd.sizeOf4
  v4 := Tryd.zeroValue4
  t9 := Tryd.underlying9
  a9 := Tryd.isAgg9
  z9 := Tryd.sizeOf9
  v9 := Tryd.zeroValue9
  t37 := Tryd.underlying41
  a37 := Tryd.isAgg41
  z37 := Tryd.sizeOf41
  v37 := Tryd.zeroValue41
  t5 := Tryd.underlying5
  a5 := Tryd.isAgg5
  z5 := Tryd.sizeOf5
  v5 := Tryd.zeroValue5 }
theorem Tryd.bytes_Equal_all (p1 p2 : Option Addr) (n c m d : Nat) (xs ys : List Int) (w : World) (hx : xs.length = n) (hy : ys.length = m) (h1 : Lib.BytesIn w p1 n xs) (h2 : Lib.BytesIn w p2 m ys) :
    Calls Tryd.prog 17 #[.slice p1 n c, .slice p2 m d] w fun e w' => e = .returned (.bool (Lib.bytesOf xs == Lib.bytesOf ys)) ∧ w' = w := Any.bytes_Equal_all Tryd.laysnb115 p1 p2 n c m d xs ys w hx hy h1 h2
def Tryd.lays115_ren : Go.Shelf.Ren := ⟨fun | 115 => 17 | n => n, fun | 37 => 41 | 4 => 4 | 9 => 9 | 5 => 5 | n => n, fun | n => n⟩
theorem Tryd.lays115 : Go.Proofs.Lays.n115 Tryd.prog Tryd.lays115_ren := {
  mixed := by kernel_rfl
  f115 := Tryd.func17.trans (congrArg some (by kernel_rfl))
  t4 := Tryd.underlying4
  a4 := Tryd.isAgg4
  z4 := Tryd.sizeOf4
  v4 := Tryd.zeroValue4
  t9 := Tryd.underlying9
  a9 := Tryd.isAgg9
  z9 := Tryd.sizeOf9
  v9 := Tryd.zeroValue9
  t37 := Tryd.underlying41
  a37 := Tryd.isAgg41
  z37 := Tryd.sizeOf41
  v37 := Tryd.zeroValue41 }
theorem Tryd.bytes_Equal (v1 v2 : Value) (xs ys : List Int) (w : World) (h1 : (convert 41 9 v1).run Tryd.prog w = .ok (.string (strOfNums xs)) w) (h2 : (convert 41 9 v2).run Tryd.prog w = .ok (.string (strOfNums ys)) w) :
    Calls Tryd.prog 17 #[v1, v2] w fun e w' => e = .returned (.bool (Lib.bytesOf xs == Lib.bytesOf ys)) ∧ w' = w := Any.bytes_Equal Tryd.lays115 v1 v2 xs ys w h1 h2
theorem Tryd.bytes_HasPrefix (b1 o1 n c b2 o2 m d : Nat) (xs ys : List Int) (w : World) (hx : xs.length = n) (hy : ys.length = m) (hnc : n ≤ c) (hc1 : ∀ i, i < n → w.cell? ⟨b1, o1 + i, none⟩ = some (.int .u8 (xs.getD i 0))) (hc2 : ∀ i, i < m → w.cell? ⟨b2, o2 + i, none⟩ = some (.int .u8 (ys.getD i 0))) :
    Calls Tryd.prog 39 #[.slice (some ⟨b1, o1, none⟩) n c, .slice (some ⟨b2, o2, none⟩) m d] w fun e w' => e = .returned (.bool (Lib.hasPrefix (Lib.bytesOf xs) (Lib.bytesOf ys))) ∧ w' = w := Any.bytes_HasPrefix Tryd.laysnb116 b1 o1 n c b2 o2 m d xs ys w hx hy hnc hc1 hc2
theorem Tryd.bytes_HasSuffix (b1 o1 n c b2 o2 m d : Nat) (xs ys : List Int) (w : World) (hx : xs.length = n) (hy : ys.length = m) (hnc : n ≤ c) (hbig : n ≤ 9223372036854775807) (hc1 : ∀ i, i < n → w.cell? ⟨b1, o1 + i, none⟩ = some (.int .u8 (xs.getD i 0))) (hc2 : ∀ i, i < m → w.cell? ⟨b2, o2 + i, none⟩ = some (.int .u8 (ys.getD i 0))) :
    Calls Tryd.prog 42 #[.slice (some ⟨b1, o1, none⟩) n c, .slice (some ⟨b2, o2, none⟩) m d] w fun e w' => e = .returned (.bool (Lib.hasSuffix (Lib.bytesOf xs) (Lib.bytesOf ys))) ∧ w' = w := Any.bytes_HasSuffix Tryd.laysnb117 b1 o1 n c b2 o2 m d xs ys w hx hy hnc hbig hc1 hc2
theorem Tryd.bytes_IndexByte (b o n c : Nat) (xs : List Int) (cv : Int) (w : World) (hx : xs.length = n) (hc : ∀ i, i < n → w.cell? ⟨b, o + i, none⟩ = some (.int .u8 (xs.getD i 0))) :
    Calls Tryd.prog 41 #[.slice (some ⟨b, o, none⟩) n c, .int .u8 cv] w fun e w' => e = .returned (.int .i64 (Lib.indexByte (Lib.bytesOf xs) cv.toNat.toUInt8)) ∧ w' = w := Any.bytes_IndexByte Tryd.lays187 b o n c xs cv w hx hc
theorem Tryd.bytes_IndexByte_nil (cv : Int) (w : World) :
    Calls Tryd.prog 41 #[.slice none 0 0, .int .u8 cv] w fun e w' => e = .returned (.int .i64 (-1)) ∧ w' = w := Any.bytes_IndexByte_nil Tryd.lays187 cv w
def Tryd.search_ren : Go.Shelf.Ren := ⟨fun | 16 => 29 | n => n, fun | 3 => 3 | 35 => 84 | 4 => 4 | 38 => 91 | n => n, fun | n => n⟩
theorem Tryd.search : Go.Proofs.SlLaysO.n16 Tryd.prog Tryd.search_ren := {
  mixed := by kernel_rfl
  f16 := Tryd.func29.trans (congrArg some (by kernel_rfl))
  t3 := Tryd.underlying3
  a3 := Tryd.isAgg3
  z3 := Tryd.sizeOf3
  v3 := Tryd.zeroValue3
  t4 := Tryd.underlying4
  a4 := Tryd.isAgg4
  z4 := Tryd.sizeOf4
  v4 := Tryd.zeroValue4
  t35 := Tryd.underlying84
  a35 := Tryd.isAgg84
  z35 := Tryd.sizeOf84
  v35 := Tryd.zeroValue84
  t38 := Tryd.underlying91
  a38 := Tryd.isAgg91
  z38 := Tryd.sizeOf91
  v38 := Tryd.zeroValue91 }
end Go.Proofs
