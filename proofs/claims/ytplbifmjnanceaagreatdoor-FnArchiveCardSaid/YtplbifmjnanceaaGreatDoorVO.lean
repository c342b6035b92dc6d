/- Functions of the standard library that the program calls, in plain form. -/
import Derived.Shelf.SlSorted.Search
import Derived.Shelf.Strings.TrimSpace
import Derived.Shelf.Small.Utf8
import Derived.Shelf.Strconv.Itoa0
import Derived.Shelf.Strconv.Itoa1
import Derived.Shelf.LaysM
import Derived.Shelf.Strconv.Itoa2
import Derived.Shelf.Strconv.Itoa3
import Derived.Shelf.Bytes.Len
import Derived.Shelf.Bytes.TryGrow
import Derived.Shelf.Bytes.GrowSliceCatch
import Derived.Shelf.Bytes.GrowSlice
import Derived.Shelf.Bytes.Bytes
import Derived.Shelf.Bytes.GrowRow0Kept
import Derived.Shelf.Bytes.GrowRowKept
import Derived.Shelf.Bytes.GrowNilKept
import Derived.Shelf.Bytes.GrowKept
import Derived.Shelf.Bytes.WriteStringKept
import Derived.Shelf.Bytes.ResetKept
import Derived.Shelf.Bytes.BufferK
import Derived.Shelf.Bytes.SlIndexAt
import Derived.Shelf.Bytes.SlSmallAll
import Derived.Shelf.Bytes.SlEqualAll
import Derived.Shelf.Bytes.Small
import Derived.Test.YtplbifmjnanceaaGreatDoorProg
namespace Go.Proofs
open Go.Shelf
def Tryz.lays163_ren : Go.Shelf.Ren:=⟨fun | 163 => 82 | 237 => 88 | 199 => 89 | 238 => 90 | 272 => 96 | 261 => 97 | 273 => 98 | 197 => 99 | 315 => 105 | 311 => 106 | 312 => 107 | 271 => 108 | 260 => 109 | 120 => 112 | n => n,fun | 9 => 9 | 37 => 59 | 3 => 3 | 0 => 0 | 5 => 5 | 4 => 4 | 40 => 135 | 119 => 136 | 21 => 21 | 51 => 143 | 141 => 145 | 105 => 147 | 196 => 156 | 193 => 153 | 198 => 159 | 49 => 157 | 194 => 154 | 201 => 162 | 226 => 165 | 46 => 97 | 227 => 166 | 139 => 170 | 138 => 169 | n => n,fun | 0 => 1 | 6 => 3 | 3 => 5 | 4 => 6 | n => n⟩
theorem Tryz.lays163 : Go.Proofs.Lays.n163 Tryz.prog Tryz.lays163_ren:={
 mixed:=by kernel_rfl
 f120:=Tryz.func112.trans (congrArg some (by kernel_rfl))
 f163:=Tryz.func82.trans (congrArg some (by kernel_rfl))
 f197:=Tryz.func99.trans (congrArg some (by kernel_rfl))
 f199:=Tryz.func89.trans (congrArg some (by kernel_rfl))
 f237:=Tryz.func88.trans (congrArg some (by kernel_rfl))
 f238:=Tryz.func90.trans (congrArg some (by kernel_rfl))
 f260:=Tryz.func109.trans (congrArg some (by kernel_rfl))
 f261:=Tryz.func97.trans (congrArg some (by kernel_rfl))
 f271:=Tryz.func108.trans (congrArg some (by kernel_rfl))
 f272:=Tryz.func96.trans (congrArg some (by kernel_rfl))
 f273:=Tryz.func98.trans (congrArg some (by kernel_rfl))
 f311:=Tryz.func106.trans (congrArg some (by kernel_rfl))
 f312:=Tryz.func107.trans (congrArg some (by kernel_rfl))
 f315:=Tryz.func105.trans (congrArg some (by kernel_rfl))
 t0:=Tryz.underlying0
 a0:=Tryz.isAgg0
 z0:=Tryz.sizeOf0
 v0:=Tryz.zeroValue0
 t3:=Tryz.underlying3
 a3:=Tryz.isAgg3
 z3:=Tryz.sizeOf3
 v3:=Tryz.zeroValue3
 t4:=Tryz.underlying4
 a4:=Tryz.isAgg4
 z4:=Tryz.sizeOf4
 v4:=Tryz.zeroValue4
 t5:=Tryz.underlying5
 a5:=Tryz.isAgg5
 z5:=Tryz.sizeOf5
 v5:=Tryz.zeroValue5
 t9:=Tryz.underlying9
 a9:=Tryz.isAgg9
 z9:=Tryz.sizeOf9
 v9:=Tryz.zeroValue9
 t21:=Tryz.underlying21
 a21:=Tryz.isAgg21
 z21:=Tryz.sizeOf21
 v21:=Tryz.zeroValue21
 t37:=Tryz.underlying59
 a37:=Tryz.isAgg59
 z37:=Tryz.sizeOf59
 v37:=Tryz.zeroValue59
 t40:=Tryz.underlying135
 a40:=Tryz.isAgg135
 z40:=Tryz.sizeOf135
 v40:=Tryz.zeroValue135
 t46:=Tryz.underlying97
 a46:=Tryz.isAgg97
 z46:=Tryz.sizeOf97
 v46:=Tryz.zeroValue97
 t49:=Tryz.underlying157
 a49:=Tryz.isAgg157
 z49:=Tryz.sizeOf157
 v49:=Tryz.zeroValue157
 t51:=Tryz.underlying143
 a51:=Tryz.isAgg143
 z51:=Tryz.sizeOf143
 v51:=Tryz.zeroValue143
 t105:=Tryz.underlying147
 a105:=Tryz.isAgg147
 z105:=Tryz.sizeOf147
 v105:=Tryz.zeroValue147
 t119:=Tryz.underlying136
 a119:=Tryz.isAgg136
 z119:=Tryz.sizeOf136
 t138:=Tryz.underlying169
 a138:=Tryz.isAgg169
 z138:=Tryz.sizeOf169
 v138:=Tryz.zeroValue169
 t139:=Tryz.underlying170
 a139:=Tryz.isAgg170
 z139:=Tryz.sizeOf170
 v139:=Tryz.zeroValue170
 t141:=Tryz.underlying145
 a141:=Tryz.isAgg145
 z141:=Tryz.sizeOf145
 v141:=Tryz.zeroValue145
 t193:=Tryz.underlying153
 a193:=Tryz.isAgg153
 z193:=Tryz.sizeOf153
 v193:=Tryz.zeroValue153
 t194:=Tryz.underlying154
 a194:=Tryz.isAgg154
 z194:=Tryz.sizeOf154
 v194:=Tryz.zeroValue154
 t196:=Tryz.underlying156
 a196:=Tryz.isAgg156
 z196:=Tryz.sizeOf156
 v196:=Tryz.zeroValue156
 t198:=Tryz.underlying159
 a198:=Tryz.isAgg159
 z198:=Tryz.sizeOf159
 v198:=Tryz.zeroValue159
 t201:=Tryz.underlying162
 a201:=Tryz.isAgg162
 z201:=Tryz.sizeOf162
 v201:=Tryz.zeroValue162
 t226:=Tryz.underlying165
 a226:=Tryz.isAgg165
 z226:=Tryz.sizeOf165
 v226:=Tryz.zeroValue165
 t227:=Tryz.underlying166
 a227:=Tryz.isAgg166
 z227:=Tryz.sizeOf166
 v227:=Tryz.zeroValue166
 g0:=by kernel_rfl
 g3:=by kernel_rfl
 g4:=by kernel_rfl
 g6:=by kernel_rfl }
theorem Tryz.Space_Extra_163 : Space.Extra Tryz.prog Tryz.lays163_ren:={
 gNamed:=by kernel_rfl }
open Go.RowKit in
theorem Tryz.strings_TrimSpace (s : ByteArray) (w : World) (hs : s.size ≤ 9223372036854775807) (hascii : ∀ (j : Nat) b,s.data.toList[j]? = some b → b.toNat < 128) (htab : Lib.TabIs Tryz.prog w "strings.asciiSpace" .u8 Lib.asciiSpaceTab) :
  Calls Tryz.prog 82 #[.string s] w fun e w' => e = .returned (.string ⟨(Lib.trimSpace s.data.toList).toArray⟩) ∧ w' = Lib.bytesWorld w 5 s:=Any.strings_TrimSpace Tryz.lays163 Tryz.Space_Extra_163 s w hs hascii htab
def Tryz.laysM171_ren : Go.Shelf.Ren:=⟨fun | 171 => 64 | 243 => 76 | 246 => 86 | 283 => 92 | 284 => 93 | 285 => 94 | 286 => 95 | 129 => 101 | 317 => 100 | 318 => 102 | 319 => 103 | 320 => 104 | 337 => 110 | 338 => 111 | n => n,fun | 3 => 3 | 9 => 9 | 2 => 2 | 4 => 4 | 171 => 137 | 0 => 0 | 53 => 138 | 37 => 59 | 5 => 5 | 173 => 141 | 212 => 150 | 51 => 143 | 20 => 20 | 213 => 151 | 46 => 97 | 232 => 171 | 233 => 172 | n => n,fun | 17 => 4 | 18 => 7 | 19 => 8 | n => n⟩
theorem Tryz.laysM171 : Go.Proofs.LaysM.n171 Tryz.prog Tryz.laysM171_ren:={
 mixed:=by kernel_rfl
 f129:=Tryz.func101.trans (congrArg some (by kernel_rfl))
 f171:=Tryz.func64.trans (congrArg some (by kernel_rfl))
 f243:=Tryz.func76.trans (congrArg some (by kernel_rfl))
 f246:=Tryz.func86.trans (congrArg some (by kernel_rfl))
 f283:=Tryz.func92.trans (congrArg some (by kernel_rfl))
 f284:=Tryz.func93.trans (congrArg some (by kernel_rfl))
 f285:=Tryz.func94.trans (congrArg some (by kernel_rfl))
 f286:=Tryz.func95.trans (congrArg some (by kernel_rfl))
 f317:=Tryz.func100.trans (congrArg some (by kernel_rfl))
 f318:=Tryz.func102.trans (congrArg some (by kernel_rfl))
 f319:=Tryz.func103.trans (congrArg some (by kernel_rfl))
 f320:=Tryz.func104.trans (congrArg some (by kernel_rfl))
 f337:=Tryz.func110.trans (congrArg some (by kernel_rfl))
 f338:=Tryz.func111.trans (congrArg some (by kernel_rfl))
 t0:=Tryz.underlying0
 a0:=Tryz.isAgg0
 z0:=Tryz.sizeOf0
 v0:=Tryz.zeroValue0
 t2:=Tryz.underlying2
 a2:=Tryz.isAgg2
 z2:=Tryz.sizeOf2
 v2:=Tryz.zeroValue2
 t3:=Tryz.underlying3
 a3:=Tryz.isAgg3
 z3:=Tryz.sizeOf3
 v3:=Tryz.zeroValue3
 t4:=Tryz.underlying4
 a4:=Tryz.isAgg4
 z4:=Tryz.sizeOf4
 v4:=Tryz.zeroValue4
 t5:=Tryz.underlying5
 a5:=Tryz.isAgg5
 z5:=Tryz.sizeOf5
 v5:=Tryz.zeroValue5
 t9:=Tryz.underlying9
 a9:=Tryz.isAgg9
 z9:=Tryz.sizeOf9
 v9:=Tryz.zeroValue9
 t20:=Tryz.underlying20
 a20:=Tryz.isAgg20
 z20:=Tryz.sizeOf20
 v20:=Tryz.zeroValue20
 t37:=Tryz.underlying59
 a37:=Tryz.isAgg59
 z37:=Tryz.sizeOf59
 v37:=Tryz.zeroValue59
 t46:=Tryz.underlying97
 a46:=Tryz.isAgg97
 z46:=Tryz.sizeOf97
 v46:=Tryz.zeroValue97
 t51:=Tryz.underlying143
 a51:=Tryz.isAgg143
 z51:=Tryz.sizeOf143
 v51:=Tryz.zeroValue143
 t53:=Tryz.underlying138
 a53:=Tryz.isAgg138
 z53:=Tryz.sizeOf138
 v53:=Tryz.zeroValue138
 t171:=Tryz.underlying137
 a171:=Tryz.isAgg137
 z171:=Tryz.sizeOf137
 v171:=Tryz.zeroValue137
 t173:=Tryz.underlying141
 a173:=Tryz.isAgg141
 z173:=Tryz.sizeOf141
 v173:=Tryz.zeroValue141
 t212:=Tryz.underlying150
 a212:=Tryz.isAgg150
 z212:=Tryz.sizeOf150
 v212:=Tryz.zeroValue150
 t213:=Tryz.underlying151
 a213:=Tryz.isAgg151
 z213:=Tryz.sizeOf151
 t232:=Tryz.underlying171
 a232:=Tryz.isAgg171
 z232:=Tryz.sizeOf171
 v232:=Tryz.zeroValue171
 t233:=Tryz.underlying172
 a233:=Tryz.isAgg172
 z233:=Tryz.sizeOf172
 v233:=Tryz.zeroValue172
 g17:=by kernel_rfl
 g18:=by kernel_rfl
 g19:=by kernel_rfl
 i0:=by kernel_rfl
 i2:=by kernel_rfl
 i3:=by kernel_rfl
 i4:=by kernel_rfl
 i5:=by kernel_rfl
 i9:=by kernel_rfl
 i20:=by kernel_rfl
 i37:=by kernel_rfl
 i46:=by kernel_rfl
 i51:=by kernel_rfl
 i53:=by kernel_rfl
 i171:=by kernel_rfl
 i173:=by kernel_rfl
 i212:=by kernel_rfl
 i232:=by kernel_rfl
 i233:=by kernel_rfl
 m17:=by kernel_rfl
 m18:=by kernel_rfl
 m19:=by kernel_rfl }
open Go.RowKit Go.Sort Go.Lib in
theorem Tryz.strconv_Itoa (n : Int) (h0 : -9223372036854775808 ≤ n) (h1 : n ≤ 9223372036854775807) (w : World) (htab : Lib.TabIs Tryz.prog w "internal/strconv.uint64pow10" .u64 Lib.pow10Tab) :
  Calls Tryz.prog 64 #[.int .i64 n] w fun e w' => e = .returned (.string ⟨(Lib.itoa n).toArray⟩) ∧ ∃ k os,w' = grow (w.drewN k) os:=Any.strconv_Itoa Tryz.laysM171 n h0 h1 w htab
def Tryz.laysM183_ren : Go.Shelf.Ren:=⟨fun | 183 => 65 | n => n,fun | 130 => 124 | 37 => 59 | 0 => 0 | 93 => 107 | 3 => 3 | 5 => 5 | 91 => 105 | n => n,fun | n => n⟩
theorem Tryz.laysM183 : Go.Proofs.LaysM.n183 Tryz.prog Tryz.laysM183_ren:={
 mixed:=by kernel_rfl
 f183:=Tryz.func65.trans (congrArg some (by kernel_rfl))
 t0:=Tryz.underlying0
 a0:=Tryz.isAgg0
 z0:=Tryz.sizeOf0
 v0:=Tryz.zeroValue0
 t3:=Tryz.underlying3
 a3:=Tryz.isAgg3
 z3:=Tryz.sizeOf3
 v3:=Tryz.zeroValue3
 t37:=Tryz.underlying59
 a37:=Tryz.isAgg59
 z37:=Tryz.sizeOf59
 v37:=Tryz.zeroValue59
 t93:=Tryz.underlying107
 a93:=Tryz.isAgg107
 z93:=Tryz.sizeOf107
 v93:=Tryz.zeroValue107
 t130:=Tryz.underlying124
 a130:=Tryz.isAgg124
 z130:=Tryz.sizeOf124
 v130:=Tryz.zeroValue124
 t5:=Tryz.underlying5
 a5:=Tryz.isAgg5
 z5:=Tryz.sizeOf5
 v5:=Tryz.zeroValue5
 t91:=Tryz.underlying105
 a91:=Tryz.isAgg105
 z91:=Tryz.sizeOf105
 v91:=Tryz.zeroValue105
 i0:=by kernel_rfl
 i3:=by kernel_rfl
 i5:=by kernel_rfl
 i37:=by kernel_rfl
 i91:=by kernel_rfl
 i93:=by kernel_rfl
 i130:=by kernel_rfl }
open Go.RowKit in
theorem Tryz.Buffer_Bytes (B b : Nat) (bs : List Value) (w : World) (h : Lib.IsBuffer 107 5 B b bs w) :
  Calls Tryz.prog 65 #[.pointer (some ⟨b,0,none⟩)] w fun e w' => ∃ v,e = .returned v ∧ w'.ownsRow B 5 1 v bs.length bs ∧ ∃ n,w' = w.drewN n:=Any.Buffer_Bytes Tryz.laysM183 B b bs w h
def Tryz.laysM178_ren : Go.Shelf.Ren:=⟨fun | 178 => 62 | 251 => 72 | 252 => 73 | 181 => 83 | 184 => 84 | 290 => 85 | 324 => 91 | n => n,fun | 130 => 124 | 9 => 9 | 3 => 3 | 75 => 109 | 0 => 0 | 93 => 107 | 91 => 105 | 131 => 47 | 4 => 4 | 37 => 59 | 20 => 20 | 80 => 174 | 5 => 5 | n => n,fun | 14 => 0 | n => n⟩
theorem Tryz.laysM178 : Go.Proofs.LaysM.n178 Tryz.prog Tryz.laysM178_ren:={
 mixed:=by kernel_rfl
 f178:=Tryz.func62.trans (congrArg some (by kernel_rfl))
 f181:=Tryz.func83.trans (congrArg some (by kernel_rfl))
 f184:=Tryz.func84.trans (congrArg some (by kernel_rfl))
 f251:=Tryz.func72.trans (congrArg some (by kernel_rfl))
 f252:=Tryz.func73.trans (congrArg some (by kernel_rfl))
 f290:=Tryz.func85.trans (congrArg some (by kernel_rfl))
 f324:=Tryz.func91.trans (congrArg some (by kernel_rfl))
 t0:=Tryz.underlying0
 a0:=Tryz.isAgg0
 z0:=Tryz.sizeOf0
 v0:=Tryz.zeroValue0
 t3:=Tryz.underlying3
 a3:=Tryz.isAgg3
 z3:=Tryz.sizeOf3
 v3:=Tryz.zeroValue3
 t4:=Tryz.underlying4
 a4:=Tryz.isAgg4
 z4:=Tryz.sizeOf4
 v4:=Tryz.zeroValue4
 t9:=Tryz.underlying9
 a9:=Tryz.isAgg9
 z9:=Tryz.sizeOf9
 v9:=Tryz.zeroValue9
 t20:=Tryz.underlying20
 a20:=Tryz.isAgg20
 z20:=Tryz.sizeOf20
 v20:=Tryz.zeroValue20
 t37:=Tryz.underlying59
 a37:=Tryz.isAgg59
 z37:=Tryz.sizeOf59
 v37:=Tryz.zeroValue59
 t75:=Tryz.underlying109
 a75:=Tryz.isAgg109
 z75:=Tryz.sizeOf109
 v75:=Tryz.zeroValue109
 t91:=Tryz.underlying105
 a91:=Tryz.isAgg105
 z91:=Tryz.sizeOf105
 v91:=Tryz.zeroValue105
 t93:=Tryz.underlying107
 a93:=Tryz.isAgg107
 z93:=Tryz.sizeOf107
 v93:=Tryz.zeroValue107
 t130:=Tryz.underlying124
 a130:=Tryz.isAgg124
 z130:=Tryz.sizeOf124
 v130:=Tryz.zeroValue124
 t131:=Tryz.underlying47
 a131:=Tryz.isAgg47
 z131:=Tryz.sizeOf47
 v131:=Tryz.zeroValue47
 g14:=by kernel_rfl
 t5:=Tryz.underlying5
 a5:=Tryz.isAgg5
 z5:=Tryz.sizeOf5
 v5:=Tryz.zeroValue5
 t80:=Tryz.underlying174
 a80:=Tryz.isAgg174
 z80:=Tryz.sizeOf174
 v80:=Tryz.zeroValue174
 i0:=by kernel_rfl
 i3:=by kernel_rfl
 i4:=by kernel_rfl
 i5:=by kernel_rfl
 i9:=by kernel_rfl
 i20:=by kernel_rfl
 i37:=by kernel_rfl
 i75:=by kernel_rfl
 i80:=by kernel_rfl
 i91:=by kernel_rfl
 i93:=by kernel_rfl
 i130:=by kernel_rfl
 i131:=by kernel_rfl
 m14:=by kernel_rfl }
open Go.RowKit in
theorem Tryz.Buffer_WriteString_k (B b : Nat) (bs : List Value) (s : ByteArray) (w : World) (h : Lib.IsBuffer 107 5 B b bs w) (hBw : B ≤ w.heap.size) (h1 : ∀ v ∈ bs,v.oneCell' = true) (hlim : bs.length + s.size ≤ 140737488355328) :
  Calls Tryz.prog 62 #[.pointer (some ⟨b,0,none⟩),.string s] w fun e w' => e = .returned (.tuple #[.int .i64 s.size,.nilIface]) ∧ Lib.IsBuffer 107 5 B b (bs ++ Lib.byteCells s.data.toList) w' ∧ Below B w w' ∧ Lib.OthersKept 5 (some b) w w':=Any.Buffer_WriteString_k Tryz.laysM178 B b bs s w h hBw h1 hlim
def Tryz.lays187_ren : Go.Shelf.Ren:=⟨fun | 187 => 79 | 255 => 87 | n => n,fun | 37 => 59 | 5 => 5 | 3 => 3 | n => n,fun | n => n⟩
theorem Tryz.lays187 : Go.Proofs.Lays.n187 Tryz.prog Tryz.lays187_ren:={
 mixed:=by kernel_rfl
 f187:=Tryz.func79.trans (congrArg some (by kernel_rfl))
 f255:=Tryz.func87.trans (congrArg some (by kernel_rfl))
 t3:=Tryz.underlying3
 a3:=Tryz.isAgg3
 z3:=Tryz.sizeOf3
 v3:=Tryz.zeroValue3
 t5:=Tryz.underlying5
 a5:=Tryz.isAgg5
 z5:=Tryz.sizeOf5
 v5:=Tryz.zeroValue5
 t37:=Tryz.underlying59
 a37:=Tryz.isAgg59
 z37:=Tryz.sizeOf59
 v37:=Tryz.zeroValue59 }
open Go.RowKit Go.Lib in
theorem Tryz.bytes_IndexByte_at (a : Addr) (n c : Nat) (xs : List Int) (cv : Int) (w : World) (hx : xs.length = n) (hc : ∀ i,i < n → w.cell? (a.add i) = some (.int .u8 (xs.getD i 0))) :
  Calls Tryz.prog 79 #[.slice (some a) n c,.int .u8 cv] w fun e w' => e = .returned (.int .i64 (Lib.indexByte (Lib.bytesOf xs) cv.toNat.toUInt8)) ∧ w' = w:=Any.bytes_IndexByte_at Tryz.lays187 a n c xs cv w hx hc
def Tryz.laysnb116_ren : Go.Shelf.Ren:=⟨fun | 116 => 77 | 115 => 60 | n => n,fun | 37 => 59 | 4 => 4 | 3 => 3 | 9 => 9 | 5 => 5 | n => n,fun | n => n⟩
theorem Tryz.laysnb116 : Go.Proofs.Lays.nb116 Tryz.prog Tryz.laysnb116_ren:={
 mixed:=by kernel_rfl
 f115:=Tryz.func60.trans (congrArg some (by kernel_rfl))
 f116:=Tryz.func77.trans (congrArg some (by kernel_rfl))
 t3:=Tryz.underlying3
 a3:=Tryz.isAgg3
 z3:=Tryz.sizeOf3
 v3:=Tryz.zeroValue3
 t4:=Tryz.underlying4
 a4:=Tryz.isAgg4
 z4:=Tryz.sizeOf4
 v4:=Tryz.zeroValue4
 t9:=Tryz.underlying9
 a9:=Tryz.isAgg9
 z9:=Tryz.sizeOf9
 v9:=Tryz.zeroValue9
 t37:=Tryz.underlying59
 a37:=Tryz.isAgg59
 z37:=Tryz.sizeOf59
 v37:=Tryz.zeroValue59
 t5:=Tryz.underlying5
 a5:=Tryz.isAgg5
 z5:=Tryz.sizeOf5
 v5:=Tryz.zeroValue5 }
def Tryz.laysnb117_ren : Go.Shelf.Ren:=⟨fun | 117 => 80 | 115 => 60 | n => n,fun | 37 => 59 | 4 => 4 | 3 => 3 | 9 => 9 | 5 => 5 | n => n,fun | n => n⟩
theorem Tryz.laysnb117 : Go.Proofs.Lays.nb117 Tryz.prog Tryz.laysnb117_ren:={
 mixed:=by kernel_rfl
 f115:=Tryz.func60.trans (congrArg some (by kernel_rfl))
 f117:=Tryz.func80.trans (congrArg some (by kernel_rfl))
 t3:=Tryz.underlying3
 a3:=Tryz.isAgg3
 z3:=Tryz.sizeOf3
 v3:=Tryz.zeroValue3
 t4:=Tryz.underlying4
 a4:=Tryz.isAgg4
 z4:=Tryz.sizeOf4
 v4:=Tryz.zeroValue4
 t9:=Tryz.underlying9
 a9:=Tryz.isAgg9
 z9:=Tryz.sizeOf9
 v9:=Tryz.zeroValue9
 t37:=Tryz.underlying59
 a37:=Tryz.isAgg59
 z37:=Tryz.sizeOf59
 v37:=Tryz.zeroValue59
 t5:=Tryz.underlying5
 a5:=Tryz.isAgg5
 z5:=Tryz.sizeOf5
 v5:=Tryz.zeroValue5 }
theorem Tryz.bytes_HasPrefix_all (p1 p2 : Option Addr) (n c m d : Nat) (xs ys : List Int) (w : World) (hx : xs.length = n) (hy : ys.length = m) (hnc : n ≤ c) (h1 : Lib.BytesIn w p1 n xs) (h2 : Lib.BytesIn w p2 m ys) :
  Calls Tryz.prog 77 #[.slice p1 n c,.slice p2 m d] w fun e w' => e = .returned (.bool (Lib.hasPrefix (Lib.bytesOf xs) (Lib.bytesOf ys))) ∧ w' = w:=Any.bytes_HasPrefix_all Tryz.laysnb116 p1 p2 n c m d xs ys w hx hy hnc h1 h2
theorem Tryz.bytes_HasSuffix_all (p1 p2 : Option Addr) (n c m d : Nat) (xs ys : List Int) (w : World) (hx : xs.length = n) (hy : ys.length = m) (hnc : n ≤ c) (hbig : n ≤ 9223372036854775807) (h1 : Lib.BytesIn w p1 n xs) (h2 : Lib.BytesIn w p2 m ys) :
  Calls Tryz.prog 80 #[.slice p1 n c,.slice p2 m d] w fun e w' => e = .returned (.bool (Lib.hasSuffix (Lib.bytesOf xs) (Lib.bytesOf ys))) ∧ w' = w:=Any.bytes_HasSuffix_all Tryz.laysnb117 p1 p2 n c m d xs ys w hx hy hnc hbig h1 h2
def Tryz.lays115_ren : Go.Shelf.Ren:=⟨fun | 115 => 60 | n => n,fun | 37 => 59 | 4 => 4 | 9 => 9 | 5 => 5 | n => n,fun | n => n⟩
theorem Tryz.lays115 : Go.Proofs.Lays.n115 Tryz.prog Tryz.lays115_ren:={
 mixed:=by kernel_rfl
 f115:=Tryz.func60.trans (congrArg some (by kernel_rfl))
 t4:=Tryz.underlying4
 a4:=Tryz.isAgg4
 z4:=Tryz.sizeOf4
 v4:=Tryz.zeroValue4
 t9:=Tryz.underlying9
 a9:=Tryz.isAgg9
 z9:=Tryz.sizeOf9
 v9:=Tryz.zeroValue9
 t37:=Tryz.underlying59
 a37:=Tryz.isAgg59
 z37:=Tryz.sizeOf59
 v37:=Tryz.zeroValue59 }
theorem Tryz.bytes_Equal (v1 v2 : Value) (xs ys : List Int) (w : World) (h1 : (convert 59 9 v1).run Tryz.prog w = .ok (.string (strOfNums xs)) w) (h2 : (convert 59 9 v2).run Tryz.prog w = .ok (.string (strOfNums ys)) w) :
  Calls Tryz.prog 60 #[v1,v2] w fun e w' => e = .returned (.bool (Lib.bytesOf xs == Lib.bytesOf ys)) ∧ w' = w:=Any.bytes_Equal Tryz.lays115 v1 v2 xs ys w h1 h2
def Tryz.search_ren : Go.Shelf.Ren:=⟨fun | 16 => 74 | n => n,fun | 3 => 3 | 35 => 129 | 4 => 4 | 38 => 97 | n => n,fun | n => n⟩
theorem Tryz.search : Go.Proofs.SlLaysO.n16 Tryz.prog Tryz.search_ren:={
 mixed:=by kernel_rfl
 f16:=Tryz.func74.trans (congrArg some (by kernel_rfl))
 t3:=Tryz.underlying3
 a3:=Tryz.isAgg3
 z3:=Tryz.sizeOf3
 v3:=Tryz.zeroValue3
 t4:=Tryz.underlying4
 a4:=Tryz.isAgg4
 z4:=Tryz.sizeOf4
 v4:=Tryz.zeroValue4
 t35:=Tryz.underlying129
 a35:=Tryz.isAgg129
 z35:=Tryz.sizeOf129
 v35:=Tryz.zeroValue129
 t38:=Tryz.underlying97
 a38:=Tryz.isAgg97
 z38:=Tryz.sizeOf97
 v38:=Tryz.zeroValue97 }
end Go.Proofs
