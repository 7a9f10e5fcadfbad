
/-
  The contracts of the library functions that this seat's program calls, as the kit's own tool lays them over this dump (lay-shelf, then lay-plain). Nothing of them is ours.
-/
import Derived.Shelf.Strings.Builder1
import Derived.Shelf.Strings.Builder2
import Derived.Shelf.Strings.BuilderF
import Derived.Shelf.Strings.BuilderK
import Derived.Shelf.Strconv.Itoa0
import Derived.Shelf.Strconv.Itoa1
import Derived.Shelf.LaysM
import Derived.Shelf.Strconv.Itoa2
import Derived.Shelf.Strconv.Itoa3
import Derived.Shelf.Bytes.Len
import Derived.Shelf.Bytes.TryGrow
import Derived.Shelf.Bytes.GrowSliceCatch
import Derived.Shelf.Bytes.GrowSlice
import Derived.Shelf.Bytes.String
import Derived.Shelf.Strconv.Clone
import Derived.Shelf.Strconv.SyntaxError
import Derived.Shelf.LaysC
import Derived.Shelf.Strconv.ToError
import Derived.Shelf.Strconv.Lower
import Derived.Shelf.Bytes.GrowRow0Kept
import Derived.Shelf.Bytes.GrowRowKept
import Derived.Shelf.Bytes.GrowNilKept
import Derived.Shelf.Bytes.GrowKept
import Derived.Shelf.Bytes.WriteStringKept
import Derived.Shelf.Bytes.ResetKept
import Derived.Shelf.Bytes.BufferK
import Derived.Shelf.Strings.Prefix
import Derived.Shelf.Unicode.Latin
import Derived.Shelf.Unicode.Decode
import Derived.Shelf.Bits.Mul64
import Derived.Shelf.Strings.Repeat
import Derived.Shelf.Unicode.DecodeSlow
import Derived.Shelf.Unicode.DecodeAny
import Derived.Shelf.Unicode.Is16White
import Derived.Shelf.Unicode.IsSpaceAny
import Derived.Shelf.Unicode.Is16WhiteD
import Derived.Shelf.Unicode.IsSpaceAnyD
import Derived.Shelf.Unicode.Is16Any
import Derived.Shelf.Unicode.Is32Any
import Derived.Shelf.Unicode.ExclAny
import Derived.Shelf.Spec.EncodeRune
import Derived.Test.YtcelnnjjakiehaaGreatDoorProg
namespace Go.Proofs
open Go.Shelf
def Tryz.laysM171_ren : Go.Shelf.Ren := ⟨fun | 171 => 112 | 243 => 125 | 246 => 133 | 283 => 136 | 284 => 137 | 285 => 138 | 286 => 139 | 129 => 141 | 317 => 140 | 318 => 142 | 319 => 143 | 320 => 144 | 337 => 145 | 338 => 146 | n => n, fun | 3 => 3 | 9 => 9 | 2 => 2 | 4 => 4 | 171 => 205 | 0 => 0 | 53 => 135 | 37 => 33 | 5 => 5 | 173 => 208 | 212 => 211 | 51 => 130 | 20 => 20 | 213 => 212 | 46 => 144 | 232 => 215 | 233 => 216 | n => n, fun | 17 => 8 | 18 => 9 | 19 => 10 | n => n⟩
theorem Tryz.laysM171 : Go.Proofs.LaysM.n171 Tryz.prog Tryz.laysM171_ren := {
  mixed := by kernel_rfl
  f129 := Tryz.func141.trans (congrArg some (by kernel_rfl))
  f171 := Tryz.func112.trans (congrArg some (by kernel_rfl))
  f243 := Tryz.func125.trans (congrArg some (by kernel_rfl))
  f246 := Tryz.func133.trans (congrArg some (by kernel_rfl))
  f283 := Tryz.func136.trans (congrArg some (by kernel_rfl))
  f284 := Tryz.func137.trans (congrArg some (by kernel_rfl))
  f285 := Tryz.func138.trans (congrArg some (by kernel_rfl))
  f286 := Tryz.func139.trans (congrArg some (by kernel_rfl))
  f317 := Tryz.func140.trans (congrArg some (by kernel_rfl))
  f318 := Tryz.func142.trans (congrArg some (by kernel_rfl))
  f319 := Tryz.func143.trans (congrArg some (by kernel_rfl))
  f320 := Tryz.func144.trans (congrArg some (by kernel_rfl))
  f337 := Tryz.func145.trans (congrArg some (by kernel_rfl))
  f338 := Tryz.func146.trans (congrArg some (by kernel_rfl))
  t0 := Tryz.underlying0
  a0 := Tryz.isAgg0
  z0 := Tryz.sizeOf0
  v0 := Tryz.zeroValue0
  t2 := Tryz.underlying2
  a2 := Tryz.isAgg2
  z2 := Tryz.sizeOf2
  v2 := Tryz.zeroValue2
  t3 := Tryz.underlying3
  a3 := Tryz.isAgg3
  z3 := Tryz.sizeOf3
  v3 := Tryz.zeroValue3
  t4 := Tryz.underlying4
  a4 := Tryz.isAgg4
  z4 := Tryz.sizeOf4
  v4 := Tryz.zeroValue4
  t5 := Tryz.underlying5
  a5 := Tryz.isAgg5
  z5 := Tryz.sizeOf5
  v5 := Tryz.zeroValue5
  t9 := Tryz.underlying9
  a9 := Tryz.isAgg9
  z9 := Tryz.sizeOf9
  v9 := Tryz.zeroValue9
  t20 := Tryz.underlying20
  a20 := Tryz.isAgg20
  z20 := Tryz.sizeOf20
  v20 := Tryz.zeroValue20
  t37 := Tryz.underlying33
  a37 := Tryz.isAgg33
  z37 := Tryz.sizeOf33
  v37 := Tryz.zeroValue33
  t46 := Tryz.underlying144
  a46 := Tryz.isAgg144
  z46 := Tryz.sizeOf144
  v46 := Tryz.zeroValue144
  t51 := Tryz.underlying130
  a51 := Tryz.isAgg130
  z51 := Tryz.sizeOf130
  v51 := Tryz.zeroValue130
  t53 := Tryz.underlying135
  a53 := Tryz.isAgg135
  z53 := Tryz.sizeOf135
  v53 := Tryz.zeroValue135
  t171 := Tryz.underlying205
  a171 := Tryz.isAgg205
  z171 := Tryz.sizeOf205
  v171 := Tryz.zeroValue205
  t173 := Tryz.underlying208
  a173 := Tryz.isAgg208
  z173 := Tryz.sizeOf208
  v173 := Tryz.zeroValue208
  t212 := Tryz.underlying211
  a212 := Tryz.isAgg211
  z212 := Tryz.sizeOf211
  v212 := Tryz.zeroValue211
  t213 := Tryz.underlying212
  a213 := Tryz.isAgg212
  z213 := Tryz.sizeOf212
  t232 := Tryz.underlying215
  a232 := Tryz.isAgg215
  z232 := Tryz.sizeOf215
  v232 := Tryz.zeroValue215
  t233 := Tryz.underlying216
  a233 := Tryz.isAgg216
  z233 := Tryz.sizeOf216
  v233 := Tryz.zeroValue216
  g17 := by kernel_rfl
  g18 := by kernel_rfl
  g19 := by kernel_rfl
  i0 := by kernel_rfl
  i2 := by kernel_rfl
  i3 := by kernel_rfl
  i4 := by kernel_rfl
  i5 := by kernel_rfl
  i9 := by kernel_rfl
  i20 := by kernel_rfl
  i37 := by kernel_rfl
  i46 := by kernel_rfl
  i51 := by kernel_rfl
  i53 := by kernel_rfl
  i171 := by kernel_rfl
  i173 := by kernel_rfl
  i212 := by kernel_rfl
  i232 := by kernel_rfl
  i233 := by kernel_rfl
  m17 := by kernel_rfl
  m18 := by kernel_rfl
  m19 := by kernel_rfl }
open Go.RowKit Go.Sort Go.Lib in
theorem Tryz.strconv_Itoa (n : Int) (h0 : -9223372036854775808 ≤ n) (h1 : n ≤ 9223372036854775807) (w : World) (htab : Lib.TabIs Tryz.prog w "internal/strconv.uint64pow10" .u64 Lib.pow10Tab) :
    Calls Tryz.prog 112 #[.int .i64 n] w fun e w' => e = .returned (.string ⟨(Lib.itoa n).toArray⟩) ∧ ∃ k os, w' = grow (w.drewN k) os := Any.strconv_Itoa Tryz.laysM171 n h0 h1 w htab
def Tryz.laysM182_ren : Go.Shelf.Ren := ⟨fun | 182 => 102 | n => n, fun | 130 => 177 | 9 => 9 | 4 => 4 | 0 => 0 | 93 => 165 | 37 => 33 | 3 => 3 | 91 => 163 | 5 => 5 | n => n, fun | n => n⟩
theorem Tryz.laysM182 : Go.Proofs.LaysM.n182 Tryz.prog Tryz.laysM182_ren := {
  mixed := by kernel_rfl
  f182 := Tryz.func102.trans (congrArg some (by kernel_rfl))
  t0 := Tryz.underlying0
  a0 := Tryz.isAgg0
  z0 := Tryz.sizeOf0
  v0 := Tryz.zeroValue0
  t3 := Tryz.underlying3
  a3 := Tryz.isAgg3
  z3 := Tryz.sizeOf3
  v3 := Tryz.zeroValue3
  t4 := Tryz.underlying4
  a4 := Tryz.isAgg4
  z4 := Tryz.sizeOf4
  v4 := Tryz.zeroValue4
  t9 := Tryz.underlying9
  a9 := Tryz.isAgg9
  z9 := Tryz.sizeOf9
  v9 := Tryz.zeroValue9
  t37 := Tryz.underlying33
  a37 := Tryz.isAgg33
  z37 := Tryz.sizeOf33
  v37 := Tryz.zeroValue33
  t93 := Tryz.underlying165
  a93 := Tryz.isAgg165
  z93 := Tryz.sizeOf165
  v93 := Tryz.zeroValue165
  t130 := Tryz.underlying177
  a130 := Tryz.isAgg177
  z130 := Tryz.sizeOf177
  v130 := Tryz.zeroValue177
  t5 := Tryz.underlying5
  a5 := Tryz.isAgg5
  z5 := Tryz.sizeOf5
  v5 := Tryz.zeroValue5
  t91 := Tryz.underlying163
  a91 := Tryz.isAgg163
  z91 := Tryz.sizeOf163
  v91 := Tryz.zeroValue163
  i0 := by kernel_rfl
  i3 := by kernel_rfl
  i4 := by kernel_rfl
  i5 := by kernel_rfl
  i9 := by kernel_rfl
  i37 := by kernel_rfl
  i91 := by kernel_rfl
  i93 := by kernel_rfl
  i130 := by kernel_rfl }
open Go.RowKit in
theorem Tryz.Buffer_String (B b : Nat) (l : List UInt8) (w : World) (h : Lib.IsBuffer 165 5 B b (Lib.byteCells l) w) :
    Calls Tryz.prog 102 #[.pointer (some ⟨b, 0, none⟩)] w fun e w' => e = .returned (.string ⟨l.toArray⟩) ∧ ∃ n, w' = w.drewN n := Any.Buffer_String Tryz.laysM182 B b l w h
def Tryz.lays321_ren : Go.Shelf.Ren := ⟨fun | 321 => 103 | n => n, fun | 5 => 5 | n => n, fun | n => n⟩
theorem Tryz.lays321 : Go.Proofs.Lays.n321 Tryz.prog Tryz.lays321_ren := {
  mixed := by kernel_rfl
  f321 := Tryz.func103.trans (congrArg some (by kernel_rfl))
  t5 := Tryz.underlying5
  a5 := Tryz.isAgg5
  z5 := Tryz.sizeOf5
  v5 := Tryz.zeroValue5 }
open Go.RowKit in
theorem Tryz.internal_strconv_lower (c : Int) (w : World) :
    Calls Tryz.prog 103 #[.int .u8 c] w fun e w' => e = .returned (.int .u8 (bits .or .u8 c 32)) ∧ w' = w := Any.internal_strconv_lower Tryz.lays321 c w
def Tryz.laysM178_ren : Go.Shelf.Ren := ⟨fun | 178 => 99 | 251 => 110 | 252 => 111 | 181 => 122 | 184 => 123 | 290 => 124 | 324 => 132 | n => n, fun | 130 => 177 | 9 => 9 | 3 => 3 | 75 => 53 | 0 => 0 | 93 => 165 | 91 => 163 | 131 => 178 | 4 => 4 | 37 => 33 | 20 => 20 | 80 => 141 | 5 => 5 | n => n, fun | 14 => 6 | n => n⟩
theorem Tryz.laysM178 : Go.Proofs.LaysM.n178 Tryz.prog Tryz.laysM178_ren := {
  mixed := by kernel_rfl
  f178 := Tryz.func99.trans (congrArg some (by kernel_rfl))
  f181 := Tryz.func122.trans (congrArg some (by kernel_rfl))
  f184 := Tryz.func123.trans (congrArg some (by kernel_rfl))
  f251 := Tryz.func110.trans (congrArg some (by kernel_rfl))
  f252 := Tryz.func111.trans (congrArg some (by kernel_rfl))
  f290 := Tryz.func124.trans (congrArg some (by kernel_rfl))
  f324 := Tryz.func132.trans (congrArg some (by kernel_rfl))
  t0 := Tryz.underlying0
  a0 := Tryz.isAgg0
  z0 := Tryz.sizeOf0
  v0 := Tryz.zeroValue0
  t3 := Tryz.underlying3
  a3 := Tryz.isAgg3
  z3 := Tryz.sizeOf3
  v3 := Tryz.zeroValue3
  t4 := Tryz.underlying4
  a4 := Tryz.isAgg4
  z4 := Tryz.sizeOf4
  v4 := Tryz.zeroValue4
  t9 := Tryz.underlying9
  a9 := Tryz.isAgg9
  z9 := Tryz.sizeOf9
  v9 := Tryz.zeroValue9
  t20 := Tryz.underlying20
  a20 := Tryz.isAgg20
  z20 := Tryz.sizeOf20
  v20 := Tryz.zeroValue20
  t37 := Tryz.underlying33
  a37 := Tryz.isAgg33
  z37 := Tryz.sizeOf33
  v37 := Tryz.zeroValue33
  t75 := Tryz.underlying53
  a75 := Tryz.isAgg53
  z75 := Tryz.sizeOf53
  v75 := Tryz.zeroValue53
  t91 := Tryz.underlying163
  a91 := Tryz.isAgg163
  z91 := Tryz.sizeOf163
  v91 := Tryz.zeroValue163
  t93 := Tryz.underlying165
  a93 := Tryz.isAgg165
  z93 := Tryz.sizeOf165
  v93 := Tryz.zeroValue165
  t130 := Tryz.underlying177
  a130 := Tryz.isAgg177
  z130 := Tryz.sizeOf177
  v130 := Tryz.zeroValue177
  t131 := Tryz.underlying178
  a131 := Tryz.isAgg178
  z131 := Tryz.sizeOf178
  v131 := Tryz.zeroValue178
  g14 := by kernel_rfl
  t5 := Tryz.underlying5
  a5 := Tryz.isAgg5
  z5 := Tryz.sizeOf5
  v5 := Tryz.zeroValue5
  t80 := Tryz.underlying141
  a80 := Tryz.isAgg141
  z80 := Tryz.sizeOf141
  v80 := Tryz.zeroValue141
  i0 := by kernel_rfl
  i3 := by kernel_rfl
  i4 := by kernel_rfl
  i5 := by kernel_rfl
  i9 := by kernel_rfl
  i20 := by kernel_rfl
  i37 := by kernel_rfl
  i75 := by kernel_rfl
  i80 := by kernel_rfl
  i91 := by kernel_rfl
  i93 := by kernel_rfl
  i130 := by kernel_rfl
  i131 := by kernel_rfl
  m14 := by kernel_rfl }
open Go.RowKit in
theorem Tryz.Buffer_WriteString_k (B b : Nat) (bs : List Value) (s : ByteArray) (w : World) (h : Lib.IsBuffer 165 5 B b bs w) (hBw : B ≤ w.heap.size) (h1 : ∀ v ∈ bs, v.oneCell' = true) (hlim : bs.length + s.size ≤ 140737488355328) :
    Calls Tryz.prog 99 #[.pointer (some ⟨b, 0, none⟩), .string s] w fun e w' => e = .returned (.tuple #[.int .i64 s.size, .nilIface]) ∧ Lib.IsBuffer 165 5 B b (bs ++ Lib.byteCells s.data.toList) w' ∧ Below B w w' ∧ Lib.OthersKept 5 (some b) w w' := Any.Buffer_WriteString_k Tryz.laysM178 B b bs s w h hBw h1 hlim
def Tryz.lays199_ren : Go.Shelf.Ren := ⟨fun | 199 => 59 | 261 => 82 | 311 => 92 | 312 => 93 | n => n, fun | 21 => 21 | 4 => 4 | 51 => 130 | 141 => 132 | 0 => 0 | 196 => 151 | 193 => 148 | 3 => 3 | 198 => 154 | 49 => 152 | 194 => 149 | 201 => 157 | 226 => 170 | 46 => 144 | 227 => 171 | n => n, fun | 6 => 1 | n => n⟩
theorem Tryz.lays199 : Go.Proofs.Lays.n199 Tryz.prog Tryz.lays199_ren := {
  mixed := by kernel_rfl
  f199 := Tryz.func59.trans (congrArg some (by kernel_rfl))
  f261 := Tryz.func82.trans (congrArg some (by kernel_rfl))
  f311 := Tryz.func92.trans (congrArg some (by kernel_rfl))
  f312 := Tryz.func93.trans (congrArg some (by kernel_rfl))
  t0 := Tryz.underlying0
  a0 := Tryz.isAgg0
  z0 := Tryz.sizeOf0
  v0 := Tryz.zeroValue0
  t3 := Tryz.underlying3
  a3 := Tryz.isAgg3
  z3 := Tryz.sizeOf3
  v3 := Tryz.zeroValue3
  t4 := Tryz.underlying4
  a4 := Tryz.isAgg4
  z4 := Tryz.sizeOf4
  v4 := Tryz.zeroValue4
  t21 := Tryz.underlying21
  a21 := Tryz.isAgg21
  z21 := Tryz.sizeOf21
  v21 := Tryz.zeroValue21
  t46 := Tryz.underlying144
  a46 := Tryz.isAgg144
  z46 := Tryz.sizeOf144
  v46 := Tryz.zeroValue144
  t49 := Tryz.underlying152
  a49 := Tryz.isAgg152
  z49 := Tryz.sizeOf152
  v49 := Tryz.zeroValue152
  t51 := Tryz.underlying130
  a51 := Tryz.isAgg130
  z51 := Tryz.sizeOf130
  v51 := Tryz.zeroValue130
  t141 := Tryz.underlying132
  a141 := Tryz.isAgg132
  z141 := Tryz.sizeOf132
  v141 := Tryz.zeroValue132
  t193 := Tryz.underlying148
  a193 := Tryz.isAgg148
  z193 := Tryz.sizeOf148
  v193 := Tryz.zeroValue148
  t194 := Tryz.underlying149
  a194 := Tryz.isAgg149
  z194 := Tryz.sizeOf149
  v194 := Tryz.zeroValue149
  t196 := Tryz.underlying151
  a196 := Tryz.isAgg151
  z196 := Tryz.sizeOf151
  v196 := Tryz.zeroValue151
  t198 := Tryz.underlying154
  a198 := Tryz.isAgg154
  z198 := Tryz.sizeOf154
  v198 := Tryz.zeroValue154
  t201 := Tryz.underlying157
  a201 := Tryz.isAgg157
  z201 := Tryz.sizeOf157
  v201 := Tryz.zeroValue157
  t226 := Tryz.underlying170
  a226 := Tryz.isAgg170
  z226 := Tryz.sizeOf170
  v226 := Tryz.zeroValue170
  t227 := Tryz.underlying171
  a227 := Tryz.isAgg171
  z227 := Tryz.sizeOf171
  v227 := Tryz.zeroValue171
  g6 := by kernel_rfl }
def Tryz.lays197_ren : Go.Shelf.Ren := ⟨fun | 197 => 58 | 260 => 81 | n => n, fun | 9 => 9 | 21 => 21 | 3 => 3 | 4 => 4 | 5 => 5 | 105 => 104 | 119 => 143 | 0 => 0 | 46 => 144 | 139 => 147 | 138 => 146 | n => n, fun | 3 => 2 | 4 => 3 | n => n⟩
theorem Tryz.lays197 : Go.Proofs.Lays.n197 Tryz.prog Tryz.lays197_ren := {
  mixed := by kernel_rfl
  f197 := Tryz.func58.trans (congrArg some (by kernel_rfl))
  f260 := Tryz.func81.trans (congrArg some (by kernel_rfl))
  t0 := Tryz.underlying0
  a0 := Tryz.isAgg0
  z0 := Tryz.sizeOf0
  v0 := Tryz.zeroValue0
  t3 := Tryz.underlying3
  a3 := Tryz.isAgg3
  z3 := Tryz.sizeOf3
  v3 := Tryz.zeroValue3
  t4 := Tryz.underlying4
  a4 := Tryz.isAgg4
  z4 := Tryz.sizeOf4
  v4 := Tryz.zeroValue4
  t5 := Tryz.underlying5
  a5 := Tryz.isAgg5
  z5 := Tryz.sizeOf5
  v5 := Tryz.zeroValue5
  t9 := Tryz.underlying9
  a9 := Tryz.isAgg9
  z9 := Tryz.sizeOf9
  v9 := Tryz.zeroValue9
  t21 := Tryz.underlying21
  a21 := Tryz.isAgg21
  z21 := Tryz.sizeOf21
  v21 := Tryz.zeroValue21
  t46 := Tryz.underlying144
  a46 := Tryz.isAgg144
  z46 := Tryz.sizeOf144
  v46 := Tryz.zeroValue144
  t105 := Tryz.underlying104
  a105 := Tryz.isAgg104
  z105 := Tryz.sizeOf104
  v105 := Tryz.zeroValue104
  t119 := Tryz.underlying143
  a119 := Tryz.isAgg143
  z119 := Tryz.sizeOf143
  t138 := Tryz.underlying146
  a138 := Tryz.isAgg146
  z138 := Tryz.sizeOf146
  v138 := Tryz.zeroValue146
  t139 := Tryz.underlying147
  a139 := Tryz.isAgg147
  z139 := Tryz.sizeOf147
  v139 := Tryz.zeroValue147
  g3 := by kernel_rfl
  g4 := by kernel_rfl }
def Tryz.lays105_ren : Go.Shelf.Ren := ⟨fun | 105 => 101 | 212 => 113 | 99 => 114 | 165 => 115 | 166 => 116 | 170 => 117 | 169 => 118 | 263 => 126 | 264 => 127 | 206 => 128 | 240 => 129 | 241 => 130 | 276 => 134 | 277 => 135 | n => n, fun | 9 => 9 | 3 => 3 | 4 => 4 | 20 => 20 | 0 => 0 | 46 => 144 | 109 => 181 | 5 => 5 | 72 => 185 | 76 => 166 | 51 => 130 | 146 => 193 | 53 => 135 | 148 => 195 | 70 => 183 | 37 => 33 | 75 => 53 | 127 => 197 | 164 => 92 | 80 => 141 | n => n, fun | n => n⟩
theorem Tryz.lays105 : Go.Proofs.Lays.n105 Tryz.prog Tryz.lays105_ren := {
  mixed := by kernel_rfl
  f99 := Tryz.func114.trans (congrArg some (by kernel_rfl))
  f105 := Tryz.func101.trans (congrArg some (by kernel_rfl))
  f165 := Tryz.func115.trans (congrArg some (by kernel_rfl))
  f166 := Tryz.func116.trans (congrArg some (by kernel_rfl))
  f169 := Tryz.func118.trans (congrArg some (by kernel_rfl))
  f170 := Tryz.func117.trans (congrArg some (by kernel_rfl))
  f206 := Tryz.func128.trans (congrArg some (by kernel_rfl))
  f212 := Tryz.func113.trans (congrArg some (by kernel_rfl))
  f240 := Tryz.func129.trans (congrArg some (by kernel_rfl))
  f241 := Tryz.func130.trans (congrArg some (by kernel_rfl))
  f263 := Tryz.func126.trans (congrArg some (by kernel_rfl))
  f264 := Tryz.func127.trans (congrArg some (by kernel_rfl))
  f276 := Tryz.func134.trans (congrArg some (by kernel_rfl))
  f277 := Tryz.func135.trans (congrArg some (by kernel_rfl))
  t0 := Tryz.underlying0
  a0 := Tryz.isAgg0
  z0 := Tryz.sizeOf0
  v0 := Tryz.zeroValue0
  t3 := Tryz.underlying3
  a3 := Tryz.isAgg3
  z3 := Tryz.sizeOf3
  v3 := Tryz.zeroValue3
  t4 := Tryz.underlying4
  a4 := Tryz.isAgg4
  z4 := Tryz.sizeOf4
  v4 := Tryz.zeroValue4
  t5 := Tryz.underlying5
  a5 := Tryz.isAgg5
  z5 := Tryz.sizeOf5
  v5 := Tryz.zeroValue5
  t9 := Tryz.underlying9
  a9 := Tryz.isAgg9
  z9 := Tryz.sizeOf9
  v9 := Tryz.zeroValue9
  t20 := Tryz.underlying20
  a20 := Tryz.isAgg20
  z20 := Tryz.sizeOf20
  v20 := Tryz.zeroValue20
  t37 := Tryz.underlying33
  a37 := Tryz.isAgg33
  z37 := Tryz.sizeOf33
  v37 := Tryz.zeroValue33
  t46 := Tryz.underlying144
  a46 := Tryz.isAgg144
  z46 := Tryz.sizeOf144
  v46 := Tryz.zeroValue144
  t51 := Tryz.underlying130
  a51 := Tryz.isAgg130
  z51 := Tryz.sizeOf130
  v51 := Tryz.zeroValue130
  t53 := Tryz.underlying135
  a53 := Tryz.isAgg135
  z53 := Tryz.sizeOf135
  v53 := Tryz.zeroValue135
  t70 := Tryz.underlying183
  a70 := Tryz.isAgg183
  z70 := Tryz.sizeOf183
  v70 := Tryz.zeroValue183
  t72 := Tryz.underlying185
  a72 := Tryz.isAgg185
  z72 := Tryz.sizeOf185
  v72 := Tryz.zeroValue185
  t75 := Tryz.underlying53
  a75 := Tryz.isAgg53
  z75 := Tryz.sizeOf53
  v75 := Tryz.zeroValue53
  t76 := Tryz.underlying166
  a76 := Tryz.isAgg166
  z76 := Tryz.sizeOf166
  v76 := Tryz.zeroValue166
  t109 := Tryz.underlying181
  a109 := Tryz.isAgg181
  z109 := Tryz.sizeOf181
  v109 := Tryz.zeroValue181
  t127 := Tryz.underlying197
  a127 := Tryz.isAgg197
  z127 := Tryz.sizeOf197
  v127 := Tryz.zeroValue197
  t146 := Tryz.underlying193
  a146 := Tryz.isAgg193
  z146 := Tryz.sizeOf193
  v146 := Tryz.zeroValue193
  t148 := Tryz.underlying195
  a148 := Tryz.isAgg195
  z148 := Tryz.sizeOf195
  v148 := Tryz.zeroValue195
  t164 := Tryz.underlying92
  a164 := Tryz.isAgg92
  z164 := Tryz.sizeOf92
  v164 := Tryz.zeroValue92 }
theorem Tryz.Builder_Extra_105 : Builder.Extra Tryz.prog Tryz.lays105_ren := {
  sizeBuilder := by kernel_rfl
  liesBuilder := by kernel_rfl
  t5 := Tryz.underlying5
  a5 := Tryz.isAgg5
  z5 := Tryz.sizeOf5
  v5 := Tryz.zeroValue5
  infoByte := by kernel_rfl
  cellsByte := by kernel_rfl
  sizeByte := by kernel_rfl
  neB5 := by decide }
open Go.RowKit Go.Lib in
theorem Tryz.strings_Repeat (s : ByteArray) (c : Nat) (w : World) (hc : c ≤ 9223372036854775807) (hlen : s.size * c ≤ 140737488355328) :
    Calls Tryz.prog 101 #[.string s, .int .i64 c] w fun e w' => e = .returned (.string ⟨(Lib.repeatL s.data.toList c).toArray⟩) ∧ Below w.heap.size w w' := Any.strings_Repeat Tryz.lays105 Tryz.Builder_Extra_105 s c w hc hlen
def Tryz.lays260_ren : Go.Shelf.Ren := ⟨fun | 260 => 81 | n => n, fun | 9 => 9 | 21 => 21 | 3 => 3 | 4 => 4 | 5 => 5 | 119 => 143 | 0 => 0 | 46 => 144 | 139 => 147 | 138 => 146 | n => n, fun | 3 => 2 | 4 => 3 | n => n⟩
theorem Tryz.lays260 : Go.Proofs.Lays.n260 Tryz.prog Tryz.lays260_ren := {
  mixed := by kernel_rfl
  f260 := Tryz.func81.trans (congrArg some (by kernel_rfl))
  t0 := Tryz.underlying0
  a0 := Tryz.isAgg0
  z0 := Tryz.sizeOf0
  v0 := Tryz.zeroValue0
  t3 := Tryz.underlying3
  a3 := Tryz.isAgg3
  z3 := Tryz.sizeOf3
  v3 := Tryz.zeroValue3
  t4 := Tryz.underlying4
  a4 := Tryz.isAgg4
  z4 := Tryz.sizeOf4
  v4 := Tryz.zeroValue4
  t5 := Tryz.underlying5
  a5 := Tryz.isAgg5
  z5 := Tryz.sizeOf5
  v5 := Tryz.zeroValue5
  t9 := Tryz.underlying9
  a9 := Tryz.isAgg9
  z9 := Tryz.sizeOf9
  v9 := Tryz.zeroValue9
  t21 := Tryz.underlying21
  a21 := Tryz.isAgg21
  z21 := Tryz.sizeOf21
  v21 := Tryz.zeroValue21
  t46 := Tryz.underlying144
  a46 := Tryz.isAgg144
  z46 := Tryz.sizeOf144
  v46 := Tryz.zeroValue144
  t119 := Tryz.underlying143
  a119 := Tryz.isAgg143
  z119 := Tryz.sizeOf143
  t138 := Tryz.underlying146
  a138 := Tryz.isAgg146
  z138 := Tryz.sizeOf146
  v138 := Tryz.zeroValue146
  t139 := Tryz.underlying147
  a139 := Tryz.isAgg147
  z139 := Tryz.sizeOf147
  v139 := Tryz.zeroValue147
  g3 := by kernel_rfl
  g4 := by kernel_rfl }
open Go.RowKit Go.Lib in
theorem Tryz.utf8_DecodeRuneInString (s : ByteArray) (w : World) (hT : Lib.Utf8Tabs 2 3 w) :
    Calls Tryz.prog 58 #[.string s] w fun e w' => e = .returned (.tuple #[.int .i32 (Lib.decodeGo s).1, .int .i64 (Lib.decodeGo s).2]) ∧ Below w.heap.size w w' := Any.utf8_DecodeRuneInString Tryz.lays197 s w hT
open Go.RowKit Go.Lib in
theorem Tryz.unicode_IsSpace_any_d (r : Int) (w : World) (hlo : -2147483648 ≤ r) (hhi : r ≤ 2147483647) (hW : Lib.WhiteTab 1 w) :
    Calls Tryz.prog 59 #[.int .i32 r] w fun e w' => e = .returned (.bool (Lib.isSpaceZ r)) ∧ ∃ q, w' = w.drewN q := Any.unicode_IsSpace_any_d Tryz.lays199 r w hlo hhi hW
def Tryz.lays7n30_ren : Go.Shelf.Ren := ⟨fun | 30 => 87 | 47 => 96 | n => n, fun | 30 => 33 | 21 => 21 | 3 => 3 | 27 => 130 | 4 => 4 | 5 => 5 | 0 => 0 | 25 => 144 | n => n, fun | n => n⟩
theorem Tryz.lays7n30 : Go.Proofs.Lays7.n30 Tryz.prog Tryz.lays7n30_ren := {
  mixed := by kernel_rfl
  f30 := Tryz.func87.trans (congrArg some (by kernel_rfl))
  f47 := Tryz.func96.trans (congrArg some (by kernel_rfl))
  t0 := Tryz.underlying0
  a0 := Tryz.isAgg0
  z0 := Tryz.sizeOf0
  v0 := Tryz.zeroValue0
  i0 := by kernel_rfl
  t3 := Tryz.underlying3
  a3 := Tryz.isAgg3
  z3 := Tryz.sizeOf3
  v3 := Tryz.zeroValue3
  i3 := by kernel_rfl
  t4 := Tryz.underlying4
  a4 := Tryz.isAgg4
  z4 := Tryz.sizeOf4
  v4 := Tryz.zeroValue4
  i4 := by kernel_rfl
  t5 := Tryz.underlying5
  a5 := Tryz.isAgg5
  z5 := Tryz.sizeOf5
  v5 := Tryz.zeroValue5
  i5 := by kernel_rfl
  t21 := Tryz.underlying21
  a21 := Tryz.isAgg21
  z21 := Tryz.sizeOf21
  v21 := Tryz.zeroValue21
  i21 := by kernel_rfl
  t25 := Tryz.underlying144
  a25 := Tryz.isAgg144
  z25 := Tryz.sizeOf144
  v25 := Tryz.zeroValue144
  i25 := by kernel_rfl
  t27 := Tryz.underlying130
  a27 := Tryz.isAgg130
  z27 := Tryz.sizeOf130
  v27 := Tryz.zeroValue130
  i27 := by kernel_rfl
  t30 := Tryz.underlying33
  a30 := Tryz.isAgg33
  z30 := Tryz.sizeOf33
  v30 := Tryz.zeroValue33
  i30 := by kernel_rfl }
open Go.RowKit Go.Lib in
theorem Tryz.utf8_EncodeRune (b off len cap : Nat) (r : Int) (hlo : -2147483648 ≤ r) (hhi : r ≤ 2147483647) (w : World) (hl : (Lib.runeCells r).length ≤ len)
    (hc : ∀ j, j < (Lib.runeCells r).length → (w.cell? ⟨b, off + j, none⟩).isSome = true) (hf : ∀ j, j < (Lib.runeCells r).length → w.frozen? ⟨b, off + j, none⟩ = false) :
    Calls Tryz.prog 87 #[.slice (some ⟨b, off, none⟩) len cap, .int .i32 r] w fun e w' => e = .returned (.int .i64 (Lib.runeCells r).length) ∧ w' = w.setCells b off (Lib.runeCells r) := Any7.utf8_EncodeRune Tryz.lays7n30 b off len cap r hlo hhi w hl hc hf
end Go.Proofs
