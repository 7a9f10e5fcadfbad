/-
  The contract of strconv.toError at ErrSyntax, as the kit's own tool lays it over this dump (lay-shelf, then lay-plain). Nothing of it is ours.
-/
import Derived.Shelf.Strings.Builder1
import Derived.Shelf.Strings.Builder2
import Derived.Shelf.Strings.BuilderF
import Derived.Shelf.Strings.BuilderK
import Derived.Shelf.Strconv.Itoa0
import Derived.Shelf.Strconv.Itoa1
import Derived.Shelf.LaysM
import Derived.Shelf.Strconv.Itoa2
import Derived.Shelf.Strconv.Itoa3
import Derived.Shelf.Bytes.Len
import Derived.Shelf.Bytes.TryGrow
import Derived.Shelf.Bytes.GrowSliceCatch
import Derived.Shelf.Bytes.GrowSlice
import Derived.Shelf.Bytes.String
import Derived.Shelf.Strconv.Clone
import Derived.Shelf.Strconv.SyntaxError
import Derived.Shelf.LaysC
import Derived.Shelf.Strconv.ToError
import Derived.Shelf.Strconv.Lower
import Derived.Shelf.Bytes.GrowRow0Kept
import Derived.Shelf.Bytes.GrowRowKept
import Derived.Shelf.Bytes.GrowNilKept
import Derived.Shelf.Bytes.GrowKept
import Derived.Shelf.Bytes.WriteStringKept
import Derived.Shelf.Bytes.ResetKept
import Derived.Shelf.Bytes.BufferK
import Derived.Shelf.Strings.Prefix
import Derived.Shelf.Unicode.Latin
import Derived.Shelf.Unicode.Decode
import Derived.Shelf.Bits.Mul64
import Derived.Shelf.Strings.Repeat
import Derived.Shelf.Unicode.DecodeSlow
import Derived.Shelf.Unicode.DecodeAny
import Derived.Shelf.Unicode.Is16White
import Derived.Shelf.Unicode.IsSpaceAny
import Derived.Shelf.Unicode.Is16WhiteD
import Derived.Shelf.Unicode.IsSpaceAnyD
import Derived.Shelf.Unicode.Is16Any
import Derived.Shelf.Unicode.Is32Any
import Derived.Shelf.Unicode.ExclAny
import Derived.Shelf.Spec.EncodeRune
import Derived.Test.YtcelnnjjakiehaaGreatDoorProg
namespace Go.Proofs
open Go.Shelf
def Tryz.laysC245_ren : Go.Shelf.Ren := ⟨fun | 245 => 95 | 279 => 105 | 280 => 106 | 281 => 107 | 282 => 108 | 316 => 119 | 171 => 112 | 205 => 120 | 243 => 125 | 246 => 133 | 283 => 136 | 284 => 137 | 285 => 138 | 286 => 139 | 129 => 141 | 317 => 140 | 318 => 142 | 319 => 143 | 320 => 144 | 337 => 145 | 338 => 146 | n => n, fun | 9 => 9 | 3 => 3 | 75 => 53 | 167 => 172 | 4 => 4 | 168 => 174 | 210 => 188 | 37 => 33 | 0 => 0 | 127 => 197 | 145 => 200 | 143 => 198 | 2 => 2 | 171 => 205 | 53 => 135 | 5 => 5 | 173 => 208 | 212 => 211 | 51 => 130 | 20 => 20 | 213 => 212 | 46 => 144 | 232 => 215 | 233 => 216 | 80 => 141 | n => n, fun | 15 => 4 | 16 => 5 | 17 => 8 | 18 => 9 | 19 => 10 | n => n⟩
theorem Tryz.laysC245 : Go.Proofs.LaysC.n245 Tryz.prog Tryz.laysC245_ren := {
  mixed := by kernel_rfl
  f129 := Tryz.func141.trans (congrArg some (by kernel_rfl))
  f171 := Tryz.func112.trans (congrArg some (by kernel_rfl))
  f205 := Tryz.func120.trans (congrArg some (by kernel_rfl))
  f243 := Tryz.func125.trans (congrArg some (by kernel_rfl))
  f245 := Tryz.func95.trans (congrArg some (by kernel_rfl))
  f246 := Tryz.func133.trans (congrArg some (by kernel_rfl))
  f279 := Tryz.func105.trans (congrArg some (by kernel_rfl))
  f280 := Tryz.func106.trans (congrArg some (by kernel_rfl))
  f281 := Tryz.func107.trans (congrArg some (by kernel_rfl))
  f282 := Tryz.func108.trans (congrArg some (by kernel_rfl))
  f283 := Tryz.func136.trans (congrArg some (by kernel_rfl))
  f284 := Tryz.func137.trans (congrArg some (by kernel_rfl))
  f285 := Tryz.func138.trans (congrArg some (by kernel_rfl))
  f286 := Tryz.func139.trans (congrArg some (by kernel_rfl))
  f316 := Tryz.func119.trans (congrArg some (by kernel_rfl))
  f317 := Tryz.func140.trans (congrArg some (by kernel_rfl))
  f318 := Tryz.func142.trans (congrArg some (by kernel_rfl))
  f319 := Tryz.func143.trans (congrArg some (by kernel_rfl))
  f320 := Tryz.func144.trans (congrArg some (by kernel_rfl))
  f337 := Tryz.func145.trans (congrArg some (by kernel_rfl))
  f338 := Tryz.func146.trans (congrArg some (by kernel_rfl))
  t0 := Tryz.underlying0
  a0 := Tryz.isAgg0
  z0 := Tryz.sizeOf0
  v0 := Tryz.zeroValue0
  t2 := Tryz.underlying2
  a2 := Tryz.isAgg2
  z2 := Tryz.sizeOf2
  v2 := Tryz.zeroValue2
  t3 := Tryz.underlying3
  a3 := Tryz.isAgg3
  z3 := Tryz.sizeOf3
  v3 := Tryz.zeroValue3
  t4 := Tryz.underlying4
  a4 := Tryz.isAgg4
  z4 := Tryz.sizeOf4
  v4 := Tryz.zeroValue4
  t5 := Tryz.underlying5
  a5 := Tryz.isAgg5
  z5 := Tryz.sizeOf5
  v5 := Tryz.zeroValue5
  t9 := Tryz.underlying9
  a9 := Tryz.isAgg9
  z9 := Tryz.sizeOf9
  v9 := Tryz.zeroValue9
  t20 := Tryz.underlying20
  a20 := Tryz.isAgg20
  z20 := Tryz.sizeOf20
  v20 := Tryz.zeroValue20
  t37 := Tryz.underlying33
  a37 := Tryz.isAgg33
  z37 := Tryz.sizeOf33
  v37 := Tryz.zeroValue33
  t46 := Tryz.underlying144
  a46 := Tryz.isAgg144
  z46 := Tryz.sizeOf144
  v46 := Tryz.zeroValue144
  t51 := Tryz.underlying130
  a51 := Tryz.isAgg130
  z51 := Tryz.sizeOf130
  v51 := Tryz.zeroValue130
  t53 := Tryz.underlying135
  a53 := Tryz.isAgg135
  z53 := Tryz.sizeOf135
  v53 := Tryz.zeroValue135
  t75 := Tryz.underlying53
  a75 := Tryz.isAgg53
  z75 := Tryz.sizeOf53
  v75 := Tryz.zeroValue53
  t127 := Tryz.underlying197
  a127 := Tryz.isAgg197
  z127 := Tryz.sizeOf197
  v127 := Tryz.zeroValue197
  t143 := Tryz.underlying198
  a143 := Tryz.isAgg198
  z143 := Tryz.sizeOf198
  v143 := Tryz.zeroValue198
  t145 := Tryz.underlying200
  a145 := Tryz.isAgg200
  z145 := Tryz.sizeOf200
  v145 := Tryz.zeroValue200
  t167 := Tryz.underlying172
  a167 := Tryz.isAgg172
  z167 := Tryz.sizeOf172
  v167 := Tryz.zeroValue172
  t168 := Tryz.underlying174
  a168 := Tryz.isAgg174
  z168 := Tryz.sizeOf174
  v168 := Tryz.zeroValue174
  t171 := Tryz.underlying205
  a171 := Tryz.isAgg205
  z171 := Tryz.sizeOf205
  v171 := Tryz.zeroValue205
  t173 := Tryz.underlying208
  a173 := Tryz.isAgg208
  z173 := Tryz.sizeOf208
  v173 := Tryz.zeroValue208
  t210 := Tryz.underlying188
  a210 := Tryz.isAgg188
  z210 := Tryz.sizeOf188
  v210 := Tryz.zeroValue188
  t212 := Tryz.underlying211
  a212 := Tryz.isAgg211
  z212 := Tryz.sizeOf211
  v212 := Tryz.zeroValue211
  t213 := Tryz.underlying212
  a213 := Tryz.isAgg212
  z213 := Tryz.sizeOf212
  t232 := Tryz.underlying215
  a232 := Tryz.isAgg215
  z232 := Tryz.sizeOf215
  v232 := Tryz.zeroValue215
  t233 := Tryz.underlying216
  a233 := Tryz.isAgg216
  z233 := Tryz.sizeOf216
  v233 := Tryz.zeroValue216
  g15 := by kernel_rfl
  g16 := by kernel_rfl
  g17 := by kernel_rfl
  g18 := by kernel_rfl
  g19 := by kernel_rfl
  t80 := Tryz.underlying141
  a80 := Tryz.isAgg141
  z80 := Tryz.sizeOf141
  v80 := Tryz.zeroValue141
  i0 := by kernel_rfl
  i2 := by kernel_rfl
  i3 := by kernel_rfl
  i4 := by kernel_rfl
  i5 := by kernel_rfl
  i9 := by kernel_rfl
  i20 := by kernel_rfl
  i37 := by kernel_rfl
  i46 := by kernel_rfl
  i51 := by kernel_rfl
  i53 := by kernel_rfl
  i75 := by kernel_rfl
  i80 := by kernel_rfl
  i127 := by kernel_rfl
  i143 := by kernel_rfl
  i145 := by kernel_rfl
  i167 := by kernel_rfl
  i168 := by kernel_rfl
  i171 := by kernel_rfl
  i173 := by kernel_rfl
  i210 := by kernel_rfl
  i212 := by kernel_rfl
  i232 := by kernel_rfl
  i233 := by kernel_rfl
  m15 := by kernel_rfl
  m16 := by kernel_rfl
  m17 := by kernel_rfl
  m18 := by kernel_rfl
  m19 := by kernel_rfl
  c0 := by kernel_rfl
  c2 := by kernel_rfl
  c3 := by kernel_rfl
  c4 := by kernel_rfl
  c5 := by kernel_rfl
  c9 := by kernel_rfl
  c20 := by kernel_rfl
  c37 := by kernel_rfl
  c46 := by kernel_rfl
  c51 := by kernel_rfl
  c53 := by kernel_rfl
  c75 := by kernel_rfl
  c80 := by kernel_rfl
  c127 := by kernel_rfl
  c143 := by kernel_rfl
  c145 := by kernel_rfl
  c167 := by kernel_rfl
  c168 := by kernel_rfl
  c171 := by kernel_rfl
  c173 := by kernel_rfl
  c210 := by kernel_rfl
  c212 := by kernel_rfl
  c213 := by kernel_rfl
  c232 := by kernel_rfl
  c233 := by kernel_rfl }
open Go.RowKit in
theorem Tryz.strconv_toError_syntax (fn s : ByteArray) (base bits : Int) (ev : Value) (w : World) (hlim : s.size ≤ 281474976710656) (hv : w.cell? ⟨4, 0, none⟩ = some ev) (hev : ev = .nilIface ∨ ∃ te pe, ev = .iface te pe) :
    Calls Tryz.prog 95 #[.string fn, .string s, .int .i64 base, .int .i64 bits, .iface 172 (.int .i64 2)] w fun e w' => ∃ N, e = .returned (.iface 174 (.pointer (some ⟨N, 0, none⟩))) ∧ w.heap.size ≤ N ∧ w'.heap[N]? = some (.cells #[.string fn, .string s, ev] 188 (0, 0)) ∧ Below w.heap.size w w' := Any.strconv_toError_syntax Tryz.laysC245 fn s base bits ev w hlim hv hev
end Go.Proofs
