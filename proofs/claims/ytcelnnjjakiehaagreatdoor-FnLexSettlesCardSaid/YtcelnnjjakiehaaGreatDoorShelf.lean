/-
  The contracts of the library functions that this seat's program calls, as the kit's own tool lays them over this dump (lay-shelf, then lay-plain). Nothing of them is ours.
-/
import Derived.Shelf.Strings.Builder1
import Derived.Shelf.Strings.Builder2
import Derived.Shelf.Strings.BuilderF
import Derived.Shelf.Strings.BuilderK
import Derived.Shelf.Strconv.Itoa0
import Derived.Shelf.Strconv.Itoa1
import Derived.Shelf.LaysM
import Derived.Shelf.Strconv.Itoa2
import Derived.Shelf.Strconv.Itoa3
import Derived.Shelf.Bytes.Len
import Derived.Shelf.Bytes.TryGrow
import Derived.Shelf.Bytes.GrowSliceCatch
import Derived.Shelf.Bytes.GrowSlice
import Derived.Shelf.Bytes.String
import Derived.Shelf.Strconv.Clone
import Derived.Shelf.Strconv.SyntaxError
import Derived.Shelf.LaysC
import Derived.Shelf.Strconv.ToError
import Derived.Shelf.Strconv.Lower
import Derived.Shelf.Bytes.GrowRow0Kept
import Derived.Shelf.Bytes.GrowRowKept
import Derived.Shelf.Bytes.GrowNilKept
import Derived.Shelf.Bytes.GrowKept
import Derived.Shelf.Bytes.WriteStringKept
import Derived.Shelf.Bytes.ResetKept
import Derived.Shelf.Bytes.BufferK
import Derived.Shelf.Strings.Prefix
import Derived.Shelf.Unicode.Latin
import Derived.Shelf.Unicode.Decode
import Derived.Shelf.Bits.Mul64
import Derived.Shelf.Strings.Repeat
import Derived.Shelf.Unicode.DecodeSlow
import Derived.Shelf.Unicode.DecodeAny
import Derived.Shelf.Unicode.Is16White
import Derived.Shelf.Unicode.IsSpaceAny
import Derived.Shelf.Unicode.Is16WhiteD
import Derived.Shelf.Unicode.IsSpaceAnyD
import Derived.Shelf.Unicode.Is16Any
import Derived.Shelf.Unicode.Is32Any
import Derived.Shelf.Unicode.ExclAny
import Derived.Shelf.Spec.EncodeRune
import Derived.Test.YtcelnnjjakiehaaGreatDoorProg
namespace Go.Proofs
open Go.Shelf
def Tryz.lays170_ren : Go.Shelf.Ren := ⟨fun | 170 => 117 | n => n, fun | 70 => 183 | 3 => 3 | 0 => 0 | 72 => 185 | 37 => 33 | 5 => 5 | n => n, fun | n => n⟩
theorem Tryz.lays170 : Go.Proofs.Lays.n170 Tryz.prog Tryz.lays170_ren := {
  mixed := by kernel_rfl
  f170 := Tryz.func117.trans (congrArg some (by kernel_rfl))
  t0 := Tryz.underlying0
  a0 := Tryz.isAgg0
  z0 := Tryz.sizeOf0
  v0 := Tryz.zeroValue0
  t3 := Tryz.underlying3
  a3 := Tryz.isAgg3
  z3 := Tryz.sizeOf3
  v3 := Tryz.zeroValue3
  t37 := Tryz.underlying33
  a37 := Tryz.isAgg33
  z37 := Tryz.sizeOf33
  v37 := Tryz.zeroValue33
  t70 := Tryz.underlying183
  a70 := Tryz.isAgg183
  z70 := Tryz.sizeOf183
  v70 := Tryz.zeroValue183
  t72 := Tryz.underlying185
  a72 := Tryz.isAgg185
  z72 := Tryz.sizeOf185
  v72 := Tryz.zeroValue185 }
open Go.RowKit in
theorem Tryz.Builder_Len (B b : Nat) (bs : List Value) (w : World) (h : Lib.IsBuilder 185 5 B b bs w) :
    Calls Tryz.prog 117 #[.pointer (some ⟨b, 0, none⟩)] w fun e w' => e = .returned (.int .i64 bs.length) ∧ w' = w := Any.Builder_Len Tryz.lays170 B b bs w h
def Tryz.lays169_ren : Go.Shelf.Ren := ⟨fun | 169 => 118 | n => n, fun | 70 => 183 | 9 => 9 | 0 => 0 | 72 => 185 | 37 => 33 | 127 => 197 | 3 => 3 | 5 => 5 | n => n, fun | n => n⟩
theorem Tryz.lays169 : Go.Proofs.Lays.n169 Tryz.prog Tryz.lays169_ren := {
  mixed := by kernel_rfl
  f169 := Tryz.func118.trans (congrArg some (by kernel_rfl))
  t0 := Tryz.underlying0
  a0 := Tryz.isAgg0
  z0 := Tryz.sizeOf0
  v0 := Tryz.zeroValue0
  t3 := Tryz.underlying3
  a3 := Tryz.isAgg3
  z3 := Tryz.sizeOf3
  v3 := Tryz.zeroValue3
  t9 := Tryz.underlying9
  a9 := Tryz.isAgg9
  z9 := Tryz.sizeOf9
  v9 := Tryz.zeroValue9
  t37 := Tryz.underlying33
  a37 := Tryz.isAgg33
  z37 := Tryz.sizeOf33
  v37 := Tryz.zeroValue33
  t70 := Tryz.underlying183
  a70 := Tryz.isAgg183
  z70 := Tryz.sizeOf183
  v70 := Tryz.zeroValue183
  t72 := Tryz.underlying185
  a72 := Tryz.isAgg185
  z72 := Tryz.sizeOf185
  v72 := Tryz.zeroValue185
  t127 := Tryz.underlying197
  a127 := Tryz.isAgg197
  z127 := Tryz.sizeOf197
  v127 := Tryz.zeroValue197 }
theorem Tryz.Builder_Extra_169 : Builder.Extra Tryz.prog Tryz.lays169_ren := {
  sizeBuilder := by kernel_rfl
  liesBuilder := by kernel_rfl
  t5 := Tryz.underlying5
  a5 := Tryz.isAgg5
  z5 := Tryz.sizeOf5
  v5 := Tryz.zeroValue5
  infoByte := by kernel_rfl
  cellsByte := by kernel_rfl
  sizeByte := by kernel_rfl
  neB5 := by decide }
open Go.RowKit in
theorem Tryz.Builder_String (B b : Nat) (l : List UInt8) (w : World) (h : Lib.IsBuilder 185 5 B b (Lib.byteCells l) w) (h0 : l ≠ []) :
    Calls Tryz.prog 118 #[.pointer (some ⟨b, 0, none⟩)] w fun e w' => e = .returned (.string ⟨l.toArray⟩) ∧ Below B w w' := Any.Builder_String Tryz.lays169 Tryz.Builder_Extra_169 B b l w h h0
open Go.RowKit in
theorem Tryz.Builder_String_empty (B b : Nat) (w : World) (h : Lib.IsBuilder 185 5 B b [] w) (hBw : B ≤ w.heap.size) :
    Calls Tryz.prog 118 #[.pointer (some ⟨b, 0, none⟩)] w fun e w' => e = .returned (.string ⟨#[]⟩) ∧ Below B w w' := Any.Builder_String_empty Tryz.lays169 Tryz.Builder_Extra_169 B b w h hBw
open Go.RowKit in
theorem Tryz.Builder_String_any (B b : Nat) (l : List UInt8) (w : World) (h : Lib.IsBuilder 185 5 B b (Lib.byteCells l) w) (hBw : B ≤ w.heap.size) :
    Calls Tryz.prog 118 #[.pointer (some ⟨b, 0, none⟩)] w fun e w' => e = .returned (.string ⟨l.toArray⟩) ∧ Below B w w' := Any.Builder_String_any Tryz.lays169 Tryz.Builder_Extra_169 B b l w h hBw
def Tryz.lays241_ren : Go.Shelf.Ren := ⟨fun | 241 => 130 | 277 => 135 | n => n, fun | 70 => 183 | 3 => 3 | 0 => 0 | 72 => 185 | 37 => 33 | 5 => 5 | n => n, fun | n => n⟩
theorem Tryz.lays241 : Go.Proofs.Lays.n241 Tryz.prog Tryz.lays241_ren := {
  mixed := by kernel_rfl
  f241 := Tryz.func130.trans (congrArg some (by kernel_rfl))
  f277 := Tryz.func135.trans (congrArg some (by kernel_rfl))
  t0 := Tryz.underlying0
  a0 := Tryz.isAgg0
  z0 := Tryz.sizeOf0
  v0 := Tryz.zeroValue0
  t3 := Tryz.underlying3
  a3 := Tryz.isAgg3
  z3 := Tryz.sizeOf3
  v3 := Tryz.zeroValue3
  t37 := Tryz.underlying33
  a37 := Tryz.isAgg33
  z37 := Tryz.sizeOf33
  v37 := Tryz.zeroValue33
  t70 := Tryz.underlying183
  a70 := Tryz.isAgg183
  z70 := Tryz.sizeOf183
  v70 := Tryz.zeroValue183
  t72 := Tryz.underlying185
  a72 := Tryz.isAgg185
  z72 := Tryz.sizeOf185
  v72 := Tryz.zeroValue185 }
theorem Tryz.Builder_Extra_241 : Builder.Extra Tryz.prog Tryz.lays241_ren := {
  sizeBuilder := by kernel_rfl
  liesBuilder := by kernel_rfl
  t5 := Tryz.underlying5
  a5 := Tryz.isAgg5
  z5 := Tryz.sizeOf5
  v5 := Tryz.zeroValue5
  infoByte := by kernel_rfl
  cellsByte := by kernel_rfl
  sizeByte := by kernel_rfl
  neB5 := by decide }
open Go.RowKit in
theorem Tryz.Builder_grow_fresh (B b n : Nat) (w : World) (hB : B ≤ b) (hbk : w.heap[b]? = some (.cells #[.pointer (some ⟨b, 0, none⟩), .slice none 0 0] 185 (0, 0))) (hBw : B ≤ w.heap.size) (hn : n ≤ 281474976710656) :
    Calls Tryz.prog 130 #[.pointer (some ⟨b, 0, none⟩), .int .i64 n] w fun e w' => e = .returned (.tuple #[]) ∧ (Lib.BuilderAt 185 5 B b (.pointer (some ⟨b, 0, none⟩)) [] w' ∧ Below B w w') := Any.Builder_grow_fresh Tryz.lays241 Tryz.Builder_Extra_241 B b n w hB hbk hBw hn
def Tryz.lays165_ren : Go.Shelf.Ren := ⟨fun | 165 => 115 | 240 => 129 | 241 => 130 | 276 => 134 | 277 => 135 | n => n, fun | 70 => 183 | 3 => 3 | 0 => 0 | 4 => 4 | 9 => 9 | 20 => 20 | 72 => 185 | 37 => 33 | 164 => 92 | 5 => 5 | n => n, fun | n => n⟩
theorem Tryz.lays165 : Go.Proofs.Lays.n165 Tryz.prog Tryz.lays165_ren := {
  mixed := by kernel_rfl
  f165 := Tryz.func115.trans (congrArg some (by kernel_rfl))
  f240 := Tryz.func129.trans (congrArg some (by kernel_rfl))
  f241 := Tryz.func130.trans (congrArg some (by kernel_rfl))
  f276 := Tryz.func134.trans (congrArg some (by kernel_rfl))
  f277 := Tryz.func135.trans (congrArg some (by kernel_rfl))
  t0 := Tryz.underlying0
  a0 := Tryz.isAgg0
  z0 := Tryz.sizeOf0
  v0 := Tryz.zeroValue0
  t3 := Tryz.underlying3
  a3 := Tryz.isAgg3
  z3 := Tryz.sizeOf3
  v3 := Tryz.zeroValue3
  t4 := Tryz.underlying4
  a4 := Tryz.isAgg4
  z4 := Tryz.sizeOf4
  v4 := Tryz.zeroValue4
  t9 := Tryz.underlying9
  a9 := Tryz.isAgg9
  z9 := Tryz.sizeOf9
  v9 := Tryz.zeroValue9
  t20 := Tryz.underlying20
  a20 := Tryz.isAgg20
  z20 := Tryz.sizeOf20
  v20 := Tryz.zeroValue20
  t37 := Tryz.underlying33
  a37 := Tryz.isAgg33
  z37 := Tryz.sizeOf33
  v37 := Tryz.zeroValue33
  t70 := Tryz.underlying183
  a70 := Tryz.isAgg183
  z70 := Tryz.sizeOf183
  v70 := Tryz.zeroValue183
  t72 := Tryz.underlying185
  a72 := Tryz.isAgg185
  z72 := Tryz.sizeOf185
  v72 := Tryz.zeroValue185
  t164 := Tryz.underlying92
  a164 := Tryz.isAgg92
  z164 := Tryz.sizeOf92
  v164 := Tryz.zeroValue92 }
theorem Tryz.Builder_Extra_165 : Builder.Extra Tryz.prog Tryz.lays165_ren := {
  sizeBuilder := by kernel_rfl
  liesBuilder := by kernel_rfl
  t5 := Tryz.underlying5
  a5 := Tryz.isAgg5
  z5 := Tryz.sizeOf5
  v5 := Tryz.zeroValue5
  infoByte := by kernel_rfl
  cellsByte := by kernel_rfl
  sizeByte := by kernel_rfl
  neB5 := by decide }
open Go.RowKit in
theorem Tryz.Builder_Grow_fresh (B b n : Nat) (w : World) (hB : B ≤ b) (hbk : w.heap[b]? = some (.cells #[.pointer none, .slice none 0 0] 185 (0, 0))) (hBw : B ≤ w.heap.size) (hn : n ≤ 281474976710656) :
    Calls Tryz.prog 115 #[.pointer (some ⟨b, 0, none⟩), .int .i64 n] w fun e w' => e = .returned (.tuple #[]) ∧ (Lib.BuilderAt 185 5 B b (.pointer (some ⟨b, 0, none⟩)) [] w' ∧ Below B w w') := Any.Builder_Grow_fresh Tryz.lays165 Tryz.Builder_Extra_165 B b n w hB hbk hBw hn
open Go.RowKit in
theorem Tryz.Builder_Len_f (B b : Nat) (bs : List Value) (w : World) (h : Lib.IsBuilderF 185 5 B b bs w) :
    Calls Tryz.prog 117 #[.pointer (some ⟨b, 0, none⟩)] w fun e w' => e = .returned (.int .i64 bs.length) ∧ w' = w := Any.Builder_Len_f Tryz.lays170 B b bs w h
open Go.RowKit in
theorem Tryz.Builder_String_f (B b : Nat) (l : List UInt8) (w : World) (h : Lib.IsBuilderF 185 5 B b (Lib.byteCells l) w) (h0 : l ≠ []) :
    Calls Tryz.prog 118 #[.pointer (some ⟨b, 0, none⟩)] w fun e w' => e = .returned (.string ⟨l.toArray⟩) ∧ (Lib.IsBuilderF 185 5 B b (Lib.byteCells l) w' ∧ Below B w w') := Any.Builder_String_f Tryz.lays169 Tryz.Builder_Extra_169 B b l w h h0
open Go.RowKit in
theorem Tryz.Builder_String_empty_f (B b : Nat) (w : World) (h : Lib.IsBuilderF 185 5 B b [] w) (hBw : B ≤ w.heap.size) :
    Calls Tryz.prog 118 #[.pointer (some ⟨b, 0, none⟩)] w fun e w' => e = .returned (.string ⟨#[]⟩) ∧ (Lib.IsBuilderF 185 5 B b [] w' ∧ Below B w w') := Any.Builder_String_empty_f Tryz.lays169 Tryz.Builder_Extra_169 B b w h hBw
open Go.RowKit in
theorem Tryz.Builder_String_any_f (B b : Nat) (l : List UInt8) (w : World) (h : Lib.IsBuilderF 185 5 B b (Lib.byteCells l) w) (hBw : B ≤ w.heap.size) :
    Calls Tryz.prog 118 #[.pointer (some ⟨b, 0, none⟩)] w fun e w' => e = .returned (.string ⟨l.toArray⟩) ∧ (Lib.IsBuilderF 185 5 B b (Lib.byteCells l) w' ∧ Below B w w') := Any.Builder_String_any_f Tryz.lays169 Tryz.Builder_Extra_169 B b l w h hBw
open Go.RowKit in
theorem Tryz.Builder_String_k (B b : Nat) (l : List UInt8) (w : World) (h : Lib.IsBuilderF 185 5 B b (Lib.byteCells l) w) (h0 : l ≠ []) :
    Calls Tryz.prog 118 #[.pointer (some ⟨b, 0, none⟩)] w fun e w' => e = .returned (.string ⟨l.toArray⟩) ∧ (Lib.IsBuilderF 185 5 B b (Lib.byteCells l) w' ∧ Below B w w' ∧ Lib.OthersKept 5 (some b) w w') := Any.Builder_String_k Tryz.lays169 Tryz.Builder_Extra_169 B b l w h h0
open Go.RowKit in
theorem Tryz.Builder_String_empty_k (B b : Nat) (w : World) (h : Lib.IsBuilderF 185 5 B b [] w) (hBw : B ≤ w.heap.size) :
    Calls Tryz.prog 118 #[.pointer (some ⟨b, 0, none⟩)] w fun e w' => e = .returned (.string ⟨#[]⟩) ∧ (Lib.IsBuilderF 185 5 B b [] w' ∧ Below B w w' ∧ Lib.OthersKept 5 (some b) w w') := Any.Builder_String_empty_k Tryz.lays169 Tryz.Builder_Extra_169 B b w h hBw
open Go.RowKit in
theorem Tryz.Builder_String_any_k (B b : Nat) (l : List UInt8) (w : World) (h : Lib.IsBuilderF 185 5 B b (Lib.byteCells l) w) (hBw : B ≤ w.heap.size) :
    Calls Tryz.prog 118 #[.pointer (some ⟨b, 0, none⟩)] w fun e w' => e = .returned (.string ⟨l.toArray⟩) ∧ (Lib.IsBuilderF 185 5 B b (Lib.byteCells l) w' ∧ Below B w w' ∧ Lib.OthersKept 5 (some b) w w') := Any.Builder_String_any_k Tryz.lays169 Tryz.Builder_Extra_169 B b l w h hBw
def Tryz.lays129_ren : Go.Shelf.Ren := ⟨fun | 129 => 141 | n => n, fun | 53 => 135 | 3 => 3 | 4 => 4 | 46 => 144 | 5 => 5 | 9 => 9 | n => n, fun | n => n⟩
theorem Tryz.lays129 : Go.Proofs.Lays.n129 Tryz.prog Tryz.lays129_ren := {
  mixed := by kernel_rfl
  f129 := Tryz.func141.trans (congrArg some (by kernel_rfl))
  t3 := Tryz.underlying3
  a3 := Tryz.isAgg3
  z3 := Tryz.sizeOf3
  v3 := Tryz.zeroValue3
  t4 := Tryz.underlying4
  a4 := Tryz.isAgg4
  z4 := Tryz.sizeOf4
  v4 := Tryz.zeroValue4
  t5 := Tryz.underlying5
  a5 := Tryz.isAgg5
  z5 := Tryz.sizeOf5
  v5 := Tryz.zeroValue5
  t9 := Tryz.underlying9
  a9 := Tryz.isAgg9
  z9 := Tryz.sizeOf9
  v9 := Tryz.zeroValue9
  t46 := Tryz.underlying144
  a46 := Tryz.isAgg144
  z46 := Tryz.sizeOf144
  v46 := Tryz.zeroValue144
  t53 := Tryz.underlying135
  a53 := Tryz.isAgg135
  z53 := Tryz.sizeOf135
  v53 := Tryz.zeroValue135 }
theorem Tryz.bits_Len64 (x : Int) (w : World) (h0 : 0 ≤ x) (h1 : x ≤ 18446744073709551615) :
    Calls Tryz.prog 141 #[.int .u64 x] w fun e w' => e = .returned (.int .i64 (Lib.bitLen x.toNat)) ∧ w' = w := Any.bits_Len64 Tryz.lays129 x w h0 h1
def Tryz.lays317_ren : Go.Shelf.Ren := ⟨fun | 317 => 140 | n => n, fun | 3 => 3 | 46 => 144 | n => n, fun | n => n⟩
theorem Tryz.lays317 : Go.Proofs.Lays.n317 Tryz.prog Tryz.lays317_ren := {
  mixed := by kernel_rfl
  f317 := Tryz.func140.trans (congrArg some (by kernel_rfl))
  t3 := Tryz.underlying3
  a3 := Tryz.isAgg3
  z3 := Tryz.sizeOf3
  v3 := Tryz.zeroValue3
  t46 := Tryz.underlying144
  a46 := Tryz.isAgg144
  z46 := Tryz.sizeOf144
  v46 := Tryz.zeroValue144 }
open Go.Lib in
theorem Tryz.internal_strconv_log10Pow2 (x : Nat) (h : x ≤ 64) (w : World) :
    Calls Tryz.prog 140 #[.int .i64 x] w fun e w' => e = .returned (.int .i64 (Lib.l10 x)) ∧ w' = w := Any.internal_strconv_log10Pow2 Tryz.lays317 x h w
def Tryz.lays318_ren : Go.Shelf.Ren := ⟨fun | 318 => 142 | n => n, fun | 3 => 3 | 4 => 4 | n => n, fun | n => n⟩
theorem Tryz.lays318 : Go.Proofs.Lays.n318 Tryz.prog Tryz.lays318_ren := {
  mixed := by kernel_rfl
  f318 := Tryz.func142.trans (congrArg some (by kernel_rfl))
  t3 := Tryz.underlying3
  a3 := Tryz.isAgg3
  z3 := Tryz.sizeOf3
  v3 := Tryz.zeroValue3
  t4 := Tryz.underlying4
  a4 := Tryz.isAgg4
  z4 := Tryz.sizeOf4
  v4 := Tryz.zeroValue4 }
open Go.Lib in
theorem Tryz.internal_strconv_bool2_int (b : Bool) (w : World) :
    Calls Tryz.prog 142 #[.bool b] w fun e w' => e = .returned (.int .i64 (if b then 1 else 0)) ∧ w' = w := Any.internal_strconv_bool2_int Tryz.lays318 b w
def Tryz.lays283_ren : Go.Shelf.Ren := ⟨fun | 283 => 136 | n => n, fun | 3 => 3 | 9 => 9 | 4 => 4 | n => n, fun | n => n⟩
theorem Tryz.lays283 : Go.Proofs.Lays.n283 Tryz.prog Tryz.lays283_ren := {
  mixed := by kernel_rfl
  f283 := Tryz.func136.trans (congrArg some (by kernel_rfl))
  t3 := Tryz.underlying3
  a3 := Tryz.isAgg3
  z3 := Tryz.sizeOf3
  v3 := Tryz.zeroValue3
  t4 := Tryz.underlying4
  a4 := Tryz.isAgg4
  z4 := Tryz.sizeOf4
  v4 := Tryz.zeroValue4
  t9 := Tryz.underlying9
  a9 := Tryz.isAgg9
  z9 := Tryz.sizeOf9
  v9 := Tryz.zeroValue9 }
open Go.Lib in
theorem Tryz.internal_strconv_small (i : Nat) (h : i < 100) (w : World) :
    Calls Tryz.prog 136 #[.int .i64 i] w fun e w' => e = .returned (.string ⟨(Lib.decDigits i).toArray⟩) ∧ w' = w := Any.internal_strconv_small Tryz.lays283 i h w
def Tryz.laysM284_ren : Go.Shelf.Ren := ⟨fun | 284 => 137 | 129 => 141 | 317 => 140 | 318 => 142 | n => n, fun | 53 => 135 | 3 => 3 | 212 => 211 | 0 => 0 | 4 => 4 | 46 => 144 | 5 => 5 | 9 => 9 | n => n, fun | 17 => 8 | n => n⟩
theorem Tryz.laysM284 : Go.Proofs.LaysM.n284 Tryz.prog Tryz.laysM284_ren := {
  mixed := by kernel_rfl
  f129 := Tryz.func141.trans (congrArg some (by kernel_rfl))
  f284 := Tryz.func137.trans (congrArg some (by kernel_rfl))
  f317 := Tryz.func140.trans (congrArg some (by kernel_rfl))
  f318 := Tryz.func142.trans (congrArg some (by kernel_rfl))
  t0 := Tryz.underlying0
  a0 := Tryz.isAgg0
  z0 := Tryz.sizeOf0
  v0 := Tryz.zeroValue0
  t3 := Tryz.underlying3
  a3 := Tryz.isAgg3
  z3 := Tryz.sizeOf3
  v3 := Tryz.zeroValue3
  t4 := Tryz.underlying4
  a4 := Tryz.isAgg4
  z4 := Tryz.sizeOf4
  v4 := Tryz.zeroValue4
  t5 := Tryz.underlying5
  a5 := Tryz.isAgg5
  z5 := Tryz.sizeOf5
  v5 := Tryz.zeroValue5
  t9 := Tryz.underlying9
  a9 := Tryz.isAgg9
  z9 := Tryz.sizeOf9
  v9 := Tryz.zeroValue9
  t46 := Tryz.underlying144
  a46 := Tryz.isAgg144
  z46 := Tryz.sizeOf144
  v46 := Tryz.zeroValue144
  t53 := Tryz.underlying135
  a53 := Tryz.isAgg135
  z53 := Tryz.sizeOf135
  v53 := Tryz.zeroValue135
  t212 := Tryz.underlying211
  a212 := Tryz.isAgg211
  z212 := Tryz.sizeOf211
  v212 := Tryz.zeroValue211
  g17 := by kernel_rfl
  i0 := by kernel_rfl
  i3 := by kernel_rfl
  i4 := by kernel_rfl
  i5 := by kernel_rfl
  i9 := by kernel_rfl
  i46 := by kernel_rfl
  i53 := by kernel_rfl
  i212 := by kernel_rfl
  m17 := by kernel_rfl }
open Go.Lib in
theorem Tryz.internal_strconv_numDigits (u : Nat) (h1 : 1 ≤ u) (h2 : u < 18446744073709551616) (w : World) (htab : Lib.TabIs Tryz.prog w "internal/strconv.uint64pow10" .u64 Lib.pow10Tab) :
    Calls Tryz.prog 137 #[.int .u64 u] w fun e w' => e = .returned (.int .i64 (Lib.nDigits u)) ∧ w' = w := Any.internal_strconv_numDigits Tryz.laysM284 u h1 h2 w htab
def Tryz.lays285_ren : Go.Shelf.Ren := ⟨fun | 285 => 138 | n => n, fun | 37 => 33 | 53 => 135 | 3 => 3 | 4 => 4 | 51 => 130 | 9 => 9 | 5 => 5 | 0 => 0 | n => n, fun | n => n⟩
theorem Tryz.lays285 : Go.Proofs.Lays.n285 Tryz.prog Tryz.lays285_ren := {
  mixed := by kernel_rfl
  f285 := Tryz.func138.trans (congrArg some (by kernel_rfl))
  t0 := Tryz.underlying0
  a0 := Tryz.isAgg0
  z0 := Tryz.sizeOf0
  v0 := Tryz.zeroValue0
  t3 := Tryz.underlying3
  a3 := Tryz.isAgg3
  z3 := Tryz.sizeOf3
  v3 := Tryz.zeroValue3
  t4 := Tryz.underlying4
  a4 := Tryz.isAgg4
  z4 := Tryz.sizeOf4
  v4 := Tryz.zeroValue4
  t5 := Tryz.underlying5
  a5 := Tryz.isAgg5
  z5 := Tryz.sizeOf5
  v5 := Tryz.zeroValue5
  t9 := Tryz.underlying9
  a9 := Tryz.isAgg9
  z9 := Tryz.sizeOf9
  v9 := Tryz.zeroValue9
  t37 := Tryz.underlying33
  a37 := Tryz.isAgg33
  z37 := Tryz.sizeOf33
  v37 := Tryz.zeroValue33
  t51 := Tryz.underlying130
  a51 := Tryz.isAgg130
  z51 := Tryz.sizeOf130
  v51 := Tryz.zeroValue130
  t53 := Tryz.underlying135
  a53 := Tryz.isAgg135
  z53 := Tryz.sizeOf135
  v53 := Tryz.zeroValue135 }
open Go.RowKit Go.Sort Go.Lib in
theorem Tryz.internal_strconv_formatBase10 (blk off cap : Nat) (u : Nat) (d : Array UInt8) (w : World) (hH : Holds (fun (b : UInt8) => Value.int .u8 (b.toNat : Int)) w blk off d) (hu : u < 10 ^ d.size) (hu64 : u < 18446744073709551616) (hsz : d.size < 4611686018427387904) :
    Calls Tryz.prog 138 #[.slice (some ⟨blk, off, none⟩) d.size cap, .int .u64 u] w fun e w' =>
      e = .returned (.tuple #[]) ∧ ∃ (n v' : Nat) (dk : Array UInt8), w' = (putRow (fun (b : UInt8) => Value.int .u8 (b.toNat : Int)) w blk off dk).drewN n ∧ FmtInv d.size u 0 v' dk := Any.internal_strconv_formatBase10 Tryz.lays285 blk off cap u d w hH hu hu64 hsz
def Tryz.laysM246_ren : Go.Shelf.Ren := ⟨fun | 246 => 133 | 283 => 136 | 284 => 137 | 285 => 138 | 286 => 139 | 129 => 141 | 317 => 140 | 318 => 142 | 319 => 143 | 320 => 144 | 337 => 145 | 338 => 146 | n => n, fun | 2 => 2 | 3 => 3 | 9 => 9 | 4 => 4 | 171 => 205 | 0 => 0 | 53 => 135 | 37 => 33 | 5 => 5 | 173 => 208 | 212 => 211 | 51 => 130 | 20 => 20 | 213 => 212 | 46 => 144 | 232 => 215 | 233 => 216 | n => n, fun | 17 => 8 | 18 => 9 | 19 => 10 | n => n⟩
theorem Tryz.laysM246 : Go.Proofs.LaysM.n246 Tryz.prog Tryz.laysM246_ren := {
  mixed := by kernel_rfl
  f129 := Tryz.func141.trans (congrArg some (by kernel_rfl))
  f246 := Tryz.func133.trans (congrArg some (by kernel_rfl))
  f283 := Tryz.func136.trans (congrArg some (by kernel_rfl))
  f284 := Tryz.func137.trans (congrArg some (by kernel_rfl))
  f285 := Tryz.func138.trans (congrArg some (by kernel_rfl))
  f286 := Tryz.func139.trans (congrArg some (by kernel_rfl))
  f317 := Tryz.func140.trans (congrArg some (by kernel_rfl))
  f318 := Tryz.func142.trans (congrArg some (by kernel_rfl))
  f319 := Tryz.func143.trans (congrArg some (by kernel_rfl))
  f320 := Tryz.func144.trans (congrArg some (by kernel_rfl))
  f337 := Tryz.func145.trans (congrArg some (by kernel_rfl))
  f338 := Tryz.func146.trans (congrArg some (by kernel_rfl))
  t0 := Tryz.underlying0
  a0 := Tryz.isAgg0
  z0 := Tryz.sizeOf0
  v0 := Tryz.zeroValue0
  t2 := Tryz.underlying2
  a2 := Tryz.isAgg2
  z2 := Tryz.sizeOf2
  v2 := Tryz.zeroValue2
  t3 := Tryz.underlying3
  a3 := Tryz.isAgg3
  z3 := Tryz.sizeOf3
  v3 := Tryz.zeroValue3
  t4 := Tryz.underlying4
  a4 := Tryz.isAgg4
  z4 := Tryz.sizeOf4
  v4 := Tryz.zeroValue4
  t5 := Tryz.underlying5
  a5 := Tryz.isAgg5
  z5 := Tryz.sizeOf5
  v5 := Tryz.zeroValue5
  t9 := Tryz.underlying9
  a9 := Tryz.isAgg9
  z9 := Tryz.sizeOf9
  v9 := Tryz.zeroValue9
  t20 := Tryz.underlying20
  a20 := Tryz.isAgg20
  z20 := Tryz.sizeOf20
  v20 := Tryz.zeroValue20
  t37 := Tryz.underlying33
  a37 := Tryz.isAgg33
  z37 := Tryz.sizeOf33
  v37 := Tryz.zeroValue33
  t46 := Tryz.underlying144
  a46 := Tryz.isAgg144
  z46 := Tryz.sizeOf144
  v46 := Tryz.zeroValue144
  t51 := Tryz.underlying130
  a51 := Tryz.isAgg130
  z51 := Tryz.sizeOf130
  v51 := Tryz.zeroValue130
  t53 := Tryz.underlying135
  a53 := Tryz.isAgg135
  z53 := Tryz.sizeOf135
  v53 := Tryz.zeroValue135
  t171 := Tryz.underlying205
  a171 := Tryz.isAgg205
  z171 := Tryz.sizeOf205
  v171 := Tryz.zeroValue205
  t173 := Tryz.underlying208
  a173 := Tryz.isAgg208
  z173 := Tryz.sizeOf208
  v173 := Tryz.zeroValue208
  t212 := Tryz.underlying211
  a212 := Tryz.isAgg211
  z212 := Tryz.sizeOf211
  v212 := Tryz.zeroValue211
  t213 := Tryz.underlying212
  a213 := Tryz.isAgg212
  z213 := Tryz.sizeOf212
  t232 := Tryz.underlying215
  a232 := Tryz.isAgg215
  z232 := Tryz.sizeOf215
  v232 := Tryz.zeroValue215
  t233 := Tryz.underlying216
  a233 := Tryz.isAgg216
  z233 := Tryz.sizeOf216
  v233 := Tryz.zeroValue216
  g17 := by kernel_rfl
  g18 := by kernel_rfl
  g19 := by kernel_rfl
  i0 := by kernel_rfl
  i2 := by kernel_rfl
  i3 := by kernel_rfl
  i4 := by kernel_rfl
  i5 := by kernel_rfl
  i9 := by kernel_rfl
  i20 := by kernel_rfl
  i37 := by kernel_rfl
  i46 := by kernel_rfl
  i51 := by kernel_rfl
  i53 := by kernel_rfl
  i171 := by kernel_rfl
  i173 := by kernel_rfl
  i212 := by kernel_rfl
  i232 := by kernel_rfl
  i233 := by kernel_rfl
  m17 := by kernel_rfl
  m18 := by kernel_rfl
  m19 := by kernel_rfl }
open Go.RowKit Go.Sort Go.Lib in
theorem Tryz.internal_strconv_FormatInt_10 (n : Int) (h0 : -9223372036854775808 ≤ n) (h1 : n ≤ 9223372036854775807) (w : World) (htab : Lib.TabIs Tryz.prog w "internal/strconv.uint64pow10" .u64 Lib.pow10Tab) :
    Calls Tryz.prog 133 #[.int .i64 n, .int .i64 10] w fun e w' => e = .returned (.string ⟨(Lib.itoa n).toArray⟩) ∧ ∃ k os, w' = grow (w.drewN k) os := Any.internal_strconv_FormatInt_10 Tryz.laysM246 n h0 h1 w htab
def Tryz.lays246_ren : Go.Shelf.Ren := ⟨fun | 246 => 133 | 283 => 136 | 284 => 137 | 285 => 138 | 286 => 139 | 129 => 141 | 317 => 140 | 318 => 142 | 319 => 143 | 320 => 144 | 337 => 145 | 338 => 146 | n => n, fun | 2 => 2 | 3 => 3 | 9 => 9 | 4 => 4 | 171 => 205 | 0 => 0 | 53 => 135 | 37 => 33 | 5 => 5 | 173 => 208 | 212 => 211 | 51 => 130 | 20 => 20 | 213 => 212 | 46 => 144 | 232 => 215 | 233 => 216 | n => n, fun | 17 => 8 | 18 => 9 | 19 => 10 | n => n⟩
theorem Tryz.lays246 : Go.Proofs.Lays.n246 Tryz.prog Tryz.lays246_ren := {
  mixed := by kernel_rfl
  f129 := Tryz.func141.trans (congrArg some (by kernel_rfl))
  f246 := Tryz.func133.trans (congrArg some (by kernel_rfl))
  f283 := Tryz.func136.trans (congrArg some (by kernel_rfl))
  f284 := Tryz.func137.trans (congrArg some (by kernel_rfl))
  f285 := Tryz.func138.trans (congrArg some (by kernel_rfl))
  f286 := Tryz.func139.trans (congrArg some (by kernel_rfl))
  f317 := Tryz.func140.trans (congrArg some (by kernel_rfl))
  f318 := Tryz.func142.trans (congrArg some (by kernel_rfl))
  f319 := Tryz.func143.trans (congrArg some (by kernel_rfl))
  f320 := Tryz.func144.trans (congrArg some (by kernel_rfl))
  f337 := Tryz.func145.trans (congrArg some (by kernel_rfl))
  f338 := Tryz.func146.trans (congrArg some (by kernel_rfl))
  t0 := Tryz.underlying0
  a0 := Tryz.isAgg0
  z0 := Tryz.sizeOf0
  v0 := Tryz.zeroValue0
  t2 := Tryz.underlying2
  a2 := Tryz.isAgg2
  z2 := Tryz.sizeOf2
  v2 := Tryz.zeroValue2
  t3 := Tryz.underlying3
  a3 := Tryz.isAgg3
  z3 := Tryz.sizeOf3
  v3 := Tryz.zeroValue3
  t4 := Tryz.underlying4
  a4 := Tryz.isAgg4
  z4 := Tryz.sizeOf4
  v4 := Tryz.zeroValue4
  t5 := Tryz.underlying5
  a5 := Tryz.isAgg5
  z5 := Tryz.sizeOf5
  v5 := Tryz.zeroValue5
  t9 := Tryz.underlying9
  a9 := Tryz.isAgg9
  z9 := Tryz.sizeOf9
  v9 := Tryz.zeroValue9
  t20 := Tryz.underlying20
  a20 := Tryz.isAgg20
  z20 := Tryz.sizeOf20
  v20 := Tryz.zeroValue20
  t37 := Tryz.underlying33
  a37 := Tryz.isAgg33
  z37 := Tryz.sizeOf33
  v37 := Tryz.zeroValue33
  t46 := Tryz.underlying144
  a46 := Tryz.isAgg144
  z46 := Tryz.sizeOf144
  v46 := Tryz.zeroValue144
  t51 := Tryz.underlying130
  a51 := Tryz.isAgg130
  z51 := Tryz.sizeOf130
  v51 := Tryz.zeroValue130
  t53 := Tryz.underlying135
  a53 := Tryz.isAgg135
  z53 := Tryz.sizeOf135
  v53 := Tryz.zeroValue135
  t171 := Tryz.underlying205
  a171 := Tryz.isAgg205
  z171 := Tryz.sizeOf205
  v171 := Tryz.zeroValue205
  t173 := Tryz.underlying208
  a173 := Tryz.isAgg208
  z173 := Tryz.sizeOf208
  v173 := Tryz.zeroValue208
  t212 := Tryz.underlying211
  a212 := Tryz.isAgg211
  z212 := Tryz.sizeOf211
  v212 := Tryz.zeroValue211
  t213 := Tryz.underlying212
  a213 := Tryz.isAgg212
  z213 := Tryz.sizeOf212
  t232 := Tryz.underlying215
  a232 := Tryz.isAgg215
  z232 := Tryz.sizeOf215
  v232 := Tryz.zeroValue215
  t233 := Tryz.underlying216
  a233 := Tryz.isAgg216
  z233 := Tryz.sizeOf216
  v233 := Tryz.zeroValue216
  g17 := by kernel_rfl
  g18 := by kernel_rfl
  g19 := by kernel_rfl }
open Go.RowKit Go.Sort Go.Lib in
theorem Tryz.internal_strconv_FormatInt_10_small (i : Nat) (hi : i < 100) (w : World) :
    Calls Tryz.prog 133 #[.int .i64 i, .int .i64 10] w fun e w' => e = .returned (.string ⟨(Lib.decDigits i).toArray⟩) ∧ w' = w := Any.internal_strconv_FormatInt_10_small Tryz.lays246 i hi w
def Tryz.laysM243_ren : Go.Shelf.Ren := ⟨fun | 243 => 125 | 246 => 133 | 283 => 136 | 284 => 137 | 285 => 138 | 286 => 139 | 129 => 141 | 317 => 140 | 318 => 142 | 319 => 143 | 320 => 144 | 337 => 145 | 338 => 146 | n => n, fun | 3 => 3 | 9 => 9 | 2 => 2 | 4 => 4 | 171 => 205 | 0 => 0 | 53 => 135 | 37 => 33 | 5 => 5 | 173 => 208 | 212 => 211 | 51 => 130 | 20 => 20 | 213 => 212 | 46 => 144 | 232 => 215 | 233 => 216 | n => n, fun | 17 => 8 | 18 => 9 | 19 => 10 | n => n⟩
theorem Tryz.laysM243 : Go.Proofs.LaysM.n243 Tryz.prog Tryz.laysM243_ren := {
  mixed := by kernel_rfl
  f129 := Tryz.func141.trans (congrArg some (by kernel_rfl))
  f243 := Tryz.func125.trans (congrArg some (by kernel_rfl))
  f246 := Tryz.func133.trans (congrArg some (by kernel_rfl))
  f283 := Tryz.func136.trans (congrArg some (by kernel_rfl))
  f284 := Tryz.func137.trans (congrArg some (by kernel_rfl))
  f285 := Tryz.func138.trans (congrArg some (by kernel_rfl))
  f286 := Tryz.func139.trans (congrArg some (by kernel_rfl))
  f317 := Tryz.func140.trans (congrArg some (by kernel_rfl))
  f318 := Tryz.func142.trans (congrArg some (by kernel_rfl))
  f319 := Tryz.func143.trans (congrArg some (by kernel_rfl))
  f320 := Tryz.func144.trans (congrArg some (by kernel_rfl))
  f337 := Tryz.func145.trans (congrArg some (by kernel_rfl))
  f338 := Tryz.func146.trans (congrArg some (by kernel_rfl))
  t0 := Tryz.underlying0
  a0 := Tryz.isAgg0
  z0 := Tryz.sizeOf0
  v0 := Tryz.zeroValue0
  t2 := Tryz.underlying2
  a2 := Tryz.isAgg2
  z2 := Tryz.sizeOf2
  v2 := Tryz.zeroValue2
  t3 := Tryz.underlying3
  a3 := Tryz.isAgg3
  z3 := Tryz.sizeOf3
  v3 := Tryz.zeroValue3
  t4 := Tryz.underlying4
  a4 := Tryz.isAgg4
  z4 := Tryz.sizeOf4
  v4 := Tryz.zeroValue4
  t5 := Tryz.underlying5
  a5 := Tryz.isAgg5
  z5 := Tryz.sizeOf5
  v5 := Tryz.zeroValue5
  t9 := Tryz.underlying9
  a9 := Tryz.isAgg9
  z9 := Tryz.sizeOf9
  v9 := Tryz.zeroValue9
  t20 := Tryz.underlying20
  a20 := Tryz.isAgg20
  z20 := Tryz.sizeOf20
  v20 := Tryz.zeroValue20
  t37 := Tryz.underlying33
  a37 := Tryz.isAgg33
  z37 := Tryz.sizeOf33
  v37 := Tryz.zeroValue33
  t46 := Tryz.underlying144
  a46 := Tryz.isAgg144
  z46 := Tryz.sizeOf144
  v46 := Tryz.zeroValue144
  t51 := Tryz.underlying130
  a51 := Tryz.isAgg130
  z51 := Tryz.sizeOf130
  v51 := Tryz.zeroValue130
  t53 := Tryz.underlying135
  a53 := Tryz.isAgg135
  z53 := Tryz.sizeOf135
  v53 := Tryz.zeroValue135
  t171 := Tryz.underlying205
  a171 := Tryz.isAgg205
  z171 := Tryz.sizeOf205
  v171 := Tryz.zeroValue205
  t173 := Tryz.underlying208
  a173 := Tryz.isAgg208
  z173 := Tryz.sizeOf208
  v173 := Tryz.zeroValue208
  t212 := Tryz.underlying211
  a212 := Tryz.isAgg211
  z212 := Tryz.sizeOf211
  v212 := Tryz.zeroValue211
  t213 := Tryz.underlying212
  a213 := Tryz.isAgg212
  z213 := Tryz.sizeOf212
  t232 := Tryz.underlying215
  a232 := Tryz.isAgg215
  z232 := Tryz.sizeOf215
  v232 := Tryz.zeroValue215
  t233 := Tryz.underlying216
  a233 := Tryz.isAgg216
  z233 := Tryz.sizeOf216
  v233 := Tryz.zeroValue216
  g17 := by kernel_rfl
  g18 := by kernel_rfl
  g19 := by kernel_rfl
  i0 := by kernel_rfl
  i2 := by kernel_rfl
  i3 := by kernel_rfl
  i4 := by kernel_rfl
  i5 := by kernel_rfl
  i9 := by kernel_rfl
  i20 := by kernel_rfl
  i37 := by kernel_rfl
  i46 := by kernel_rfl
  i51 := by kernel_rfl
  i53 := by kernel_rfl
  i171 := by kernel_rfl
  i173 := by kernel_rfl
  i212 := by kernel_rfl
  i232 := by kernel_rfl
  i233 := by kernel_rfl
  m17 := by kernel_rfl
  m18 := by kernel_rfl
  m19 := by kernel_rfl }
open Go.RowKit Go.Sort Go.Lib in
theorem Tryz.internal_strconv_Itoa (n : Int) (h0 : -9223372036854775808 ≤ n) (h1 : n ≤ 9223372036854775807) (w : World) (htab : Lib.TabIs Tryz.prog w "internal/strconv.uint64pow10" .u64 Lib.pow10Tab) :
    Calls Tryz.prog 125 #[.int .i64 n] w fun e w' => e = .returned (.string ⟨(Lib.itoa n).toArray⟩) ∧ ∃ k os, w' = grow (w.drewN k) os := Any.internal_strconv_Itoa Tryz.laysM243 n h0 h1 w htab
def Tryz.lays243_ren : Go.Shelf.Ren := ⟨fun | 243 => 125 | 246 => 133 | 283 => 136 | 284 => 137 | 285 => 138 | 286 => 139 | 129 => 141 | 317 => 140 | 318 => 142 | 319 => 143 | 320 => 144 | 337 => 145 | 338 => 146 | n => n, fun | 3 => 3 | 9 => 9 | 2 => 2 | 4 => 4 | 171 => 205 | 0 => 0 | 53 => 135 | 37 => 33 | 5 => 5 | 173 => 208 | 212 => 211 | 51 => 130 | 20 => 20 | 213 => 212 | 46 => 144 | 232 => 215 | 233 => 216 | n => n, fun | 17 => 8 | 18 => 9 | 19 => 10 | n => n⟩
theorem Tryz.lays243 : Go.Proofs.Lays.n243 Tryz.prog Tryz.lays243_ren := {
  mixed := by kernel_rfl
  f129 := Tryz.func141.trans (congrArg some (by kernel_rfl))
  f243 := Tryz.func125.trans (congrArg some (by kernel_rfl))
  f246 := Tryz.func133.trans (congrArg some (by kernel_rfl))
  f283 := Tryz.func136.trans (congrArg some (by kernel_rfl))
  f284 := Tryz.func137.trans (congrArg some (by kernel_rfl))
  f285 := Tryz.func138.trans (congrArg some (by kernel_rfl))
  f286 := Tryz.func139.trans (congrArg some (by kernel_rfl))
  f317 := Tryz.func140.trans (congrArg some (by kernel_rfl))
  f318 := Tryz.func142.trans (congrArg some (by kernel_rfl))
  f319 := Tryz.func143.trans (congrArg some (by kernel_rfl))
  f320 := Tryz.func144.trans (congrArg some (by kernel_rfl))
  f337 := Tryz.func145.trans (congrArg some (by kernel_rfl))
  f338 := Tryz.func146.trans (congrArg some (by kernel_rfl))
  t0 := Tryz.underlying0
  a0 := Tryz.isAgg0
  z0 := Tryz.sizeOf0
  v0 := Tryz.zeroValue0
  t2 := Tryz.underlying2
  a2 := Tryz.isAgg2
  z2 := Tryz.sizeOf2
  v2 := Tryz.zeroValue2
  t3 := Tryz.underlying3
  a3 := Tryz.isAgg3
  z3 := Tryz.sizeOf3
  v3 := Tryz.zeroValue3
  t4 := Tryz.underlying4
  a4 := Tryz.isAgg4
  z4 := Tryz.sizeOf4
  v4 := Tryz.zeroValue4
  t5 := Tryz.underlying5
  a5 := Tryz.isAgg5
  z5 := Tryz.sizeOf5
  v5 := Tryz.zeroValue5
  t9 := Tryz.underlying9
  a9 := Tryz.isAgg9
  z9 := Tryz.sizeOf9
  v9 := Tryz.zeroValue9
  t20 := Tryz.underlying20
  a20 := Tryz.isAgg20
  z20 := Tryz.sizeOf20
  v20 := Tryz.zeroValue20
  t37 := Tryz.underlying33
  a37 := Tryz.isAgg33
  z37 := Tryz.sizeOf33
  v37 := Tryz.zeroValue33
  t46 := Tryz.underlying144
  a46 := Tryz.isAgg144
  z46 := Tryz.sizeOf144
  v46 := Tryz.zeroValue144
  t51 := Tryz.underlying130
  a51 := Tryz.isAgg130
  z51 := Tryz.sizeOf130
  v51 := Tryz.zeroValue130
  t53 := Tryz.underlying135
  a53 := Tryz.isAgg135
  z53 := Tryz.sizeOf135
  v53 := Tryz.zeroValue135
  t171 := Tryz.underlying205
  a171 := Tryz.isAgg205
  z171 := Tryz.sizeOf205
  v171 := Tryz.zeroValue205
  t173 := Tryz.underlying208
  a173 := Tryz.isAgg208
  z173 := Tryz.sizeOf208
  v173 := Tryz.zeroValue208
  t212 := Tryz.underlying211
  a212 := Tryz.isAgg211
  z212 := Tryz.sizeOf211
  v212 := Tryz.zeroValue211
  t213 := Tryz.underlying212
  a213 := Tryz.isAgg212
  z213 := Tryz.sizeOf212
  t232 := Tryz.underlying215
  a232 := Tryz.isAgg215
  z232 := Tryz.sizeOf215
  v232 := Tryz.zeroValue215
  t233 := Tryz.underlying216
  a233 := Tryz.isAgg216
  z233 := Tryz.sizeOf216
  v233 := Tryz.zeroValue216
  g17 := by kernel_rfl
  g18 := by kernel_rfl
  g19 := by kernel_rfl }
open Go.RowKit Go.Sort Go.Lib in
theorem Tryz.internal_strconv_Itoa_small (i : Nat) (hi : i < 100) (w : World) :
    Calls Tryz.prog 125 #[.int .i64 i] w fun e w' => e = .returned (.string ⟨(Lib.decDigits i).toArray⟩) ∧ w' = w := Any.internal_strconv_Itoa_small Tryz.lays243 i hi w
def Tryz.laysM171_ren : Go.Shelf.Ren := ⟨fun | 171 => 112 | 243 => 125 | 246 => 133 | 283 => 136 | 284 => 137 | 285 => 138 | 286 => 139 | 129 => 141 | 317 => 140 | 318 => 142 | 319 => 143 | 320 => 144 | 337 => 145 | 338 => 146 | n => n, fun | 3 => 3 | 9 => 9 | 2 => 2 | 4 => 4 | 171 => 205 | 0 => 0 | 53 => 135 | 37 => 33 | 5 => 5 | 173 => 208 | 212 => 211 | 51 => 130 | 20 => 20 | 213 => 212 | 46 => 144 | 232 => 215 | 233 => 216 | n => n, fun | 17 => 8 | 18 => 9 | 19 => 10 | n => n⟩
theorem Tryz.laysM171 : Go.Proofs.LaysM.n171 Tryz.prog Tryz.laysM171_ren := {
  mixed := by kernel_rfl
  f129 := Tryz.func141.trans (congrArg some (by kernel_rfl))
  f171 := Tryz.func112.trans (congrArg some (by kernel_rfl))
  f243 := Tryz.func125.trans (congrArg some (by kernel_rfl))
  f246 := Tryz.func133.trans (congrArg some (by kernel_rfl))
  f283 := Tryz.func136.trans (congrArg some (by kernel_rfl))
  f284 := Tryz.func137.trans (congrArg some (by kernel_rfl))
  f285 := Tryz.func138.trans (congrArg some (by kernel_rfl))
  f286 := Tryz.func139.trans (congrArg some (by kernel_rfl))
  f317 := Tryz.func140.trans (congrArg some (by kernel_rfl))
  f318 := Tryz.func142.trans (congrArg some (by kernel_rfl))
  f319 := Tryz.func143.trans (congrArg some (by kernel_rfl))
  f320 := Tryz.func144.trans (congrArg some (by kernel_rfl))
  f337 := Tryz.func145.trans (congrArg some (by kernel_rfl))
  f338 := Tryz.func146.trans (congrArg some (by kernel_rfl))
  t0 := Tryz.underlying0
  a0 := Tryz.isAgg0
  z0 := Tryz.sizeOf0
  v0 := Tryz.zeroValue0
  t2 := Tryz.underlying2
  a2 := Tryz.isAgg2
  z2 := Tryz.sizeOf2
  v2 := Tryz.zeroValue2
  t3 := Tryz.underlying3
  a3 := Tryz.isAgg3
  z3 := Tryz.sizeOf3
  v3 := Tryz.zeroValue3
  t4 := Tryz.underlying4
  a4 := Tryz.isAgg4
  z4 := Tryz.sizeOf4
  v4 := Tryz.zeroValue4
  t5 := Tryz.underlying5
  a5 := Tryz.isAgg5
  z5 := Tryz.sizeOf5
  v5 := Tryz.zeroValue5
  t9 := Tryz.underlying9
  a9 := Tryz.isAgg9
  z9 := Tryz.sizeOf9
  v9 := Tryz.zeroValue9
  t20 := Tryz.underlying20
  a20 := Tryz.isAgg20
  z20 := Tryz.sizeOf20
  v20 := Tryz.zeroValue20
  t37 := Tryz.underlying33
  a37 := Tryz.isAgg33
  z37 := Tryz.sizeOf33
  v37 := Tryz.zeroValue33
  t46 := Tryz.underlying144
  a46 := Tryz.isAgg144
  z46 := Tryz.sizeOf144
  v46 := Tryz.zeroValue144
  t51 := Tryz.underlying130
  a51 := Tryz.isAgg130
  z51 := Tryz.sizeOf130
  v51 := Tryz.zeroValue130
  t53 := Tryz.underlying135
  a53 := Tryz.isAgg135
  z53 := Tryz.sizeOf135
  v53 := Tryz.zeroValue135
  t171 := Tryz.underlying205
  a171 := Tryz.isAgg205
  z171 := Tryz.sizeOf205
  v171 := Tryz.zeroValue205
  t173 := Tryz.underlying208
  a173 := Tryz.isAgg208
  z173 := Tryz.sizeOf208
  v173 := Tryz.zeroValue208
  t212 := Tryz.underlying211
  a212 := Tryz.isAgg211
  z212 := Tryz.sizeOf211
  v212 := Tryz.zeroValue211
  t213 := Tryz.underlying212
  a213 := Tryz.isAgg212
  z213 := Tryz.sizeOf212
  t232 := Tryz.underlying215
  a232 := Tryz.isAgg215
  z232 := Tryz.sizeOf215
  v232 := Tryz.zeroValue215
  t233 := Tryz.underlying216
  a233 := Tryz.isAgg216
  z233 := Tryz.sizeOf216
  v233 := Tryz.zeroValue216
  g17 := by kernel_rfl
  g18 := by kernel_rfl
  g19 := by kernel_rfl
  i0 := by kernel_rfl
  i2 := by kernel_rfl
  i3 := by kernel_rfl
  i4 := by kernel_rfl
  i5 := by kernel_rfl
  i9 := by kernel_rfl
  i20 := by kernel_rfl
  i37 := by kernel_rfl
  i46 := by kernel_rfl
  i51 := by kernel_rfl
  i53 := by kernel_rfl
  i171 := by kernel_rfl
  i173 := by kernel_rfl
  i212 := by kernel_rfl
  i232 := by kernel_rfl
  i233 := by kernel_rfl
  m17 := by kernel_rfl
  m18 := by kernel_rfl
  m19 := by kernel_rfl }
open Go.RowKit Go.Sort Go.Lib in
theorem Tryz.strconv_Itoa (n : Int) (h0 : -9223372036854775808 ≤ n) (h1 : n ≤ 9223372036854775807) (w : World) (htab : Lib.TabIs Tryz.prog w "internal/strconv.uint64pow10" .u64 Lib.pow10Tab) :
    Calls Tryz.prog 112 #[.int .i64 n] w fun e w' => e = .returned (.string ⟨(Lib.itoa n).toArray⟩) ∧ ∃ k os, w' = grow (w.drewN k) os := Any.strconv_Itoa Tryz.laysM171 n h0 h1 w htab
def Tryz.lays171_ren : Go.Shelf.Ren := ⟨fun | 171 => 112 | 243 => 125 | 246 => 133 | 283 => 136 | 284 => 137 | 285 => 138 | 286 => 139 | 129 => 141 | 317 => 140 | 318 => 142 | 319 => 143 | 320 => 144 | 337 => 145 | 338 => 146 | n => n, fun | 3 => 3 | 9 => 9 | 2 => 2 | 4 => 4 | 171 => 205 | 0 => 0 | 53 => 135 | 37 => 33 | 5 => 5 | 173 => 208 | 212 => 211 | 51 => 130 | 20 => 20 | 213 => 212 | 46 => 144 | 232 => 215 | 233 => 216 | n => n, fun | 17 => 8 | 18 => 9 | 19 => 10 | n => n⟩
theorem Tryz.lays171 : Go.Proofs.Lays.n171 Tryz.prog Tryz.lays171_ren := {
  mixed := by kernel_rfl
  f129 := Tryz.func141.trans (congrArg some (by kernel_rfl))
  f171 := Tryz.func112.trans (congrArg some (by kernel_rfl))
  f243 := Tryz.func125.trans (congrArg some (by kernel_rfl))
  f246 := Tryz.func133.trans (congrArg some (by kernel_rfl))
  f283 := Tryz.func136.trans (congrArg some (by kernel_rfl))
  f284 := Tryz.func137.trans (congrArg some (by kernel_rfl))
  f285 := Tryz.func138.trans (congrArg some (by kernel_rfl))
  f286 := Tryz.func139.trans (congrArg some (by kernel_rfl))
  f317 := Tryz.func140.trans (congrArg some (by kernel_rfl))
  f318 := Tryz.func142.trans (congrArg some (by kernel_rfl))
  f319 := Tryz.func143.trans (congrArg some (by kernel_rfl))
  f320 := Tryz.func144.trans (congrArg some (by kernel_rfl))
  f337 := Tryz.func145.trans (congrArg some (by kernel_rfl))
  f338 := Tryz.func146.trans (congrArg some (by kernel_rfl))
  t0 := Tryz.underlying0
  a0 := Tryz.isAgg0
  z0 := Tryz.sizeOf0
  v0 := Tryz.zeroValue0
  t2 := Tryz.underlying2
  a2 := Tryz.isAgg2
  z2 := Tryz.sizeOf2
  v2 := Tryz.zeroValue2
  t3 := Tryz.underlying3
  a3 := Tryz.isAgg3
  z3 := Tryz.sizeOf3
  v3 := Tryz.zeroValue3
  t4 := Tryz.underlying4
  a4 := Tryz.isAgg4
  z4 := Tryz.sizeOf4
  v4 := Tryz.zeroValue4
  t5 := Tryz.underlying5
  a5 := Tryz.isAgg5
  z5 := Tryz.sizeOf5
  v5 := Tryz.zeroValue5
  t9 := Tryz.underlying9
  a9 := Tryz.isAgg9
  z9 := Tryz.sizeOf9
  v9 := Tryz.zeroValue9
  t20 := Tryz.underlying20
  a20 := Tryz.isAgg20
  z20 := Tryz.sizeOf20
  v20 := Tryz.zeroValue20
  t37 := Tryz.underlying33
  a37 := Tryz.isAgg33
  z37 := Tryz.sizeOf33
  v37 := Tryz.zeroValue33
  t46 := Tryz.underlying144
  a46 := Tryz.isAgg144
  z46 := Tryz.sizeOf144
  v46 := Tryz.zeroValue144
  t51 := Tryz.underlying130
  a51 := Tryz.isAgg130
  z51 := Tryz.sizeOf130
  v51 := Tryz.zeroValue130
  t53 := Tryz.underlying135
  a53 := Tryz.isAgg135
  z53 := Tryz.sizeOf135
  v53 := Tryz.zeroValue135
  t171 := Tryz.underlying205
  a171 := Tryz.isAgg205
  z171 := Tryz.sizeOf205
  v171 := Tryz.zeroValue205
  t173 := Tryz.underlying208
  a173 := Tryz.isAgg208
  z173 := Tryz.sizeOf208
  v173 := Tryz.zeroValue208
  t212 := Tryz.underlying211
  a212 := Tryz.isAgg211
  z212 := Tryz.sizeOf211
  v212 := Tryz.zeroValue211
  t213 := Tryz.underlying212
  a213 := Tryz.isAgg212
  z213 := Tryz.sizeOf212
  t232 := Tryz.underlying215
  a232 := Tryz.isAgg215
  z232 := Tryz.sizeOf215
  v232 := Tryz.zeroValue215
  t233 := Tryz.underlying216
  a233 := Tryz.isAgg216
  z233 := Tryz.sizeOf216
  v233 := Tryz.zeroValue216
  g17 := by kernel_rfl
  g18 := by kernel_rfl
  g19 := by kernel_rfl }
open Go.RowKit Go.Sort Go.Lib in
theorem Tryz.strconv_Itoa_small (i : Nat) (hi : i < 100) (w : World) :
    Calls Tryz.prog 112 #[.int .i64 i] w fun e w' => e = .returned (.string ⟨(Lib.decDigits i).toArray⟩) ∧ w' = w := Any.strconv_Itoa_small Tryz.lays171 i hi w
def Tryz.laysM181_ren : Go.Shelf.Ren := ⟨fun | 181 => 122 | n => n, fun | 130 => 177 | 3 => 3 | 0 => 0 | 93 => 165 | 37 => 33 | 91 => 163 | 5 => 5 | n => n, fun | n => n⟩
theorem Tryz.laysM181 : Go.Proofs.LaysM.n181 Tryz.prog Tryz.laysM181_ren := {
  mixed := by kernel_rfl
  f181 := Tryz.func122.trans (congrArg some (by kernel_rfl))
  t0 := Tryz.underlying0
  a0 := Tryz.isAgg0
  z0 := Tryz.sizeOf0
  v0 := Tryz.zeroValue0
  t3 := Tryz.underlying3
  a3 := Tryz.isAgg3
  z3 := Tryz.sizeOf3
  v3 := Tryz.zeroValue3
  t37 := Tryz.underlying33
  a37 := Tryz.isAgg33
  z37 := Tryz.sizeOf33
  v37 := Tryz.zeroValue33
  t93 := Tryz.underlying165
  a93 := Tryz.isAgg165
  z93 := Tryz.sizeOf165
  v93 := Tryz.zeroValue165
  t130 := Tryz.underlying177
  a130 := Tryz.isAgg177
  z130 := Tryz.sizeOf177
  v130 := Tryz.zeroValue177
  t5 := Tryz.underlying5
  a5 := Tryz.isAgg5
  z5 := Tryz.sizeOf5
  v5 := Tryz.zeroValue5
  t91 := Tryz.underlying163
  a91 := Tryz.isAgg163
  z91 := Tryz.sizeOf163
  v91 := Tryz.zeroValue163
  i0 := by kernel_rfl
  i3 := by kernel_rfl
  i5 := by kernel_rfl
  i37 := by kernel_rfl
  i91 := by kernel_rfl
  i93 := by kernel_rfl
  i130 := by kernel_rfl }
open Go.RowKit in
theorem Tryz.Buffer_Len (B b : Nat) (bs : List Value) (w : World) (h : Lib.IsBuffer 165 5 B b bs w) :
    Calls Tryz.prog 122 #[.pointer (some ⟨b, 0, none⟩)] w fun e w' => e = .returned (.int .i64 bs.length) ∧ ∃ n, w' = w.drewN n := Any.Buffer_Len Tryz.laysM181 B b bs w h
def Tryz.laysM251_ren : Go.Shelf.Ren := ⟨fun | 251 => 110 | n => n, fun | 130 => 177 | 3 => 3 | 4 => 4 | 0 => 0 | 93 => 165 | 37 => 33 | 91 => 163 | 5 => 5 | n => n, fun | n => n⟩
theorem Tryz.laysM251 : Go.Proofs.LaysM.n251 Tryz.prog Tryz.laysM251_ren := {
  mixed := by kernel_rfl
  f251 := Tryz.func110.trans (congrArg some (by kernel_rfl))
  t0 := Tryz.underlying0
  a0 := Tryz.isAgg0
  z0 := Tryz.sizeOf0
  v0 := Tryz.zeroValue0
  t3 := Tryz.underlying3
  a3 := Tryz.isAgg3
  z3 := Tryz.sizeOf3
  v3 := Tryz.zeroValue3
  t4 := Tryz.underlying4
  a4 := Tryz.isAgg4
  z4 := Tryz.sizeOf4
  v4 := Tryz.zeroValue4
  t37 := Tryz.underlying33
  a37 := Tryz.isAgg33
  z37 := Tryz.sizeOf33
  v37 := Tryz.zeroValue33
  t93 := Tryz.underlying165
  a93 := Tryz.isAgg165
  z93 := Tryz.sizeOf165
  v93 := Tryz.zeroValue165
  t130 := Tryz.underlying177
  a130 := Tryz.isAgg177
  z130 := Tryz.sizeOf177
  v130 := Tryz.zeroValue177
  t5 := Tryz.underlying5
  a5 := Tryz.isAgg5
  z5 := Tryz.sizeOf5
  v5 := Tryz.zeroValue5
  t91 := Tryz.underlying163
  a91 := Tryz.isAgg163
  z91 := Tryz.sizeOf163
  v91 := Tryz.zeroValue163
  i0 := by kernel_rfl
  i3 := by kernel_rfl
  i4 := by kernel_rfl
  i5 := by kernel_rfl
  i37 := by kernel_rfl
  i91 := by kernel_rfl
  i93 := by kernel_rfl
  i130 := by kernel_rfl }
open Go.RowKit in
theorem Tryz.Buffer_tryGrow_room (b : Nat) (ao : Option Addr) (l cap n : Nat) (w : World) (c0 : w.cell? ⟨b, 0, none⟩ = some (.slice ao l cap)) (f0 : w.frozen? ⟨b, 0, none⟩ = false) (hlc : l ≤ cap) (hcap : cap ≤ maxLen) (hn : n ≤ cap - l) :
    Calls Tryz.prog 110 #[.pointer (some ⟨b, 0, none⟩), .int .i64 n] w fun e w' => e = .returned (.tuple #[.int .i64 l, .bool true]) ∧ w' = w.setCell ⟨b, 0, none⟩ (.slice ao (l + n) cap) := Any.Buffer_tryGrow_room Tryz.laysM251 b ao l cap n w c0 f0 hlc hcap hn
open Go.RowKit in
theorem Tryz.Buffer_tryGrow_none (b : Nat) (ao : Option Addr) (l cap n : Nat) (w : World) (c0 : w.cell? ⟨b, 0, none⟩ = some (.slice ao l cap)) (hlc : l ≤ cap) (hcap : cap ≤ maxLen) (hn : cap - l < n) :
    Calls Tryz.prog 110 #[.pointer (some ⟨b, 0, none⟩), .int .i64 n] w fun e w' => e = .returned (.tuple #[.int .i64 0, .bool false]) ∧ w' = w := Any.Buffer_tryGrow_none Tryz.laysM251 b ao l cap n w c0 hlc hcap hn
def Tryz.laysM324_ren : Go.Shelf.Ren := ⟨fun | 324 => 132 | n => n, fun | 20 => 20 | 4 => 4 | 75 => 53 | 0 => 0 | 80 => 141 | 9 => 9 | n => n, fun | 14 => 6 | n => n⟩
theorem Tryz.laysM324 : Go.Proofs.LaysM.n324 Tryz.prog Tryz.laysM324_ren := {
  mixed := by kernel_rfl
  f324 := Tryz.func132.trans (congrArg some (by kernel_rfl))
  t0 := Tryz.underlying0
  a0 := Tryz.isAgg0
  z0 := Tryz.sizeOf0
  v0 := Tryz.zeroValue0
  t4 := Tryz.underlying4
  a4 := Tryz.isAgg4
  z4 := Tryz.sizeOf4
  v4 := Tryz.zeroValue4
  t20 := Tryz.underlying20
  a20 := Tryz.isAgg20
  z20 := Tryz.sizeOf20
  v20 := Tryz.zeroValue20
  t75 := Tryz.underlying53
  a75 := Tryz.isAgg53
  z75 := Tryz.sizeOf53
  v75 := Tryz.zeroValue53
  g14 := by kernel_rfl
  t9 := Tryz.underlying9
  a9 := Tryz.isAgg9
  z9 := Tryz.sizeOf9
  v9 := Tryz.zeroValue9
  t80 := Tryz.underlying141
  a80 := Tryz.isAgg141
  z80 := Tryz.sizeOf141
  v80 := Tryz.zeroValue141
  i0 := by kernel_rfl
  i4 := by kernel_rfl
  i9 := by kernel_rfl
  i20 := by kernel_rfl
  i75 := by kernel_rfl
  i80 := by kernel_rfl
  m14 := by kernel_rfl }
theorem Tryz.growSlice_catch_idle (w : World) :
    CallsD Tryz.prog 132 #[] .returning w fun e u' w' => e = .returned (.tuple #[]) ∧ u' = .returning ∧ w' = w := Any.growSlice_catch_idle Tryz.laysM324 w
def Tryz.laysM290_ren : Go.Shelf.Ren := ⟨fun | 290 => 124 | 324 => 132 | n => n, fun | 37 => 33 | 3 => 3 | 0 => 0 | 4 => 4 | 20 => 20 | 75 => 53 | 5 => 5 | 80 => 141 | 9 => 9 | n => n, fun | 14 => 6 | n => n⟩
theorem Tryz.laysM290 : Go.Proofs.LaysM.n290 Tryz.prog Tryz.laysM290_ren := {
  mixed := by kernel_rfl
  f290 := Tryz.func124.trans (congrArg some (by kernel_rfl))
  f324 := Tryz.func132.trans (congrArg some (by kernel_rfl))
  t0 := Tryz.underlying0
  a0 := Tryz.isAgg0
  z0 := Tryz.sizeOf0
  v0 := Tryz.zeroValue0
  t3 := Tryz.underlying3
  a3 := Tryz.isAgg3
  z3 := Tryz.sizeOf3
  v3 := Tryz.zeroValue3
  t4 := Tryz.underlying4
  a4 := Tryz.isAgg4
  z4 := Tryz.sizeOf4
  v4 := Tryz.zeroValue4
  t20 := Tryz.underlying20
  a20 := Tryz.isAgg20
  z20 := Tryz.sizeOf20
  v20 := Tryz.zeroValue20
  t37 := Tryz.underlying33
  a37 := Tryz.isAgg33
  z37 := Tryz.sizeOf33
  v37 := Tryz.zeroValue33
  t75 := Tryz.underlying53
  a75 := Tryz.isAgg53
  z75 := Tryz.sizeOf53
  v75 := Tryz.zeroValue53
  g14 := by kernel_rfl
  t5 := Tryz.underlying5
  a5 := Tryz.isAgg5
  z5 := Tryz.sizeOf5
  v5 := Tryz.zeroValue5
  t9 := Tryz.underlying9
  a9 := Tryz.isAgg9
  z9 := Tryz.sizeOf9
  v9 := Tryz.zeroValue9
  t80 := Tryz.underlying141
  a80 := Tryz.isAgg141
  z80 := Tryz.sizeOf141
  v80 := Tryz.zeroValue141
  i0 := by kernel_rfl
  i3 := by kernel_rfl
  i4 := by kernel_rfl
  i5 := by kernel_rfl
  i9 := by kernel_rfl
  i20 := by kernel_rfl
  i37 := by kernel_rfl
  i75 := by kernel_rfl
  i80 := by kernel_rfl
  m14 := by kernel_rfl }
open Go.RowKit in
theorem Tryz.bytes_growSlice_row (g l c n : Nat) (cur : Array Value) (w : World) (hg : w.heap[g]? = some (.cells cur 5 (0, 0))) (hcs : cur.size = c) (hlc : l ≤ c) (hn : 1 ≤ n) (hlim : l + n ≤ 140737488355328) (hc2 : c ≤ 140737488355328) (h1 : ∀ v ∈ cur.toList.take l, v.oneCell' = true) :
    Calls Tryz.prog 124 #[.slice (some ⟨g, 0, none⟩) l c, .int .i64 n] w fun e w' => ∃ cap2 cells, e = .returned (.slice (some ⟨w.heap.size, 0, none⟩) l cap2) ∧ w'.heap[w.heap.size]? = some (.cells cells 5 (0, 0)) ∧
      cells.size = cap2 ∧ cells.toList.take l = cur.toList.take l ∧ l + n ≤ cap2 ∧ cap2 ≤ maxLen ∧ Below w.heap.size w w' := Any.bytes_growSlice_row Tryz.laysM290 g l c n cur w hg hcs hlc hn hlim hc2 h1
open Go.RowKit in
theorem Tryz.bytes_growSlice_nil (n : Nat) (w : World) (hn : 1 ≤ n) (hlim : n ≤ 140737488355328) :
    Calls Tryz.prog 124 #[.slice none 0 0, .int .i64 n] w fun e w' => ∃ cap2 cells, e = .returned (.slice (some ⟨w.heap.size, 0, none⟩) 0 cap2) ∧ w'.heap[w.heap.size]? = some (.cells cells 5 (0, 0)) ∧
      cells.size = cap2 ∧ n ≤ cap2 ∧ cap2 ≤ maxLen ∧ Below w.heap.size w w' := Any.bytes_growSlice_nil Tryz.laysM290 n w hn hlim
def Tryz.laysM182_ren : Go.Shelf.Ren := ⟨fun | 182 => 102 | n => n, fun | 130 => 177 | 9 => 9 | 4 => 4 | 0 => 0 | 93 => 165 | 37 => 33 | 3 => 3 | 91 => 163 | 5 => 5 | n => n, fun | n => n⟩
theorem Tryz.laysM182 : Go.Proofs.LaysM.n182 Tryz.prog Tryz.laysM182_ren := {
  mixed := by kernel_rfl
  f182 := Tryz.func102.trans (congrArg some (by kernel_rfl))
  t0 := Tryz.underlying0
  a0 := Tryz.isAgg0
  z0 := Tryz.sizeOf0
  v0 := Tryz.zeroValue0
  t3 := Tryz.underlying3
  a3 := Tryz.isAgg3
  z3 := Tryz.sizeOf3
  v3 := Tryz.zeroValue3
  t4 := Tryz.underlying4
  a4 := Tryz.isAgg4
  z4 := Tryz.sizeOf4
  v4 := Tryz.zeroValue4
  t9 := Tryz.underlying9
  a9 := Tryz.isAgg9
  z9 := Tryz.sizeOf9
  v9 := Tryz.zeroValue9
  t37 := Tryz.underlying33
  a37 := Tryz.isAgg33
  z37 := Tryz.sizeOf33
  v37 := Tryz.zeroValue33
  t93 := Tryz.underlying165
  a93 := Tryz.isAgg165
  z93 := Tryz.sizeOf165
  v93 := Tryz.zeroValue165
  t130 := Tryz.underlying177
  a130 := Tryz.isAgg177
  z130 := Tryz.sizeOf177
  v130 := Tryz.zeroValue177
  t5 := Tryz.underlying5
  a5 := Tryz.isAgg5
  z5 := Tryz.sizeOf5
  v5 := Tryz.zeroValue5
  t91 := Tryz.underlying163
  a91 := Tryz.isAgg163
  z91 := Tryz.sizeOf163
  v91 := Tryz.zeroValue163
  i0 := by kernel_rfl
  i3 := by kernel_rfl
  i4 := by kernel_rfl
  i5 := by kernel_rfl
  i9 := by kernel_rfl
  i37 := by kernel_rfl
  i91 := by kernel_rfl
  i93 := by kernel_rfl
  i130 := by kernel_rfl }
open Go.RowKit in
theorem Tryz.Buffer_String (B b : Nat) (l : List UInt8) (w : World) (h : Lib.IsBuffer 165 5 B b (Lib.byteCells l) w) :
    Calls Tryz.prog 102 #[.pointer (some ⟨b, 0, none⟩)] w fun e w' => e = .returned (.string ⟨l.toArray⟩) ∧ ∃ n, w' = w.drewN n := Any.Buffer_String Tryz.laysM182 B b l w h
def Tryz.laysM316_ren : Go.Shelf.Ren := ⟨fun | 316 => 119 | n => n, fun | 9 => 9 | 3 => 3 | 4 => 4 | 37 => 33 | 0 => 0 | 127 => 197 | 5 => 5 | n => n, fun | n => n⟩
theorem Tryz.laysM316 : Go.Proofs.LaysM.n316 Tryz.prog Tryz.laysM316_ren := {
  mixed := by kernel_rfl
  f316 := Tryz.func119.trans (congrArg some (by kernel_rfl))
  t0 := Tryz.underlying0
  a0 := Tryz.isAgg0
  z0 := Tryz.sizeOf0
  v0 := Tryz.zeroValue0
  t3 := Tryz.underlying3
  a3 := Tryz.isAgg3
  z3 := Tryz.sizeOf3
  v3 := Tryz.zeroValue3
  t4 := Tryz.underlying4
  a4 := Tryz.isAgg4
  z4 := Tryz.sizeOf4
  v4 := Tryz.zeroValue4
  t9 := Tryz.underlying9
  a9 := Tryz.isAgg9
  z9 := Tryz.sizeOf9
  v9 := Tryz.zeroValue9
  t37 := Tryz.underlying33
  a37 := Tryz.isAgg33
  z37 := Tryz.sizeOf33
  v37 := Tryz.zeroValue33
  t127 := Tryz.underlying197
  a127 := Tryz.isAgg197
  z127 := Tryz.sizeOf197
  v127 := Tryz.zeroValue197
  t5 := Tryz.underlying5
  a5 := Tryz.isAgg5
  z5 := Tryz.sizeOf5
  v5 := Tryz.zeroValue5
  i0 := by kernel_rfl
  i3 := by kernel_rfl
  i4 := by kernel_rfl
  i5 := by kernel_rfl
  i9 := by kernel_rfl
  i37 := by kernel_rfl
  i127 := by kernel_rfl }
open Go.RowKit in
theorem Tryz.stringslite_Clone (s : ByteArray) (w : World) (hlim : s.size ≤ 281474976710656) :
    Calls Tryz.prog 119 #[.string s] w fun e w' => e = .returned (.string s) ∧ Below w.heap.size w w' := Any.stringslite_Clone Tryz.laysM316 s w hlim
def Tryz.laysM279_ren : Go.Shelf.Ren := ⟨fun | 279 => 105 | 316 => 119 | n => n, fun | 9 => 9 | 168 => 174 | 75 => 53 | 210 => 188 | 3 => 3 | 4 => 4 | 37 => 33 | 0 => 0 | 127 => 197 | 80 => 141 | 5 => 5 | n => n, fun | 15 => 4 | n => n⟩
theorem Tryz.laysM279 : Go.Proofs.LaysM.n279 Tryz.prog Tryz.laysM279_ren := {
  mixed := by kernel_rfl
  f279 := Tryz.func105.trans (congrArg some (by kernel_rfl))
  f316 := Tryz.func119.trans (congrArg some (by kernel_rfl))
  t0 := Tryz.underlying0
  a0 := Tryz.isAgg0
  z0 := Tryz.sizeOf0
  v0 := Tryz.zeroValue0
  t3 := Tryz.underlying3
  a3 := Tryz.isAgg3
  z3 := Tryz.sizeOf3
  v3 := Tryz.zeroValue3
  t4 := Tryz.underlying4
  a4 := Tryz.isAgg4
  z4 := Tryz.sizeOf4
  v4 := Tryz.zeroValue4
  t9 := Tryz.underlying9
  a9 := Tryz.isAgg9
  z9 := Tryz.sizeOf9
  v9 := Tryz.zeroValue9
  t37 := Tryz.underlying33
  a37 := Tryz.isAgg33
  z37 := Tryz.sizeOf33
  v37 := Tryz.zeroValue33
  t75 := Tryz.underlying53
  a75 := Tryz.isAgg53
  z75 := Tryz.sizeOf53
  v75 := Tryz.zeroValue53
  t127 := Tryz.underlying197
  a127 := Tryz.isAgg197
  z127 := Tryz.sizeOf197
  v127 := Tryz.zeroValue197
  t168 := Tryz.underlying174
  a168 := Tryz.isAgg174
  z168 := Tryz.sizeOf174
  v168 := Tryz.zeroValue174
  t210 := Tryz.underlying188
  a210 := Tryz.isAgg188
  z210 := Tryz.sizeOf188
  v210 := Tryz.zeroValue188
  g15 := by kernel_rfl
  t5 := Tryz.underlying5
  a5 := Tryz.isAgg5
  z5 := Tryz.sizeOf5
  v5 := Tryz.zeroValue5
  t80 := Tryz.underlying141
  a80 := Tryz.isAgg141
  z80 := Tryz.sizeOf141
  v80 := Tryz.zeroValue141
  i0 := by kernel_rfl
  i3 := by kernel_rfl
  i4 := by kernel_rfl
  i5 := by kernel_rfl
  i9 := by kernel_rfl
  i37 := by kernel_rfl
  i75 := by kernel_rfl
  i80 := by kernel_rfl
  i127 := by kernel_rfl
  i168 := by kernel_rfl
  i210 := by kernel_rfl
  m15 := by kernel_rfl }
open Go.RowKit in
theorem Tryz.strconv_syntaxError (fn s : ByteArray) (ev : Value) (w : World) (hlim : s.size ≤ 281474976710656) (hv : w.cell? ⟨4, 0, none⟩ = some ev) (hev : ev = .nilIface ∨ ∃ te pe, ev = .iface te pe) :
    Calls Tryz.prog 105 #[.string fn, .string s] w fun e w' => ∃ N, e = .returned (.pointer (some ⟨N, 0, none⟩)) ∧ w.heap.size ≤ N ∧ w'.heap[N]? = some (.cells #[.string fn, .string s, ev] 188 (0, 0)) ∧ Below w.heap.size w w' := Any.strconv_syntaxError Tryz.laysM279 fn s ev w hlim hv hev
def Tryz.laysC245_ren : Go.Shelf.Ren := ⟨fun | 245 => 95 | 279 => 105 | 280 => 106 | 281 => 107 | 282 => 108 | 316 => 119 | 171 => 112 | 205 => 120 | 243 => 125 | 246 => 133 | 283 => 136 | 284 => 137 | 285 => 138 | 286 => 139 | 129 => 141 | 317 => 140 | 318 => 142 | 319 => 143 | 320 => 144 | 337 => 145 | 338 => 146 | n => n, fun | 9 => 9 | 3 => 3 | 75 => 53 | 167 => 172 | 4 => 4 | 168 => 174 | 210 => 188 | 37 => 33 | 0 => 0 | 127 => 197 | 145 => 200 | 143 => 198 | 2 => 2 | 171 => 205 | 53 => 135 | 5 => 5 | 173 => 208 | 212 => 211 | 51 => 130 | 20 => 20 | 213 => 212 | 46 => 144 | 232 => 215 | 233 => 216 | 80 => 141 | n => n, fun | 15 => 4 | 16 => 5 | 17 => 8 | 18 => 9 | 19 => 10 | n => n⟩
theorem Tryz.laysC245 : Go.Proofs.LaysC.n245 Tryz.prog Tryz.laysC245_ren := {
  mixed := by kernel_rfl
  f129 := Tryz.func141.trans (congrArg some (by kernel_rfl))
  f171 := Tryz.func112.trans (congrArg some (by kernel_rfl))
  f205 := Tryz.func120.trans (congrArg some (by kernel_rfl))
  f243 := Tryz.func125.trans (congrArg some (by kernel_rfl))
  f245 := Tryz.func95.trans (congrArg some (by kernel_rfl))
  f246 := Tryz.func133.trans (congrArg some (by kernel_rfl))
  f279 := Tryz.func105.trans (congrArg some (by kernel_rfl))
  f280 := Tryz.func106.trans (congrArg some (by kernel_rfl))
  f281 := Tryz.func107.trans (congrArg some (by kernel_rfl))
  f282 := Tryz.func108.trans (congrArg some (by kernel_rfl))
  f283 := Tryz.func136.trans (congrArg some (by kernel_rfl))
  f284 := Tryz.func137.trans (congrArg some (by kernel_rfl))
  f285 := Tryz.func138.trans (congrArg some (by kernel_rfl))
  f286 := Tryz.func139.trans (congrArg some (by kernel_rfl))
  f316 := Tryz.func119.trans (congrArg some (by kernel_rfl))
  f317 := Tryz.func140.trans (congrArg some (by kernel_rfl))
  f318 := Tryz.func142.trans (congrArg some (by kernel_rfl))
  f319 := Tryz.func143.trans (congrArg some (by kernel_rfl))
  f320 := Tryz.func144.trans (congrArg some (by kernel_rfl))
  f337 := Tryz.func145.trans (congrArg some (by kernel_rfl))
  f338 := Tryz.func146.trans (congrArg some (by kernel_rfl))
  t0 := Tryz.underlying0
  a0 := Tryz.isAgg0
  z0 := Tryz.sizeOf0
  v0 := Tryz.zeroValue0
  t2 := Tryz.underlying2
  a2 := Tryz.isAgg2
  z2 := Tryz.sizeOf2
  v2 := Tryz.zeroValue2
  t3 := Tryz.underlying3
  a3 := Tryz.isAgg3
  z3 := Tryz.sizeOf3
  v3 := Tryz.zeroValue3
  t4 := Tryz.underlying4
  a4 := Tryz.isAgg4
  z4 := Tryz.sizeOf4
  v4 := Tryz.zeroValue4
  t5 := Tryz.underlying5
  a5 := Tryz.isAgg5
  z5 := Tryz.sizeOf5
  v5 := Tryz.zeroValue5
  t9 := Tryz.underlying9
  a9 := Tryz.isAgg9
  z9 := Tryz.sizeOf9
  v9 := Tryz.zeroValue9
  t20 := Tryz.underlying20
  a20 := Tryz.isAgg20
  z20 := Tryz.sizeOf20
  v20 := Tryz.zeroValue20
  t37 := Tryz.underlying33
  a37 := Tryz.isAgg33
  z37 := Tryz.sizeOf33
  v37 := Tryz.zeroValue33
  t46 := Tryz.underlying144
  a46 := Tryz.isAgg144
  z46 := Tryz.sizeOf144
  v46 := Tryz.zeroValue144
  t51 := Tryz.underlying130
  a51 := Tryz.isAgg130
  z51 := Tryz.sizeOf130
  v51 := Tryz.zeroValue130
  t53 := Tryz.underlying135
  a53 := Tryz.isAgg135
  z53 := Tryz.sizeOf135
  v53 := Tryz.zeroValue135
  t75 := Tryz.underlying53
  a75 := Tryz.isAgg53
  z75 := Tryz.sizeOf53
  v75 := Tryz.zeroValue53
  t127 := Tryz.underlying197
  a127 := Tryz.isAgg197
  z127 := Tryz.sizeOf197
  v127 := Tryz.zeroValue197
  t143 := Tryz.underlying198
  a143 := Tryz.isAgg198
  z143 := Tryz.sizeOf198
  v143 := Tryz.zeroValue198
  t145 := Tryz.underlying200
  a145 := Tryz.isAgg200
  z145 := Tryz.sizeOf200
  v145 := Tryz.zeroValue200
  t167 := Tryz.underlying172
  a167 := Tryz.isAgg172
  z167 := Tryz.sizeOf172
  v167 := Tryz.zeroValue172
  t168 := Tryz.underlying174
  a168 := Tryz.isAgg174
  z168 := Tryz.sizeOf174
  v168 := Tryz.zeroValue174
  t171 := Tryz.underlying205
  a171 := Tryz.isAgg205
  z171 := Tryz.sizeOf205
  v171 := Tryz.zeroValue205
  t173 := Tryz.underlying208
  a173 := Tryz.isAgg208
  z173 := Tryz.sizeOf208
  v173 := Tryz.zeroValue208
  t210 := Tryz.underlying188
  a210 := Tryz.isAgg188
  z210 := Tryz.sizeOf188
  v210 := Tryz.zeroValue188
  t212 := Tryz.underlying211
  a212 := Tryz.isAgg211
  z212 := Tryz.sizeOf211
  v212 := Tryz.zeroValue211
  t213 := Tryz.underlying212
  a213 := Tryz.isAgg212
  z213 := Tryz.sizeOf212
  t232 := Tryz.underlying215
  a232 := Tryz.isAgg215
  z232 := Tryz.sizeOf215
  v232 := Tryz.zeroValue215
  t233 := Tryz.underlying216
  a233 := Tryz.isAgg216
  z233 := Tryz.sizeOf216
  v233 := Tryz.zeroValue216
  g15 := by kernel_rfl
  g16 := by kernel_rfl
  g17 := by kernel_rfl
  g18 := by kernel_rfl
  g19 := by kernel_rfl
  t80 := Tryz.underlying141
  a80 := Tryz.isAgg141
  z80 := Tryz.sizeOf141
  v80 := Tryz.zeroValue141
  i0 := by kernel_rfl
  i2 := by kernel_rfl
  i3 := by kernel_rfl
  i4 := by kernel_rfl
  i5 := by kernel_rfl
  i9 := by kernel_rfl
  i20 := by kernel_rfl
  i37 := by kernel_rfl
  i46 := by kernel_rfl
  i51 := by kernel_rfl
  i53 := by kernel_rfl
  i75 := by kernel_rfl
  i80 := by kernel_rfl
  i127 := by kernel_rfl
  i143 := by kernel_rfl
  i145 := by kernel_rfl
  i167 := by kernel_rfl
  i168 := by kernel_rfl
  i171 := by kernel_rfl
  i173 := by kernel_rfl
  i210 := by kernel_rfl
  i212 := by kernel_rfl
  i232 := by kernel_rfl
  i233 := by kernel_rfl
  m15 := by kernel_rfl
  m16 := by kernel_rfl
  m17 := by kernel_rfl
  m18 := by kernel_rfl
  m19 := by kernel_rfl
  c0 := by kernel_rfl
  c2 := by kernel_rfl
  c3 := by kernel_rfl
  c4 := by kernel_rfl
  c5 := by kernel_rfl
  c9 := by kernel_rfl
  c20 := by kernel_rfl
  c37 := by kernel_rfl
  c46 := by kernel_rfl
  c51 := by kernel_rfl
  c53 := by kernel_rfl
  c75 := by kernel_rfl
  c80 := by kernel_rfl
  c127 := by kernel_rfl
  c143 := by kernel_rfl
  c145 := by kernel_rfl
  c167 := by kernel_rfl
  c168 := by kernel_rfl
  c171 := by kernel_rfl
  c173 := by kernel_rfl
  c210 := by kernel_rfl
  c212 := by kernel_rfl
  c213 := by kernel_rfl
  c232 := by kernel_rfl
  c233 := by kernel_rfl }
open Go.RowKit in
theorem Tryz.strconv_toError_syntax (fn s : ByteArray) (base bits : Int) (ev : Value) (w : World) (hlim : s.size ≤ 281474976710656) (hv : w.cell? ⟨4, 0, none⟩ = some ev) (hev : ev = .nilIface ∨ ∃ te pe, ev = .iface te pe) :
    Calls Tryz.prog 95 #[.string fn, .string s, .int .i64 base, .int .i64 bits, .iface 172 (.int .i64 2)] w fun e w' => ∃ N, e = .returned (.iface 174 (.pointer (some ⟨N, 0, none⟩))) ∧ w.heap.size ≤ N ∧ w'.heap[N]? = some (.cells #[.string fn, .string s, ev] 188 (0, 0)) ∧ Below w.heap.size w w' := Any.strconv_toError_syntax Tryz.laysC245 fn s base bits ev w hlim hv hev
def Tryz.lays321_ren : Go.Shelf.Ren := ⟨fun | 321 => 103 | n => n, fun | 5 => 5 | n => n, fun | n => n⟩
theorem Tryz.lays321 : Go.Proofs.Lays.n321 Tryz.prog Tryz.lays321_ren := {
  mixed := by kernel_rfl
  f321 := Tryz.func103.trans (congrArg some (by kernel_rfl))
  t5 := Tryz.underlying5
  a5 := Tryz.isAgg5
  z5 := Tryz.sizeOf5
  v5 := Tryz.zeroValue5 }
open Go.RowKit in
theorem Tryz.internal_strconv_lower (c : Int) (w : World) :
    Calls Tryz.prog 103 #[.int .u8 c] w fun e w' => e = .returned (.int .u8 (bits .or .u8 c 32)) ∧ w' = w := Any.internal_strconv_lower Tryz.lays321 c w
def Tryz.laysM252_ren : Go.Shelf.Ren := ⟨fun | 252 => 111 | 181 => 122 | 184 => 123 | 251 => 110 | 290 => 124 | 324 => 132 | n => n, fun | 130 => 177 | 3 => 3 | 4 => 4 | 0 => 0 | 93 => 165 | 131 => 178 | 37 => 33 | 75 => 53 | 91 => 163 | 20 => 20 | 5 => 5 | 80 => 141 | 9 => 9 | n => n, fun | 14 => 6 | n => n⟩
theorem Tryz.laysM252 : Go.Proofs.LaysM.n252 Tryz.prog Tryz.laysM252_ren := {
  mixed := by kernel_rfl
  f181 := Tryz.func122.trans (congrArg some (by kernel_rfl))
  f184 := Tryz.func123.trans (congrArg some (by kernel_rfl))
  f251 := Tryz.func110.trans (congrArg some (by kernel_rfl))
  f252 := Tryz.func111.trans (congrArg some (by kernel_rfl))
  f290 := Tryz.func124.trans (congrArg some (by kernel_rfl))
  f324 := Tryz.func132.trans (congrArg some (by kernel_rfl))
  t0 := Tryz.underlying0
  a0 := Tryz.isAgg0
  z0 := Tryz.sizeOf0
  v0 := Tryz.zeroValue0
  t3 := Tryz.underlying3
  a3 := Tryz.isAgg3
  z3 := Tryz.sizeOf3
  v3 := Tryz.zeroValue3
  t4 := Tryz.underlying4
  a4 := Tryz.isAgg4
  z4 := Tryz.sizeOf4
  v4 := Tryz.zeroValue4
  t20 := Tryz.underlying20
  a20 := Tryz.isAgg20
  z20 := Tryz.sizeOf20
  v20 := Tryz.zeroValue20
  t37 := Tryz.underlying33
  a37 := Tryz.isAgg33
  z37 := Tryz.sizeOf33
  v37 := Tryz.zeroValue33
  t75 := Tryz.underlying53
  a75 := Tryz.isAgg53
  z75 := Tryz.sizeOf53
  v75 := Tryz.zeroValue53
  t91 := Tryz.underlying163
  a91 := Tryz.isAgg163
  z91 := Tryz.sizeOf163
  v91 := Tryz.zeroValue163
  t93 := Tryz.underlying165
  a93 := Tryz.isAgg165
  z93 := Tryz.sizeOf165
  v93 := Tryz.zeroValue165
  t130 := Tryz.underlying177
  a130 := Tryz.isAgg177
  z130 := Tryz.sizeOf177
  v130 := Tryz.zeroValue177
  t131 := Tryz.underlying178
  a131 := Tryz.isAgg178
  z131 := Tryz.sizeOf178
  v131 := Tryz.zeroValue178
  g14 := by kernel_rfl
  t5 := Tryz.underlying5
  a5 := Tryz.isAgg5
  z5 := Tryz.sizeOf5
  v5 := Tryz.zeroValue5
  t9 := Tryz.underlying9
  a9 := Tryz.isAgg9
  z9 := Tryz.sizeOf9
  v9 := Tryz.zeroValue9
  t80 := Tryz.underlying141
  a80 := Tryz.isAgg141
  z80 := Tryz.sizeOf141
  v80 := Tryz.zeroValue141
  i0 := by kernel_rfl
  i3 := by kernel_rfl
  i4 := by kernel_rfl
  i5 := by kernel_rfl
  i9 := by kernel_rfl
  i20 := by kernel_rfl
  i37 := by kernel_rfl
  i75 := by kernel_rfl
  i80 := by kernel_rfl
  i91 := by kernel_rfl
  i93 := by kernel_rfl
  i130 := by kernel_rfl
  i131 := by kernel_rfl
  m14 := by kernel_rfl }
open Go.RowKit in
theorem Tryz.Buffer_grow_row0_kept (B b g cap n : Nat) (lr : Int) (cur : Array Value) (bs : List Value) (w : World) (hB : B ≤ b) (hBw : B ≤ w.heap.size) (hbk : w.heap[b]? = some (.cells #[.slice (some ⟨g, 0, none⟩) 0 cap, .int .i64 0, .int .i8 lr] 165 (0, 0))) (hl : bs.length = 0) (hBg : B ≤ g) (hg : w.heap[g]? = some (.cells cur 5 (0, 0))) (hlc : 0 ≤ cap) (hcm : cap ≤ maxLen) (hcs : cur.size = cap) (htake : cur.toList.take 0 = bs) (hgb : g ≠ b) (h1 : ∀ v ∈ bs, v.oneCell' = true) (hn : 1 ≤ n) (hroom : cap - 0 < n) (hlim : 0 + n ≤ 140737488355328) :
    Calls Tryz.prog 111 #[.pointer (some ⟨b, 0, none⟩), .int .i64 n] w fun e w' => e = .returned (.int .i64 0) ∧ ∃ xs, xs.length = n ∧ Lib.IsBuffer 165 5 B b (bs ++ xs) w' ∧ Below B w w' ∧ Lib.OthersKept 5 (some b) w w' := Any.Buffer_grow_row0_kept Tryz.laysM252 B b g cap n lr cur bs w hB hBw hbk hl hBg hg hlc hcm hcs htake hgb h1 hn hroom hlim
open Go.RowKit in
theorem Tryz.Buffer_grow_row_kept (B b g l cap n : Nat) (lr : Int) (cur : Array Value) (bs : List Value) (w : World) (hB : B ≤ b) (hBw : B ≤ w.heap.size) (hbk : w.heap[b]? = some (.cells #[.slice (some ⟨g, 0, none⟩) l cap, .int .i64 0, .int .i8 lr] 165 (0, 0))) (hl : bs.length = l) (hBg : B ≤ g) (hg : w.heap[g]? = some (.cells cur 5 (0, 0))) (hlc : l ≤ cap) (hcm : cap ≤ maxLen) (hcs : cur.size = cap) (htake : cur.toList.take l = bs) (hgb : g ≠ b) (h1 : ∀ v ∈ bs, v.oneCell' = true) (hn : 1 ≤ n) (hroom : cap - l < n) (hlim : l + n ≤ 140737488355328) :
    Calls Tryz.prog 111 #[.pointer (some ⟨b, 0, none⟩), .int .i64 n] w fun e w' => e = .returned (.int .i64 l) ∧ ∃ xs, xs.length = n ∧ Lib.IsBuffer 165 5 B b (bs ++ xs) w' ∧ Below B w w' ∧ Lib.OthersKept 5 (some b) w w' := Any.Buffer_grow_row_kept Tryz.laysM252 B b g l cap n lr cur bs w hB hBw hbk hl hBg hg hlc hcm hcs htake hgb h1 hn hroom hlim
open Go.RowKit in
theorem Tryz.Buffer_grow_nil_small_kept (B b n : Nat) (lr : Int) (w : World) (hB : B ≤ b) (hBw : B ≤ w.heap.size) (hbk : w.heap[b]? = some (.cells #[.slice none 0 0, .int .i64 0, .int .i8 lr] 165 (0, 0))) (hn : 1 ≤ n) (h64 : n ≤ 64) :
    Calls Tryz.prog 111 #[.pointer (some ⟨b, 0, none⟩), .int .i64 n] w fun e w' => e = .returned (.int .i64 0) ∧ ∃ xs, xs.length = n ∧ Lib.IsBuffer 165 5 B b xs w' ∧ Below B w w' ∧ Lib.OthersKept 5 (some b) w w' := Any.Buffer_grow_nil_small_kept Tryz.laysM252 B b n lr w hB hBw hbk hn h64
open Go.RowKit in
theorem Tryz.Buffer_grow_nil_big_kept (B b n : Nat) (lr : Int) (w : World) (hB : B ≤ b) (hBw : B ≤ w.heap.size) (hbk : w.heap[b]? = some (.cells #[.slice none 0 0, .int .i64 0, .int .i8 lr] 165 (0, 0))) (h64 : 64 < n) (hlim : n ≤ 140737488355328) :
    Calls Tryz.prog 111 #[.pointer (some ⟨b, 0, none⟩), .int .i64 n] w fun e w' => e = .returned (.int .i64 0) ∧ ∃ xs, xs.length = n ∧ Lib.IsBuffer 165 5 B b xs w' ∧ Below B w w' ∧ Lib.OthersKept 5 (some b) w w' := Any.Buffer_grow_nil_big_kept Tryz.laysM252 B b n lr w hB hBw hbk h64 hlim
open Go.RowKit in
theorem Tryz.Buffer_tryGrow_kept (B b n : Nat) (bs : List Value) (w : World) (h : Lib.IsBuffer 165 5 B b bs w) :
    Calls Tryz.prog 110 #[.pointer (some ⟨b, 0, none⟩), .int .i64 n] w fun e w' =>
      (e = .returned (.tuple #[.int .i64 bs.length, .bool true]) ∧ ∃ xs, xs.length = n ∧ Lib.IsBuffer 165 5 B b (bs ++ xs) w' ∧ Below B w w' ∧ Lib.OthersKept 5 (some b) w w') ∨
      (e = .returned (.tuple #[.int .i64 0, .bool false]) ∧ w' = w ∧ Lib.NoRoom b n w) := Any.Buffer_tryGrow_kept Tryz.laysM251 B b n bs w h
open Go.RowKit in
theorem Tryz.Buffer_grow_kept (B b n : Nat) (bs : List Value) (w : World) (h : Lib.IsBuffer 165 5 B b bs w) (hnr : Lib.NoRoom b n w) (hBw : B ≤ w.heap.size) (h1 : ∀ v ∈ bs, v.oneCell' = true) (hlim : bs.length + n ≤ 140737488355328) :
    Calls Tryz.prog 111 #[.pointer (some ⟨b, 0, none⟩), .int .i64 n] w fun e w' => e = .returned (.int .i64 bs.length) ∧ ∃ xs, xs.length = n ∧ Lib.IsBuffer 165 5 B b (bs ++ xs) w' ∧ Below B w w' ∧ Lib.OthersKept 5 (some b) w w' := Any.Buffer_grow_kept Tryz.laysM252 B b n bs w h hnr hBw h1 hlim
def Tryz.laysM178_ren : Go.Shelf.Ren := ⟨fun | 178 => 99 | 251 => 110 | 252 => 111 | 181 => 122 | 184 => 123 | 290 => 124 | 324 => 132 | n => n, fun | 130 => 177 | 9 => 9 | 3 => 3 | 75 => 53 | 0 => 0 | 93 => 165 | 91 => 163 | 131 => 178 | 4 => 4 | 37 => 33 | 20 => 20 | 80 => 141 | 5 => 5 | n => n, fun | 14 => 6 | n => n⟩
theorem Tryz.laysM178 : Go.Proofs.LaysM.n178 Tryz.prog Tryz.laysM178_ren := {
  mixed := by kernel_rfl
  f178 := Tryz.func99.trans (congrArg some (by kernel_rfl))
  f181 := Tryz.func122.trans (congrArg some (by kernel_rfl))
  f184 := Tryz.func123.trans (congrArg some (by kernel_rfl))
  f251 := Tryz.func110.trans (congrArg some (by kernel_rfl))
  f252 := Tryz.func111.trans (congrArg some (by kernel_rfl))
  f290 := Tryz.func124.trans (congrArg some (by kernel_rfl))
  f324 := Tryz.func132.trans (congrArg some (by kernel_rfl))
  t0 := Tryz.underlying0
  a0 := Tryz.isAgg0
  z0 := Tryz.sizeOf0
  v0 := Tryz.zeroValue0
  t3 := Tryz.underlying3
  a3 := Tryz.isAgg3
  z3 := Tryz.sizeOf3
  v3 := Tryz.zeroValue3
  t4 := Tryz.underlying4
  a4 := Tryz.isAgg4
  z4 := Tryz.sizeOf4
  v4 := Tryz.zeroValue4
  t9 := Tryz.underlying9
  a9 := Tryz.isAgg9
  z9 := Tryz.sizeOf9
  v9 := Tryz.zeroValue9
  t20 := Tryz.underlying20
  a20 := Tryz.isAgg20
  z20 := Tryz.sizeOf20
  v20 := Tryz.zeroValue20
  t37 := Tryz.underlying33
  a37 := Tryz.isAgg33
  z37 := Tryz.sizeOf33
  v37 := Tryz.zeroValue33
  t75 := Tryz.underlying53
  a75 := Tryz.isAgg53
  z75 := Tryz.sizeOf53
  v75 := Tryz.zeroValue53
  t91 := Tryz.underlying163
  a91 := Tryz.isAgg163
  z91 := Tryz.sizeOf163
  v91 := Tryz.zeroValue163
  t93 := Tryz.underlying165
  a93 := Tryz.isAgg165
  z93 := Tryz.sizeOf165
  v93 := Tryz.zeroValue165
  t130 := Tryz.underlying177
  a130 := Tryz.isAgg177
  z130 := Tryz.sizeOf177
  v130 := Tryz.zeroValue177
  t131 := Tryz.underlying178
  a131 := Tryz.isAgg178
  z131 := Tryz.sizeOf178
  v131 := Tryz.zeroValue178
  g14 := by kernel_rfl
  t5 := Tryz.underlying5
  a5 := Tryz.isAgg5
  z5 := Tryz.sizeOf5
  v5 := Tryz.zeroValue5
  t80 := Tryz.underlying141
  a80 := Tryz.isAgg141
  z80 := Tryz.sizeOf141
  v80 := Tryz.zeroValue141
  i0 := by kernel_rfl
  i3 := by kernel_rfl
  i4 := by kernel_rfl
  i5 := by kernel_rfl
  i9 := by kernel_rfl
  i20 := by kernel_rfl
  i37 := by kernel_rfl
  i75 := by kernel_rfl
  i80 := by kernel_rfl
  i91 := by kernel_rfl
  i93 := by kernel_rfl
  i130 := by kernel_rfl
  i131 := by kernel_rfl
  m14 := by kernel_rfl }
open Go.RowKit in
theorem Tryz.Buffer_WriteString_kept (B b : Nat) (bs : List Value) (s : ByteArray) (w : World) (h : Lib.IsBuffer 165 5 B b bs w) (hBw : B ≤ w.heap.size) (h1 : ∀ v ∈ bs, v.oneCell' = true) (hlim : bs.length + s.size ≤ 140737488355328) :
    Calls Tryz.prog 99 #[.pointer (some ⟨b, 0, none⟩), .string s] w fun e w' => e = .returned (.tuple #[.int .i64 s.size, .nilIface]) ∧ Lib.IsBuffer 165 5 B b (bs ++ Lib.byteCells s.data.toList) w' ∧ Below B w w' ∧ Lib.OthersKept 5 (some b) w w' := Any.Buffer_WriteString_kept Tryz.laysM178 B b bs s w h hBw h1 hlim
def Tryz.laysM184_ren : Go.Shelf.Ren := ⟨fun | 184 => 123 | n => n, fun | 130 => 177 | 0 => 0 | 93 => 165 | 37 => 33 | 3 => 3 | 91 => 163 | 5 => 5 | n => n, fun | n => n⟩
theorem Tryz.laysM184 : Go.Proofs.LaysM.n184 Tryz.prog Tryz.laysM184_ren := {
  mixed := by kernel_rfl
  f184 := Tryz.func123.trans (congrArg some (by kernel_rfl))
  t0 := Tryz.underlying0
  a0 := Tryz.isAgg0
  z0 := Tryz.sizeOf0
  v0 := Tryz.zeroValue0
  t3 := Tryz.underlying3
  a3 := Tryz.isAgg3
  z3 := Tryz.sizeOf3
  v3 := Tryz.zeroValue3
  t37 := Tryz.underlying33
  a37 := Tryz.isAgg33
  z37 := Tryz.sizeOf33
  v37 := Tryz.zeroValue33
  t91 := Tryz.underlying163
  a91 := Tryz.isAgg163
  z91 := Tryz.sizeOf163
  v91 := Tryz.zeroValue163
  t93 := Tryz.underlying165
  a93 := Tryz.isAgg165
  z93 := Tryz.sizeOf165
  v93 := Tryz.zeroValue165
  t130 := Tryz.underlying177
  a130 := Tryz.isAgg177
  z130 := Tryz.sizeOf177
  v130 := Tryz.zeroValue177
  t5 := Tryz.underlying5
  a5 := Tryz.isAgg5
  z5 := Tryz.sizeOf5
  v5 := Tryz.zeroValue5
  i0 := by kernel_rfl
  i3 := by kernel_rfl
  i5 := by kernel_rfl
  i37 := by kernel_rfl
  i91 := by kernel_rfl
  i93 := by kernel_rfl
  i130 := by kernel_rfl }
open Go.RowKit in
theorem Tryz.Buffer_Reset_kept (B b : Nat) (bs : List Value) (w : World) (h : Lib.IsBuffer 165 5 B b bs w) :
    Calls Tryz.prog 123 #[.pointer (some ⟨b, 0, none⟩)] w fun e w' => e = .returned (.tuple #[]) ∧ Lib.IsBuffer 165 5 B b [] w' ∧ Below B w w' ∧ Lib.OthersKept 5 (some b) w w' := Any.Buffer_Reset_kept Tryz.laysM184 B b bs w h
open Go.RowKit in
theorem Tryz.Buffer_WriteString_k (B b : Nat) (bs : List Value) (s : ByteArray) (w : World) (h : Lib.IsBuffer 165 5 B b bs w) (hBw : B ≤ w.heap.size) (h1 : ∀ v ∈ bs, v.oneCell' = true) (hlim : bs.length + s.size ≤ 140737488355328) :
    Calls Tryz.prog 99 #[.pointer (some ⟨b, 0, none⟩), .string s] w fun e w' => e = .returned (.tuple #[.int .i64 s.size, .nilIface]) ∧ Lib.IsBuffer 165 5 B b (bs ++ Lib.byteCells s.data.toList) w' ∧ Below B w w' ∧ Lib.OthersKept 5 (some b) w w' := Any.Buffer_WriteString_k Tryz.laysM178 B b bs s w h hBw h1 hlim
open Go.RowKit in
theorem Tryz.Buffer_Reset_k (B b : Nat) (bs : List Value) (w : World) (h : Lib.IsBuffer 165 5 B b bs w) :
    Calls Tryz.prog 123 #[.pointer (some ⟨b, 0, none⟩)] w fun e w' => e = .returned (.tuple #[]) ∧ Lib.IsBuffer 165 5 B b [] w' ∧ Below B w w' ∧ Lib.OthersKept 5 (some b) w w' := Any.Buffer_Reset_k Tryz.laysM184 B b bs w h
def Tryz.lays206_ren : Go.Shelf.Ren := ⟨fun | 206 => 128 | n => n, fun | 9 => 9 | 4 => 4 | 3 => 3 | n => n, fun | n => n⟩
theorem Tryz.lays206 : Go.Proofs.Lays.n206 Tryz.prog Tryz.lays206_ren := {
  mixed := by kernel_rfl
  f206 := Tryz.func128.trans (congrArg some (by kernel_rfl))
  t3 := Tryz.underlying3
  a3 := Tryz.isAgg3
  z3 := Tryz.sizeOf3
  v3 := Tryz.zeroValue3
  t4 := Tryz.underlying4
  a4 := Tryz.isAgg4
  z4 := Tryz.sizeOf4
  v4 := Tryz.zeroValue4
  t9 := Tryz.underlying9
  a9 := Tryz.isAgg9
  z9 := Tryz.sizeOf9
  v9 := Tryz.zeroValue9 }
open Go.RowKit Go.Lib in
theorem Tryz.stringslite_HasPrefix (s p : ByteArray) (w : World) :
    Calls Tryz.prog 128 #[.string s, .string p] w fun e w' => e = .returned (.bool (Lib.hasPrefix s.data.toList p.data.toList)) ∧ w' = w := Any.stringslite_HasPrefix Tryz.lays206 s p w
def Tryz.lays99_ren : Go.Shelf.Ren := ⟨fun | 99 => 114 | 206 => 128 | n => n, fun | 9 => 9 | 4 => 4 | 3 => 3 | n => n, fun | n => n⟩
theorem Tryz.lays99 : Go.Proofs.Lays.n99 Tryz.prog Tryz.lays99_ren := {
  mixed := by kernel_rfl
  f99 := Tryz.func114.trans (congrArg some (by kernel_rfl))
  f206 := Tryz.func128.trans (congrArg some (by kernel_rfl))
  t3 := Tryz.underlying3
  a3 := Tryz.isAgg3
  z3 := Tryz.sizeOf3
  v3 := Tryz.zeroValue3
  t4 := Tryz.underlying4
  a4 := Tryz.isAgg4
  z4 := Tryz.sizeOf4
  v4 := Tryz.zeroValue4
  t9 := Tryz.underlying9
  a9 := Tryz.isAgg9
  z9 := Tryz.sizeOf9
  v9 := Tryz.zeroValue9 }
open Go.RowKit Go.Lib in
theorem Tryz.strings_HasPrefix (s p : ByteArray) (w : World) :
    Calls Tryz.prog 114 #[.string s, .string p] w fun e w' => e = .returned (.bool (Lib.hasPrefix s.data.toList p.data.toList)) ∧ w' = w := Any.strings_HasPrefix Tryz.lays99 s p w
def Tryz.lays199_ren : Go.Shelf.Ren := ⟨fun | 199 => 59 | 261 => 82 | 311 => 92 | 312 => 93 | n => n, fun | 21 => 21 | 4 => 4 | 51 => 130 | 141 => 132 | 0 => 0 | 196 => 151 | 193 => 148 | 3 => 3 | 198 => 154 | 49 => 152 | 194 => 149 | 201 => 157 | 226 => 170 | 46 => 144 | 227 => 171 | n => n, fun | 6 => 1 | n => n⟩
theorem Tryz.lays199 : Go.Proofs.Lays.n199 Tryz.prog Tryz.lays199_ren := {
  mixed := by kernel_rfl
  f199 := Tryz.func59.trans (congrArg some (by kernel_rfl))
  f261 := Tryz.func82.trans (congrArg some (by kernel_rfl))
  f311 := Tryz.func92.trans (congrArg some (by kernel_rfl))
  f312 := Tryz.func93.trans (congrArg some (by kernel_rfl))
  t0 := Tryz.underlying0
  a0 := Tryz.isAgg0
  z0 := Tryz.sizeOf0
  v0 := Tryz.zeroValue0
  t3 := Tryz.underlying3
  a3 := Tryz.isAgg3
  z3 := Tryz.sizeOf3
  v3 := Tryz.zeroValue3
  t4 := Tryz.underlying4
  a4 := Tryz.isAgg4
  z4 := Tryz.sizeOf4
  v4 := Tryz.zeroValue4
  t21 := Tryz.underlying21
  a21 := Tryz.isAgg21
  z21 := Tryz.sizeOf21
  v21 := Tryz.zeroValue21
  t46 := Tryz.underlying144
  a46 := Tryz.isAgg144
  z46 := Tryz.sizeOf144
  v46 := Tryz.zeroValue144
  t49 := Tryz.underlying152
  a49 := Tryz.isAgg152
  z49 := Tryz.sizeOf152
  v49 := Tryz.zeroValue152
  t51 := Tryz.underlying130
  a51 := Tryz.isAgg130
  z51 := Tryz.sizeOf130
  v51 := Tryz.zeroValue130
  t141 := Tryz.underlying132
  a141 := Tryz.isAgg132
  z141 := Tryz.sizeOf132
  v141 := Tryz.zeroValue132
  t193 := Tryz.underlying148
  a193 := Tryz.isAgg148
  z193 := Tryz.sizeOf148
  v193 := Tryz.zeroValue148
  t194 := Tryz.underlying149
  a194 := Tryz.isAgg149
  z194 := Tryz.sizeOf149
  v194 := Tryz.zeroValue149
  t196 := Tryz.underlying151
  a196 := Tryz.isAgg151
  z196 := Tryz.sizeOf151
  v196 := Tryz.zeroValue151
  t198 := Tryz.underlying154
  a198 := Tryz.isAgg154
  z198 := Tryz.sizeOf154
  v198 := Tryz.zeroValue154
  t201 := Tryz.underlying157
  a201 := Tryz.isAgg157
  z201 := Tryz.sizeOf157
  v201 := Tryz.zeroValue157
  t226 := Tryz.underlying170
  a226 := Tryz.isAgg170
  z226 := Tryz.sizeOf170
  v226 := Tryz.zeroValue170
  t227 := Tryz.underlying171
  a227 := Tryz.isAgg171
  z227 := Tryz.sizeOf171
  v227 := Tryz.zeroValue171
  g6 := by kernel_rfl }
open Go.RowKit Go.Lib in
theorem Tryz.unicode_IsSpace (r : Int) (w : World) (h0 : 0 ≤ r) (h : r ≤ 255) :
    Calls Tryz.prog 59 #[.int .i32 r] w fun e w' => e = .returned (.bool (Lib.isSpaceL r)) ∧ w' = w := Any.unicode_IsSpace Tryz.lays199 r w h0 h
def Tryz.lays197_ren : Go.Shelf.Ren := ⟨fun | 197 => 58 | 260 => 81 | n => n, fun | 9 => 9 | 21 => 21 | 3 => 3 | 4 => 4 | 5 => 5 | 105 => 104 | 119 => 143 | 0 => 0 | 46 => 144 | 139 => 147 | 138 => 146 | n => n, fun | 3 => 2 | 4 => 3 | n => n⟩
theorem Tryz.lays197 : Go.Proofs.Lays.n197 Tryz.prog Tryz.lays197_ren := {
  mixed := by kernel_rfl
  f197 := Tryz.func58.trans (congrArg some (by kernel_rfl))
  f260 := Tryz.func81.trans (congrArg some (by kernel_rfl))
  t0 := Tryz.underlying0
  a0 := Tryz.isAgg0
  z0 := Tryz.sizeOf0
  v0 := Tryz.zeroValue0
  t3 := Tryz.underlying3
  a3 := Tryz.isAgg3
  z3 := Tryz.sizeOf3
  v3 := Tryz.zeroValue3
  t4 := Tryz.underlying4
  a4 := Tryz.isAgg4
  z4 := Tryz.sizeOf4
  v4 := Tryz.zeroValue4
  t5 := Tryz.underlying5
  a5 := Tryz.isAgg5
  z5 := Tryz.sizeOf5
  v5 := Tryz.zeroValue5
  t9 := Tryz.underlying9
  a9 := Tryz.isAgg9
  z9 := Tryz.sizeOf9
  v9 := Tryz.zeroValue9
  t21 := Tryz.underlying21
  a21 := Tryz.isAgg21
  z21 := Tryz.sizeOf21
  v21 := Tryz.zeroValue21
  t46 := Tryz.underlying144
  a46 := Tryz.isAgg144
  z46 := Tryz.sizeOf144
  v46 := Tryz.zeroValue144
  t105 := Tryz.underlying104
  a105 := Tryz.isAgg104
  z105 := Tryz.sizeOf104
  v105 := Tryz.zeroValue104
  t119 := Tryz.underlying143
  a119 := Tryz.isAgg143
  z119 := Tryz.sizeOf143
  t138 := Tryz.underlying146
  a138 := Tryz.isAgg146
  z138 := Tryz.sizeOf146
  v138 := Tryz.zeroValue146
  t139 := Tryz.underlying147
  a139 := Tryz.isAgg147
  z139 := Tryz.sizeOf147
  v139 := Tryz.zeroValue147
  g3 := by kernel_rfl
  g4 := by kernel_rfl }
open Go.RowKit Go.Lib in
theorem Tryz.utf8_DecodeRuneInString_ascii (s : ByteArray) (x : UInt8) (w : World) (h0 : s.data.toList[0]? = some x) (hx : x.toNat < 128) :
    Calls Tryz.prog 58 #[.string s] w fun e w' => e = .returned (.tuple #[.int .i32 x.toNat, .int .i64 1]) ∧ w' = w := Any.utf8_DecodeRuneInString_ascii Tryz.lays197 s x w h0 hx
def Tryz.lays264_ren : Go.Shelf.Ren := ⟨fun | 264 => 127 | n => n, fun | 53 => 135 | 46 => 144 | n => n, fun | n => n⟩
theorem Tryz.lays264 : Go.Proofs.Lays.n264 Tryz.prog Tryz.lays264_ren := {
  mixed := by kernel_rfl
  f264 := Tryz.func127.trans (congrArg some (by kernel_rfl))
  t46 := Tryz.underlying144
  a46 := Tryz.isAgg144
  z46 := Tryz.sizeOf144
  v46 := Tryz.zeroValue144
  t53 := Tryz.underlying135
  a53 := Tryz.isAgg135
  z53 := Tryz.sizeOf135
  v53 := Tryz.zeroValue135 }
open Go.RowKit Go.Lib in
theorem Tryz.bits_Mul64 (x y : Nat) (hx : x < 18446744073709551616) (hy : y < 18446744073709551616) (w : World) :
    Calls Tryz.prog 127 #[.int .u64 x, .int .u64 y] w fun e w' => e = .returned (.tuple #[.int .u64 ((x * y / 18446744073709551616 : Nat) : Int), .int .u64 ((x * y % 18446744073709551616 : Nat) : Int)]) ∧ w' = w := Any.bits_Mul64 Tryz.lays264 x y hx hy w
def Tryz.lays212_ren : Go.Shelf.Ren := ⟨fun | 212 => 113 | 263 => 126 | 264 => 127 | n => n, fun | 46 => 144 | 51 => 130 | 146 => 193 | 53 => 135 | 148 => 195 | n => n, fun | n => n⟩
theorem Tryz.lays212 : Go.Proofs.Lays.n212 Tryz.prog Tryz.lays212_ren := {
  mixed := by kernel_rfl
  f212 := Tryz.func113.trans (congrArg some (by kernel_rfl))
  f263 := Tryz.func126.trans (congrArg some (by kernel_rfl))
  f264 := Tryz.func127.trans (congrArg some (by kernel_rfl))
  t46 := Tryz.underlying144
  a46 := Tryz.isAgg144
  z46 := Tryz.sizeOf144
  v46 := Tryz.zeroValue144
  t51 := Tryz.underlying130
  a51 := Tryz.isAgg130
  z51 := Tryz.sizeOf130
  v51 := Tryz.zeroValue130
  t53 := Tryz.underlying135
  a53 := Tryz.isAgg135
  z53 := Tryz.sizeOf135
  v53 := Tryz.zeroValue135
  t146 := Tryz.underlying193
  a146 := Tryz.isAgg193
  z146 := Tryz.sizeOf193
  v146 := Tryz.zeroValue193
  t148 := Tryz.underlying195
  a148 := Tryz.isAgg195
  z148 := Tryz.sizeOf195
  v148 := Tryz.zeroValue195 }
open Go.RowKit Go.Lib in
theorem Tryz.bits_Mul (x y : Nat) (hx : x < 18446744073709551616) (hy : y < 18446744073709551616) (w : World) :
    Calls Tryz.prog 113 #[.int .u64 x, .int .u64 y] w fun e w' => e = .returned (.tuple #[.int .u64 ((x * y / 18446744073709551616 : Nat) : Int), .int .u64 ((x * y % 18446744073709551616 : Nat) : Int)]) ∧ w' = w := Any.bits_Mul Tryz.lays212 x y hx hy w
def Tryz.lays105_ren : Go.Shelf.Ren := ⟨fun | 105 => 101 | 212 => 113 | 99 => 114 | 165 => 115 | 166 => 116 | 170 => 117 | 169 => 118 | 263 => 126 | 264 => 127 | 206 => 128 | 240 => 129 | 241 => 130 | 276 => 134 | 277 => 135 | n => n, fun | 9 => 9 | 3 => 3 | 4 => 4 | 20 => 20 | 0 => 0 | 46 => 144 | 109 => 181 | 5 => 5 | 72 => 185 | 76 => 166 | 51 => 130 | 146 => 193 | 53 => 135 | 148 => 195 | 70 => 183 | 37 => 33 | 75 => 53 | 127 => 197 | 164 => 92 | 80 => 141 | n => n, fun | n => n⟩
theorem Tryz.lays105 : Go.Proofs.Lays.n105 Tryz.prog Tryz.lays105_ren := {
  mixed := by kernel_rfl
  f99 := Tryz.func114.trans (congrArg some (by kernel_rfl))
  f105 := Tryz.func101.trans (congrArg some (by kernel_rfl))
  f165 := Tryz.func115.trans (congrArg some (by kernel_rfl))
  f166 := Tryz.func116.trans (congrArg some (by kernel_rfl))
  f169 := Tryz.func118.trans (congrArg some (by kernel_rfl))
  f170 := Tryz.func117.trans (congrArg some (by kernel_rfl))
  f206 := Tryz.func128.trans (congrArg some (by kernel_rfl))
  f212 := Tryz.func113.trans (congrArg some (by kernel_rfl))
  f240 := Tryz.func129.trans (congrArg some (by kernel_rfl))
  f241 := Tryz.func130.trans (congrArg some (by kernel_rfl))
  f263 := Tryz.func126.trans (congrArg some (by kernel_rfl))
  f264 := Tryz.func127.trans (congrArg some (by kernel_rfl))
  f276 := Tryz.func134.trans (congrArg some (by kernel_rfl))
  f277 := Tryz.func135.trans (congrArg some (by kernel_rfl))
  t0 := Tryz.underlying0
  a0 := Tryz.isAgg0
  z0 := Tryz.sizeOf0
  v0 := Tryz.zeroValue0
  t3 := Tryz.underlying3
  a3 := Tryz.isAgg3
  z3 := Tryz.sizeOf3
  v3 := Tryz.zeroValue3
  t4 := Tryz.underlying4
  a4 := Tryz.isAgg4
  z4 := Tryz.sizeOf4
  v4 := Tryz.zeroValue4
  t5 := Tryz.underlying5
  a5 := Tryz.isAgg5
  z5 := Tryz.sizeOf5
  v5 := Tryz.zeroValue5
  t9 := Tryz.underlying9
  a9 := Tryz.isAgg9
  z9 := Tryz.sizeOf9
  v9 := Tryz.zeroValue9
  t20 := Tryz.underlying20
  a20 := Tryz.isAgg20
  z20 := Tryz.sizeOf20
  v20 := Tryz.zeroValue20
  t37 := Tryz.underlying33
  a37 := Tryz.isAgg33
  z37 := Tryz.sizeOf33
  v37 := Tryz.zeroValue33
  t46 := Tryz.underlying144
  a46 := Tryz.isAgg144
  z46 := Tryz.sizeOf144
  v46 := Tryz.zeroValue144
  t51 := Tryz.underlying130
  a51 := Tryz.isAgg130
  z51 := Tryz.sizeOf130
  v51 := Tryz.zeroValue130
  t53 := Tryz.underlying135
  a53 := Tryz.isAgg135
  z53 := Tryz.sizeOf135
  v53 := Tryz.zeroValue135
  t70 := Tryz.underlying183
  a70 := Tryz.isAgg183
  z70 := Tryz.sizeOf183
  v70 := Tryz.zeroValue183
  t72 := Tryz.underlying185
  a72 := Tryz.isAgg185
  z72 := Tryz.sizeOf185
  v72 := Tryz.zeroValue185
  t75 := Tryz.underlying53
  a75 := Tryz.isAgg53
  z75 := Tryz.sizeOf53
  v75 := Tryz.zeroValue53
  t76 := Tryz.underlying166
  a76 := Tryz.isAgg166
  z76 := Tryz.sizeOf166
  v76 := Tryz.zeroValue166
  t109 := Tryz.underlying181
  a109 := Tryz.isAgg181
  z109 := Tryz.sizeOf181
  v109 := Tryz.zeroValue181
  t127 := Tryz.underlying197
  a127 := Tryz.isAgg197
  z127 := Tryz.sizeOf197
  v127 := Tryz.zeroValue197
  t146 := Tryz.underlying193
  a146 := Tryz.isAgg193
  z146 := Tryz.sizeOf193
  v146 := Tryz.zeroValue193
  t148 := Tryz.underlying195
  a148 := Tryz.isAgg195
  z148 := Tryz.sizeOf195
  v148 := Tryz.zeroValue195
  t164 := Tryz.underlying92
  a164 := Tryz.isAgg92
  z164 := Tryz.sizeOf92
  v164 := Tryz.zeroValue92 }
theorem Tryz.Builder_Extra_105 : Builder.Extra Tryz.prog Tryz.lays105_ren := {
  sizeBuilder := by kernel_rfl
  liesBuilder := by kernel_rfl
  t5 := Tryz.underlying5
  a5 := Tryz.isAgg5
  z5 := Tryz.sizeOf5
  v5 := Tryz.zeroValue5
  infoByte := by kernel_rfl
  cellsByte := by kernel_rfl
  sizeByte := by kernel_rfl
  neB5 := by decide }
open Go.RowKit Go.Lib in
theorem Tryz.strings_Repeat_main (s : ByteArray) (c : Nat) (w : World) (hc2 : 2 ≤ c) (hc : c ≤ 9223372036854775807) (hlen : s.size * c ≤ 140737488355328) (h0 : 0 < s.size) :
    Calls Tryz.prog 101 #[.string s, .int .i64 c] w fun e w' => e = .returned (.string ⟨(Lib.repeatL s.data.toList c).toArray⟩) ∧ Below w.heap.size w w' := Any.strings_Repeat_main Tryz.lays105 Tryz.Builder_Extra_105 s c w hc2 hc hlen h0
open Go.RowKit Go.Lib in
theorem Tryz.strings_Repeat_zero (s : ByteArray) (w : World) :
    Calls Tryz.prog 101 #[.string s, .int .i64 0] w fun e w' => e = .returned (.string ⟨#[]⟩) ∧ w' = w := Any.strings_Repeat_zero Tryz.lays105 s w
open Go.RowKit Go.Lib in
theorem Tryz.strings_Repeat_one (s : ByteArray) (w : World) :
    Calls Tryz.prog 101 #[.string s, .int .i64 1] w fun e w' => e = .returned (.string s) ∧ w' = w := Any.strings_Repeat_one Tryz.lays105 s w
open Go.RowKit Go.Lib in
theorem Tryz.strings_Repeat_empty (s : ByteArray) (c : Nat) (w : World) (hc2 : 2 ≤ c) (hc : c ≤ 9223372036854775807) (h0 : s.size = 0) :
    Calls Tryz.prog 101 #[.string s, .int .i64 c] w fun e w' => e = .returned (.string ⟨#[]⟩) ∧ w' = w := Any.strings_Repeat_empty Tryz.lays105 s c w hc2 hc h0
open Go.RowKit Go.Lib in
theorem Tryz.strings_Repeat_negative (s : ByteArray) (c : Int) (w : World) (hc : c < 0) :
    Calls Tryz.prog 101 #[.string s, .int .i64 c] w fun e w' => e = .panicked [{ v := repeatPanic Tryz.lays105_ren "strings: negative Repeat count", recovered := false }] ∧ w' = w := Any.strings_Repeat_negative Tryz.lays105 s c w hc
open Go.RowKit Go.Lib in
theorem Tryz.strings_Repeat_overflow (s : ByteArray) (c : Nat) (w : World) (hc : c ≤ 9223372036854775807) (hs : s.size ≤ 9223372036854775807) (hbig : 9223372036854775807 < s.size * c) :
    Calls Tryz.prog 101 #[.string s, .int .i64 c] w fun e w' => e = .panicked [{ v := repeatPanic Tryz.lays105_ren "strings: Repeat output length overflow", recovered := false }] ∧ w' = w := Any.strings_Repeat_overflow Tryz.lays105 s c w hc hs hbig
open Go.RowKit Go.Lib in
theorem Tryz.strings_Repeat (s : ByteArray) (c : Nat) (w : World) (hc : c ≤ 9223372036854775807) (hlen : s.size * c ≤ 140737488355328) :
    Calls Tryz.prog 101 #[.string s, .int .i64 c] w fun e w' => e = .returned (.string ⟨(Lib.repeatL s.data.toList c).toArray⟩) ∧ Below w.heap.size w w' := Any.strings_Repeat Tryz.lays105 Tryz.Builder_Extra_105 s c w hc hlen
def Tryz.lays260_ren : Go.Shelf.Ren := ⟨fun | 260 => 81 | n => n, fun | 9 => 9 | 21 => 21 | 3 => 3 | 4 => 4 | 5 => 5 | 119 => 143 | 0 => 0 | 46 => 144 | 139 => 147 | 138 => 146 | n => n, fun | 3 => 2 | 4 => 3 | n => n⟩
theorem Tryz.lays260 : Go.Proofs.Lays.n260 Tryz.prog Tryz.lays260_ren := {
  mixed := by kernel_rfl
  f260 := Tryz.func81.trans (congrArg some (by kernel_rfl))
  t0 := Tryz.underlying0
  a0 := Tryz.isAgg0
  z0 := Tryz.sizeOf0
  v0 := Tryz.zeroValue0
  t3 := Tryz.underlying3
  a3 := Tryz.isAgg3
  z3 := Tryz.sizeOf3
  v3 := Tryz.zeroValue3
  t4 := Tryz.underlying4
  a4 := Tryz.isAgg4
  z4 := Tryz.sizeOf4
  v4 := Tryz.zeroValue4
  t5 := Tryz.underlying5
  a5 := Tryz.isAgg5
  z5 := Tryz.sizeOf5
  v5 := Tryz.zeroValue5
  t9 := Tryz.underlying9
  a9 := Tryz.isAgg9
  z9 := Tryz.sizeOf9
  v9 := Tryz.zeroValue9
  t21 := Tryz.underlying21
  a21 := Tryz.isAgg21
  z21 := Tryz.sizeOf21
  v21 := Tryz.zeroValue21
  t46 := Tryz.underlying144
  a46 := Tryz.isAgg144
  z46 := Tryz.sizeOf144
  v46 := Tryz.zeroValue144
  t119 := Tryz.underlying143
  a119 := Tryz.isAgg143
  z119 := Tryz.sizeOf143
  t138 := Tryz.underlying146
  a138 := Tryz.isAgg146
  z138 := Tryz.sizeOf146
  v138 := Tryz.zeroValue146
  t139 := Tryz.underlying147
  a139 := Tryz.isAgg147
  z139 := Tryz.sizeOf147
  v139 := Tryz.zeroValue147
  g3 := by kernel_rfl
  g4 := by kernel_rfl }
open Go.RowKit Go.Lib in
theorem Tryz.utf8_decodeRuneInStringSlow (s : ByteArray) (w : World) (hT : Lib.Utf8Tabs 2 3 w) :
    Calls Tryz.prog 81 #[.string s] w fun e w' => e = .returned (.tuple #[.int .i32 (Lib.decodeGo s).1, .int .i64 (Lib.decodeGo s).2]) ∧ Below w.heap.size w w' := Any.utf8_decodeRuneInStringSlow Tryz.lays260 s w hT
open Go.RowKit Go.Lib in
theorem Tryz.utf8_DecodeRuneInString (s : ByteArray) (w : World) (hT : Lib.Utf8Tabs 2 3 w) :
    Calls Tryz.prog 58 #[.string s] w fun e w' => e = .returned (.tuple #[.int .i32 (Lib.decodeGo s).1, .int .i64 (Lib.decodeGo s).2]) ∧ Below w.heap.size w w' := Any.utf8_DecodeRuneInString Tryz.lays197 s w hT
def Tryz.lays311_ren : Go.Shelf.Ren := ⟨fun | 311 => 92 | n => n, fun | 193 => 148 | 49 => 152 | 4 => 4 | 3 => 3 | 0 => 0 | 226 => 170 | 198 => 154 | 46 => 144 | n => n, fun | n => n⟩
theorem Tryz.lays311 : Go.Proofs.Lays.n311 Tryz.prog Tryz.lays311_ren := {
  mixed := by kernel_rfl
  f311 := Tryz.func92.trans (congrArg some (by kernel_rfl))
  t0 := Tryz.underlying0
  a0 := Tryz.isAgg0
  z0 := Tryz.sizeOf0
  v0 := Tryz.zeroValue0
  t3 := Tryz.underlying3
  a3 := Tryz.isAgg3
  z3 := Tryz.sizeOf3
  v3 := Tryz.zeroValue3
  t4 := Tryz.underlying4
  a4 := Tryz.isAgg4
  z4 := Tryz.sizeOf4
  v4 := Tryz.zeroValue4
  t46 := Tryz.underlying144
  a46 := Tryz.isAgg144
  z46 := Tryz.sizeOf144
  v46 := Tryz.zeroValue144
  t49 := Tryz.underlying152
  a49 := Tryz.isAgg152
  z49 := Tryz.sizeOf152
  v49 := Tryz.zeroValue152
  t193 := Tryz.underlying148
  a193 := Tryz.isAgg148
  z193 := Tryz.sizeOf148
  v193 := Tryz.zeroValue148
  t198 := Tryz.underlying154
  a198 := Tryz.isAgg154
  z198 := Tryz.sizeOf154
  v198 := Tryz.zeroValue154
  t226 := Tryz.underlying170
  a226 := Tryz.isAgg170
  z226 := Tryz.sizeOf170
  v226 := Tryz.zeroValue170 }
open Go.RowKit Go.Lib in
theorem Tryz.unicode_is16_white (R oR : Nat) (z : Nat) (w : World) (hz : z < 65536) (hz0 : 255 < z) (c6 : w.cell? ⟨R, oR + 6, none⟩ = some (.int .u16 160)) (c7 : w.cell? ⟨R, oR + 7, none⟩ = some (.int .u16 5760)) (c8 : w.cell? ⟨R, oR + 8, none⟩ = some (.int .u16 5600)) (c9 : w.cell? ⟨R, oR + 9, none⟩ = some (.int .u16 8192)) (c10 : w.cell? ⟨R, oR + 10, none⟩ = some (.int .u16 8202)) (c11 : w.cell? ⟨R, oR + 11, none⟩ = some (.int .u16 1)) (c12 : w.cell? ⟨R, oR + 12, none⟩ = some (.int .u16 8232)) (c13 : w.cell? ⟨R, oR + 13, none⟩ = some (.int .u16 8233)) (c14 : w.cell? ⟨R, oR + 14, none⟩ = some (.int .u16 1)) (c15 : w.cell? ⟨R, oR + 15, none⟩ = some (.int .u16 8239)) (c16 : w.cell? ⟨R, oR + 16, none⟩ = some (.int .u16 8287)) (c17 : w.cell? ⟨R, oR + 17, none⟩ = some (.int .u16 48)) (c18 : w.cell? ⟨R, oR + 18, none⟩ = some (.int .u16 12288)) (c19 : w.cell? ⟨R, oR + 19, none⟩ = some (.int .u16 12288)) (c20 : w.cell? ⟨R, oR + 20, none⟩ = some (.int .u16 1)) :
    Calls Tryz.prog 92 #[.slice (some ⟨R, oR + 6, none⟩) 5 5, .int .u16 z] w fun e w' => e = .returned (.bool (Lib.isSpaceR z)) ∧ Below w.heap.size w w' := Any.unicode_is16_white Tryz.lays311 R oR z w hz hz0 c6 c7 c8 c9 c10 c11 c12 c13 c14 c15 c16 c17 c18 c19 c20
def Tryz.lays261_ren : Go.Shelf.Ren := ⟨fun | 261 => 82 | 311 => 92 | 312 => 93 | n => n, fun | 141 => 132 | 21 => 21 | 4 => 4 | 0 => 0 | 196 => 151 | 193 => 148 | 3 => 3 | 51 => 130 | 198 => 154 | 49 => 152 | 194 => 149 | 201 => 157 | 226 => 170 | 46 => 144 | 227 => 171 | n => n, fun | n => n⟩
theorem Tryz.lays261 : Go.Proofs.Lays.n261 Tryz.prog Tryz.lays261_ren := {
  mixed := by kernel_rfl
  f261 := Tryz.func82.trans (congrArg some (by kernel_rfl))
  f311 := Tryz.func92.trans (congrArg some (by kernel_rfl))
  f312 := Tryz.func93.trans (congrArg some (by kernel_rfl))
  t0 := Tryz.underlying0
  a0 := Tryz.isAgg0
  z0 := Tryz.sizeOf0
  v0 := Tryz.zeroValue0
  t3 := Tryz.underlying3
  a3 := Tryz.isAgg3
  z3 := Tryz.sizeOf3
  v3 := Tryz.zeroValue3
  t4 := Tryz.underlying4
  a4 := Tryz.isAgg4
  z4 := Tryz.sizeOf4
  v4 := Tryz.zeroValue4
  t21 := Tryz.underlying21
  a21 := Tryz.isAgg21
  z21 := Tryz.sizeOf21
  v21 := Tryz.zeroValue21
  t46 := Tryz.underlying144
  a46 := Tryz.isAgg144
  z46 := Tryz.sizeOf144
  v46 := Tryz.zeroValue144
  t49 := Tryz.underlying152
  a49 := Tryz.isAgg152
  z49 := Tryz.sizeOf152
  v49 := Tryz.zeroValue152
  t51 := Tryz.underlying130
  a51 := Tryz.isAgg130
  z51 := Tryz.sizeOf130
  v51 := Tryz.zeroValue130
  t141 := Tryz.underlying132
  a141 := Tryz.isAgg132
  z141 := Tryz.sizeOf132
  v141 := Tryz.zeroValue132
  t193 := Tryz.underlying148
  a193 := Tryz.isAgg148
  z193 := Tryz.sizeOf148
  v193 := Tryz.zeroValue148
  t194 := Tryz.underlying149
  a194 := Tryz.isAgg149
  z194 := Tryz.sizeOf149
  v194 := Tryz.zeroValue149
  t196 := Tryz.underlying151
  a196 := Tryz.isAgg151
  z196 := Tryz.sizeOf151
  v196 := Tryz.zeroValue151
  t198 := Tryz.underlying154
  a198 := Tryz.isAgg154
  z198 := Tryz.sizeOf154
  v198 := Tryz.zeroValue154
  t201 := Tryz.underlying157
  a201 := Tryz.isAgg157
  z201 := Tryz.sizeOf157
  v201 := Tryz.zeroValue157
  t226 := Tryz.underlying170
  a226 := Tryz.isAgg170
  z226 := Tryz.sizeOf170
  v226 := Tryz.zeroValue170
  t227 := Tryz.underlying171
  a227 := Tryz.isAgg171
  z227 := Tryz.sizeOf171
  v227 := Tryz.zeroValue171 }
open Go.RowKit Go.Lib in
theorem Tryz.unicode_isExcludingLatin_white (T oT R oR : Nat) (r : Int) (w : World) (hlo : -2147483648 ≤ r) (hhi : r ≤ 2147483647) (hr : r < 0 ∨ 255 < r) (h2 : w.cell? ⟨T, oT, none⟩ = some (.slice (some ⟨R, oR, none⟩) 7 7)) (h3 : w.cell? ⟨T, oT + 1, none⟩ = some (.slice none 0 0)) (h4 : w.cell? ⟨T, oT + 2, none⟩ = some (.int .i64 2)) (h5 : ∀ i, i < 21 → w.cell? ⟨R, oR + i, none⟩ = some (.int .u16 (whiteT.getD i 0))) :
    Calls Tryz.prog 82 #[.pointer (some ⟨T, oT, none⟩), .int .i32 r] w fun e w' => e = .returned (.bool (Lib.isSpaceZ r)) ∧ Below w.heap.size w w' := Any.unicode_isExcludingLatin_white Tryz.lays261 T oT R oR r w hlo hhi hr h2 h3 h4 h5
open Go.RowKit Go.Lib in
theorem Tryz.unicode_IsSpace_any (r : Int) (w : World) (hlo : -2147483648 ≤ r) (hhi : r ≤ 2147483647) (hW : Lib.WhiteTab 1 w) :
    Calls Tryz.prog 59 #[.int .i32 r] w fun e w' => e = .returned (.bool (Lib.isSpaceZ r)) ∧ Below w.heap.size w w' := Any.unicode_IsSpace_any Tryz.lays199 r w hlo hhi hW
open Go.RowKit Go.Lib in
theorem Tryz.unicode_is16_white_d (R oR : Nat) (z : Nat) (w : World) (hz : z < 65536) (hz0 : 255 < z) (c6 : w.cell? ⟨R, oR + 6, none⟩ = some (.int .u16 160)) (c7 : w.cell? ⟨R, oR + 7, none⟩ = some (.int .u16 5760)) (c8 : w.cell? ⟨R, oR + 8, none⟩ = some (.int .u16 5600)) (c9 : w.cell? ⟨R, oR + 9, none⟩ = some (.int .u16 8192)) (c10 : w.cell? ⟨R, oR + 10, none⟩ = some (.int .u16 8202)) (c11 : w.cell? ⟨R, oR + 11, none⟩ = some (.int .u16 1)) (c12 : w.cell? ⟨R, oR + 12, none⟩ = some (.int .u16 8232)) (c13 : w.cell? ⟨R, oR + 13, none⟩ = some (.int .u16 8233)) (c14 : w.cell? ⟨R, oR + 14, none⟩ = some (.int .u16 1)) (c15 : w.cell? ⟨R, oR + 15, none⟩ = some (.int .u16 8239)) (c16 : w.cell? ⟨R, oR + 16, none⟩ = some (.int .u16 8287)) (c17 : w.cell? ⟨R, oR + 17, none⟩ = some (.int .u16 48)) (c18 : w.cell? ⟨R, oR + 18, none⟩ = some (.int .u16 12288)) (c19 : w.cell? ⟨R, oR + 19, none⟩ = some (.int .u16 12288)) (c20 : w.cell? ⟨R, oR + 20, none⟩ = some (.int .u16 1)) :
    Calls Tryz.prog 92 #[.slice (some ⟨R, oR + 6, none⟩) 5 5, .int .u16 z] w fun e w' => e = .returned (.bool (Lib.isSpaceR z)) ∧ ∃ q, w' = w.drewN q := Any.unicode_is16_white_d Tryz.lays311 R oR z w hz hz0 c6 c7 c8 c9 c10 c11 c12 c13 c14 c15 c16 c17 c18 c19 c20
open Go.RowKit Go.Lib in
theorem Tryz.unicode_isExcludingLatin_white_d (T oT R oR : Nat) (r : Int) (w : World) (hlo : -2147483648 ≤ r) (hhi : r ≤ 2147483647) (hr : r < 0 ∨ 255 < r) (h2 : w.cell? ⟨T, oT, none⟩ = some (.slice (some ⟨R, oR, none⟩) 7 7)) (h3 : w.cell? ⟨T, oT + 1, none⟩ = some (.slice none 0 0)) (h4 : w.cell? ⟨T, oT + 2, none⟩ = some (.int .i64 2)) (h5 : ∀ i, i < 21 → w.cell? ⟨R, oR + i, none⟩ = some (.int .u16 (whiteT.getD i 0))) :
    Calls Tryz.prog 82 #[.pointer (some ⟨T, oT, none⟩), .int .i32 r] w fun e w' => e = .returned (.bool (Lib.isSpaceZ r)) ∧ ∃ q, w' = w.drewN q := Any.unicode_isExcludingLatin_white_d Tryz.lays261 T oT R oR r w hlo hhi hr h2 h3 h4 h5
open Go.RowKit Go.Lib in
theorem Tryz.unicode_IsSpace_any_d (r : Int) (w : World) (hlo : -2147483648 ≤ r) (hhi : r ≤ 2147483647) (hW : Lib.WhiteTab 1 w) :
    Calls Tryz.prog 59 #[.int .i32 r] w fun e w' => e = .returned (.bool (Lib.isSpaceZ r)) ∧ ∃ q, w' = w.drewN q := Any.unicode_IsSpace_any_d Tryz.lays199 r w hlo hhi hW
open Go.RowKit Go.Lib in
theorem Tryz.unicode_is16_any (T : Array Rg) (R oR cap : Nat) (z : Nat) (w : World) (hz : z < 65536) (hT : RgTab .u16 R oR T w) (hok : RgOk 65536 T) (hn : T.size ≤ 1000000000) :
    Calls Tryz.prog 92 #[.slice (some ⟨R, oR, none⟩) T.size cap, .int .u16 z] w fun e w' => e = .returned (.bool (is16Go T z)) ∧ ∃ q, w' = w.drewN q := Any.unicode_is16_any Tryz.lays311 T R oR cap z w hz hT hok hn
def Tryz.lays312_ren : Go.Shelf.Ren := ⟨fun | 312 => 93 | n => n, fun | 194 => 149 | 51 => 130 | 4 => 4 | 3 => 3 | 0 => 0 | 227 => 171 | 201 => 157 | 46 => 144 | n => n, fun | n => n⟩
theorem Tryz.lays312 : Go.Proofs.Lays.n312 Tryz.prog Tryz.lays312_ren := {
  mixed := by kernel_rfl
  f312 := Tryz.func93.trans (congrArg some (by kernel_rfl))
  t0 := Tryz.underlying0
  a0 := Tryz.isAgg0
  z0 := Tryz.sizeOf0
  v0 := Tryz.zeroValue0
  t3 := Tryz.underlying3
  a3 := Tryz.isAgg3
  z3 := Tryz.sizeOf3
  v3 := Tryz.zeroValue3
  t4 := Tryz.underlying4
  a4 := Tryz.isAgg4
  z4 := Tryz.sizeOf4
  v4 := Tryz.zeroValue4
  t46 := Tryz.underlying144
  a46 := Tryz.isAgg144
  z46 := Tryz.sizeOf144
  v46 := Tryz.zeroValue144
  t51 := Tryz.underlying130
  a51 := Tryz.isAgg130
  z51 := Tryz.sizeOf130
  v51 := Tryz.zeroValue130
  t194 := Tryz.underlying149
  a194 := Tryz.isAgg149
  z194 := Tryz.sizeOf149
  v194 := Tryz.zeroValue149
  t201 := Tryz.underlying157
  a201 := Tryz.isAgg157
  z201 := Tryz.sizeOf157
  v201 := Tryz.zeroValue157
  t227 := Tryz.underlying171
  a227 := Tryz.isAgg171
  z227 := Tryz.sizeOf171
  v227 := Tryz.zeroValue171 }
open Go.RowKit Go.Lib in
theorem Tryz.unicode_is32_any (T : Array Rg) (R oR cap : Nat) (z : Nat) (w : World) (hz : z < 4294967296) (hT : RgTab .u32 R oR T w) (hok : RgOk 4294967296 T) (hn : T.size ≤ 1000000000) :
    Calls Tryz.prog 93 #[.slice (some ⟨R, oR, none⟩) T.size cap, .int .u32 z] w fun e w' => e = .returned (.bool (is32Go T z)) ∧ Below w.heap.size w w' := Any.unicode_is32_any Tryz.lays312 T R oR cap z w hz hT hok hn
open Go.RowKit Go.Lib in
theorem Tryz.unicode_isExcludingLatin_any (Tb oT : Nat) (T : RTab) (r : Int) (w : World) (hlo : -2147483648 ≤ r) (hhi : r ≤ 2147483647) (hA : RTabAt Tb oT T w) (hok : RTabOk T) :
    Calls Tryz.prog 82 #[.pointer (some ⟨Tb, oT, none⟩), .int .i32 r] w fun e w' => e = .returned (.bool (exclGo T r)) ∧ Below w.heap.size w w' := Any.unicode_isExcludingLatin_any Tryz.lays261 Tb oT T r w hlo hhi hA hok
def Tryz.lays7n30_ren : Go.Shelf.Ren := ⟨fun | 30 => 87 | 47 => 96 | n => n, fun | 30 => 33 | 21 => 21 | 3 => 3 | 27 => 130 | 4 => 4 | 5 => 5 | 0 => 0 | 25 => 144 | n => n, fun | n => n⟩
theorem Tryz.lays7n30 : Go.Proofs.Lays7.n30 Tryz.prog Tryz.lays7n30_ren := {
  mixed := by kernel_rfl
  f30 := Tryz.func87.trans (congrArg some (by kernel_rfl))
  f47 := Tryz.func96.trans (congrArg some (by kernel_rfl))
  t0 := Tryz.underlying0
  a0 := Tryz.isAgg0
  z0 := Tryz.sizeOf0
  v0 := Tryz.zeroValue0
  i0 := by kernel_rfl
  t3 := Tryz.underlying3
  a3 := Tryz.isAgg3
  z3 := Tryz.sizeOf3
  v3 := Tryz.zeroValue3
  i3 := by kernel_rfl
  t4 := Tryz.underlying4
  a4 := Tryz.isAgg4
  z4 := Tryz.sizeOf4
  v4 := Tryz.zeroValue4
  i4 := by kernel_rfl
  t5 := Tryz.underlying5
  a5 := Tryz.isAgg5
  z5 := Tryz.sizeOf5
  v5 := Tryz.zeroValue5
  i5 := by kernel_rfl
  t21 := Tryz.underlying21
  a21 := Tryz.isAgg21
  z21 := Tryz.sizeOf21
  v21 := Tryz.zeroValue21
  i21 := by kernel_rfl
  t25 := Tryz.underlying144
  a25 := Tryz.isAgg144
  z25 := Tryz.sizeOf144
  v25 := Tryz.zeroValue144
  i25 := by kernel_rfl
  t27 := Tryz.underlying130
  a27 := Tryz.isAgg130
  z27 := Tryz.sizeOf130
  v27 := Tryz.zeroValue130
  i27 := by kernel_rfl
  t30 := Tryz.underlying33
  a30 := Tryz.isAgg33
  z30 := Tryz.sizeOf33
  v30 := Tryz.zeroValue33
  i30 := by kernel_rfl }
open Go.RowKit Go.Lib in
theorem Tryz.utf8_EncodeRune (b off len cap : Nat) (r : Int) (hlo : -2147483648 ≤ r) (hhi : r ≤ 2147483647) (w : World) (hl : (Lib.runeCells r).length ≤ len)
    (hc : ∀ j, j < (Lib.runeCells r).length → (w.cell? ⟨b, off + j, none⟩).isSome = true) (hf : ∀ j, j < (Lib.runeCells r).length → w.frozen? ⟨b, off + j, none⟩ = false) :
    Calls Tryz.prog 87 #[.slice (some ⟨b, off, none⟩) len cap, .int .i32 r] w fun e w' => e = .returned (.int .i64 (Lib.runeCells r).length) ∧ w' = w.setCells b off (Lib.runeCells r) := Any7.utf8_EncodeRune Tryz.lays7n30 b off len cap r hlo hhi w hl hc hf
end Go.Proofs
