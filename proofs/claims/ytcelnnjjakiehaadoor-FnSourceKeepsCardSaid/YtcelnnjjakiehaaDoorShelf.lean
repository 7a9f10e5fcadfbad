/-
  The contracts of the library functions that this seat's program calls, as the kit's own tool lays them over this dump (lay-shelf, then lay-plain). Nothing of them is ours.
-/
import Derived.Shelf.Strings.Builder1
import Derived.Shelf.Strings.Builder2
import Derived.Shelf.Strings.BuilderF
import Derived.Shelf.Strings.BuilderK
import Derived.Shelf.Strconv.Itoa0
import Derived.Shelf.Strconv.Itoa1
import Derived.Shelf.LaysM
import Derived.Shelf.Strconv.Itoa2
import Derived.Shelf.Strconv.Itoa3
import Derived.Shelf.Bytes.Len
import Derived.Shelf.Bytes.TryGrow
import Derived.Shelf.Bytes.GrowSliceCatch
import Derived.Shelf.Bytes.GrowSlice
import Derived.Shelf.Bytes.String
import Derived.Shelf.Bytes.GrowRow0Kept
import Derived.Shelf.Bytes.GrowRowKept
import Derived.Shelf.Bytes.GrowNilKept
import Derived.Shelf.Bytes.GrowKept
import Derived.Shelf.Bytes.WriteStringKept
import Derived.Shelf.Bytes.ResetKept
import Derived.Shelf.Bytes.BufferK
import Derived.Shelf.Strings.Prefix
import Derived.Shelf.Bits.Mul64
import Derived.Shelf.Strings.Repeat
import Derived.Test.YtcelnnjjakiehaaDoorProg
namespace Go.Proofs
open Go.Shelf
def Tryd.lays170_ren : Go.Shelf.Ren := ⟨fun | 170 => 25 | n => n, fun | 70 => 61 | 3 => 3 | 0 => 0 | 72 => 63 | 37 => 41 | 5 => 5 | n => n, fun | n => n⟩
theorem Tryd.lays170 : Go.Proofs.Lays.n170 Tryd.prog Tryd.lays170_ren := {
  mixed := by kernel_rfl
  f170 := Tryd.func25.trans (congrArg some (by kernel_rfl))
  t0 := Tryd.underlying0
  a0 := Tryd.isAgg0
  z0 := Tryd.sizeOf0
  v0 := Tryd.zeroValue0
  t3 := Tryd.underlying3
  a3 := Tryd.isAgg3
  z3 := Tryd.sizeOf3
  v3 := Tryd.zeroValue3
  t37 := Tryd.underlying41
  a37 := Tryd.isAgg41
  z37 := Tryd.sizeOf41
  v37 := Tryd.zeroValue41
  t70 := Tryd.underlying61
  a70 := Tryd.isAgg61
  z70 := Tryd.sizeOf61
  v70 := Tryd.zeroValue61
  t72 := Tryd.underlying63
  a72 := Tryd.isAgg63
  z72 := Tryd.sizeOf63
  v72 := Tryd.zeroValue63 }
open Go.RowKit in
theorem Tryd.Builder_Len (B b : Nat) (bs : List Value) (w : World) (h : Lib.IsBuilder 63 5 B b bs w) :
    Calls Tryd.prog 25 #[.pointer (some ⟨b, 0, none⟩)] w fun e w' => e = .returned (.int .i64 bs.length) ∧ w' = w := Any.Builder_Len Tryd.lays170 B b bs w h
def Tryd.lays169_ren : Go.Shelf.Ren := ⟨fun | 169 => 26 | n => n, fun | 70 => 61 | 9 => 9 | 0 => 0 | 72 => 63 | 37 => 41 | 127 => 75 | 3 => 3 | 5 => 5 | n => n, fun | n => n⟩
theorem Tryd.lays169 : Go.Proofs.Lays.n169 Tryd.prog Tryd.lays169_ren := {
  mixed := by kernel_rfl
  f169 := Tryd.func26.trans (congrArg some (by kernel_rfl))
  t0 := Tryd.underlying0
  a0 := Tryd.isAgg0
  z0 := Tryd.sizeOf0
  v0 := Tryd.zeroValue0
  t3 := Tryd.underlying3
  a3 := Tryd.isAgg3
  z3 := Tryd.sizeOf3
  v3 := Tryd.zeroValue3
  t9 := Tryd.underlying9
  a9 := Tryd.isAgg9
  z9 := Tryd.sizeOf9
  v9 := Tryd.zeroValue9
  t37 := Tryd.underlying41
  a37 := Tryd.isAgg41
  z37 := Tryd.sizeOf41
  v37 := Tryd.zeroValue41
  t70 := Tryd.underlying61
  a70 := Tryd.isAgg61
  z70 := Tryd.sizeOf61
  v70 := Tryd.zeroValue61
  t72 := Tryd.underlying63
  a72 := Tryd.isAgg63
  z72 := Tryd.sizeOf63
  v72 := Tryd.zeroValue63
  t127 := Tryd.underlying75
  a127 := Tryd.isAgg75
  z127 := Tryd.sizeOf75
  v127 := Tryd.zeroValue75 }
theorem Tryd.Builder_Extra_169 : Builder.Extra Tryd.prog Tryd.lays169_ren := {
  sizeBuilder := by kernel_rfl
  liesBuilder := by kernel_rfl
  t5 := Tryd.underlying5
  a5 := Tryd.isAgg5
  z5 := Tryd.sizeOf5
  v5 := Tryd.zeroValue5
  infoByte := by kernel_rfl
  cellsByte := by kernel_rfl
  sizeByte := by kernel_rfl
  neB5 := by decide }
open Go.RowKit in
theorem Tryd.Builder_String (B b : Nat) (l : List UInt8) (w : World) (h : Lib.IsBuilder 63 5 B b (Lib.byteCells l) w) (h0 : l ≠ []) :
    Calls Tryd.prog 26 #[.pointer (some ⟨b, 0, none⟩)] w fun e w' => e = .returned (.string ⟨l.toArray⟩) ∧ Below B w w' := Any.Builder_String Tryd.lays169 Tryd.Builder_Extra_169 B b l w h h0
open Go.RowKit in
theorem Tryd.Builder_String_empty (B b : Nat) (w : World) (h : Lib.IsBuilder 63 5 B b [] w) (hBw : B ≤ w.heap.size) :
    Calls Tryd.prog 26 #[.pointer (some ⟨b, 0, none⟩)] w fun e w' => e = .returned (.string ⟨#[]⟩) ∧ Below B w w' := Any.Builder_String_empty Tryd.lays169 Tryd.Builder_Extra_169 B b w h hBw
open Go.RowKit in
theorem Tryd.Builder_String_any (B b : Nat) (l : List UInt8) (w : World) (h : Lib.IsBuilder 63 5 B b (Lib.byteCells l) w) (hBw : B ≤ w.heap.size) :
    Calls Tryd.prog 26 #[.pointer (some ⟨b, 0, none⟩)] w fun e w' => e = .returned (.string ⟨l.toArray⟩) ∧ Below B w w' := Any.Builder_String_any Tryd.lays169 Tryd.Builder_Extra_169 B b l w h hBw
def Tryd.lays241_ren : Go.Shelf.Ren := ⟨fun | 241 => 36 | 277 => 41 | n => n, fun | 70 => 61 | 3 => 3 | 0 => 0 | 72 => 63 | 37 => 41 | 5 => 5 | n => n, fun | n => n⟩
theorem Tryd.lays241 : Go.Proofs.Lays.n241 Tryd.prog Tryd.lays241_ren := {
  mixed := by kernel_rfl
  f241 := Tryd.func36.trans (congrArg some (by kernel_rfl))
  f277 := Tryd.func41.trans (congrArg some (by kernel_rfl))
  t0 := Tryd.underlying0
  a0 := Tryd.isAgg0
  z0 := Tryd.sizeOf0
  v0 := Tryd.zeroValue0
  t3 := Tryd.underlying3
  a3 := Tryd.isAgg3
  z3 := Tryd.sizeOf3
  v3 := Tryd.zeroValue3
  t37 := Tryd.underlying41
  a37 := Tryd.isAgg41
  z37 := Tryd.sizeOf41
  v37 := Tryd.zeroValue41
  t70 := Tryd.underlying61
  a70 := Tryd.isAgg61
  z70 := Tryd.sizeOf61
  v70 := Tryd.zeroValue61
  t72 := Tryd.underlying63
  a72 := Tryd.isAgg63
  z72 := Tryd.sizeOf63
  v72 := Tryd.zeroValue63 }
theorem Tryd.Builder_Extra_241 : Builder.Extra Tryd.prog Tryd.lays241_ren := {
  sizeBuilder := by kernel_rfl
  liesBuilder := by kernel_rfl
  t5 := Tryd.underlying5
  a5 := Tryd.isAgg5
  z5 := Tryd.sizeOf5
  v5 := Tryd.zeroValue5
  infoByte := by kernel_rfl
  cellsByte := by kernel_rfl
  sizeByte := by kernel_rfl
  neB5 := by decide }
open Go.RowKit in
theorem Tryd.Builder_grow_fresh (B b n : Nat) (w : World) (hB : B ≤ b) (hbk : w.heap[b]? = some (.cells #[.pointer (some ⟨b, 0, none⟩), .slice none 0 0] 63 (0, 0))) (hBw : B ≤ w.heap.size) (hn : n ≤ 281474976710656) :
    Calls Tryd.prog 36 #[.pointer (some ⟨b, 0, none⟩), .int .i64 n] w fun e w' => e = .returned (.tuple #[]) ∧ (Lib.BuilderAt 63 5 B b (.pointer (some ⟨b, 0, none⟩)) [] w' ∧ Below B w w') := Any.Builder_grow_fresh Tryd.lays241 Tryd.Builder_Extra_241 B b n w hB hbk hBw hn
def Tryd.lays165_ren : Go.Shelf.Ren := ⟨fun | 165 => 23 | 240 => 35 | 241 => 36 | 276 => 40 | 277 => 41 | n => n, fun | 70 => 61 | 3 => 3 | 0 => 0 | 4 => 4 | 9 => 9 | 20 => 20 | 72 => 63 | 37 => 41 | 164 => 78 | 5 => 5 | n => n, fun | n => n⟩
theorem Tryd.lays165 : Go.Proofs.Lays.n165 Tryd.prog Tryd.lays165_ren := {
  mixed := by kernel_rfl
  f165 := Tryd.func23.trans (congrArg some (by kernel_rfl))
  f240 := Tryd.func35.trans (congrArg some (by kernel_rfl))
  f241 := Tryd.func36.trans (congrArg some (by kernel_rfl))
  f276 := Tryd.func40.trans (congrArg some (by kernel_rfl))
  f277 := Tryd.func41.trans (congrArg some (by kernel_rfl))
  t0 := Tryd.underlying0
  a0 := Tryd.isAgg0
  z0 := Tryd.sizeOf0
  v0 := Tryd.zeroValue0
  t3 := Tryd.underlying3
  a3 := Tryd.isAgg3
  z3 := Tryd.sizeOf3
  v3 := Tryd.zeroValue3
  t4 := Tryd.underlying4
  a4 := Tryd.isAgg4
  z4 := Tryd.sizeOf4
  v4 := Tryd.zeroValue4
  t9 := Tryd.underlying9
  a9 := Tryd.isAgg9
  z9 := Tryd.sizeOf9
  v9 := Tryd.zeroValue9
  t20 := Tryd.underlying20
  a20 := Tryd.isAgg20
  z20 := Tryd.sizeOf20
  v20 := Tryd.zeroValue20
  t37 := Tryd.underlying41
  a37 := Tryd.isAgg41
  z37 := Tryd.sizeOf41
  v37 := Tryd.zeroValue41
  t70 := Tryd.underlying61
  a70 := Tryd.isAgg61
  z70 := Tryd.sizeOf61
  v70 := Tryd.zeroValue61
  t72 := Tryd.underlying63
  a72 := Tryd.isAgg63
  z72 := Tryd.sizeOf63
  v72 := Tryd.zeroValue63
  t164 := Tryd.underlying78
  a164 := Tryd.isAgg78
  z164 := Tryd.sizeOf78
  v164 := Tryd.zeroValue78 }
theorem Tryd.Builder_Extra_165 : Builder.Extra Tryd.prog Tryd.lays165_ren := {
  sizeBuilder := by kernel_rfl
  liesBuilder := by kernel_rfl
  t5 := Tryd.underlying5
  a5 := Tryd.isAgg5
  z5 := Tryd.sizeOf5
  v5 := Tryd.zeroValue5
  infoByte := by kernel_rfl
  cellsByte := by kernel_rfl
  sizeByte := by kernel_rfl
  neB5 := by decide }
open Go.RowKit in
theorem Tryd.Builder_Grow_fresh (B b n : Nat) (w : World) (hB : B ≤ b) (hbk : w.heap[b]? = some (.cells #[.pointer none, .slice none 0 0] 63 (0, 0))) (hBw : B ≤ w.heap.size) (hn : n ≤ 281474976710656) :
    Calls Tryd.prog 23 #[.pointer (some ⟨b, 0, none⟩), .int .i64 n] w fun e w' => e = .returned (.tuple #[]) ∧ (Lib.BuilderAt 63 5 B b (.pointer (some ⟨b, 0, none⟩)) [] w' ∧ Below B w w') := Any.Builder_Grow_fresh Tryd.lays165 Tryd.Builder_Extra_165 B b n w hB hbk hBw hn
open Go.RowKit in
theorem Tryd.Builder_Len_f (B b : Nat) (bs : List Value) (w : World) (h : Lib.IsBuilderF 63 5 B b bs w) :
    Calls Tryd.prog 25 #[.pointer (some ⟨b, 0, none⟩)] w fun e w' => e = .returned (.int .i64 bs.length) ∧ w' = w := Any.Builder_Len_f Tryd.lays170 B b bs w h
open Go.RowKit in
theorem Tryd.Builder_String_f (B b : Nat) (l : List UInt8) (w : World) (h : Lib.IsBuilderF 63 5 B b (Lib.byteCells l) w) (h0 : l ≠ []) :
    Calls Tryd.prog 26 #[.pointer (some ⟨b, 0, none⟩)] w fun e w' => e = .returned (.string ⟨l.toArray⟩) ∧ (Lib.IsBuilderF 63 5 B b (Lib.byteCells l) w' ∧ Below B w w') := Any.Builder_String_f Tryd.lays169 Tryd.Builder_Extra_169 B b l w h h0
open Go.RowKit in
theorem Tryd.Builder_String_empty_f (B b : Nat) (w : World) (h : Lib.IsBuilderF 63 5 B b [] w) (hBw : B ≤ w.heap.size) :
    Calls Tryd.prog 26 #[.pointer (some ⟨b, 0, none⟩)] w fun e w' => e = .returned (.string ⟨#[]⟩) ∧ (Lib.IsBuilderF 63 5 B b [] w' ∧ Below B w w') := Any.Builder_String_empty_f Tryd.lays169 Tryd.Builder_Extra_169 B b w h hBw
open Go.RowKit in
theorem Tryd.Builder_String_any_f (B b : Nat) (l : List UInt8) (w : World) (h : Lib.IsBuilderF 63 5 B b (Lib.byteCells l) w) (hBw : B ≤ w.heap.size) :
    Calls Tryd.prog 26 #[.pointer (some ⟨b, 0, none⟩)] w fun e w' => e = .returned (.string ⟨l.toArray⟩) ∧ (Lib.IsBuilderF 63 5 B b (Lib.byteCells l) w' ∧ Below B w w') := Any.Builder_String_any_f Tryd.lays169 Tryd.Builder_Extra_169 B b l w h hBw
open Go.RowKit in
theorem Tryd.Builder_String_k (B b : Nat) (l : List UInt8) (w : World) (h : Lib.IsBuilderF 63 5 B b (Lib.byteCells l) w) (h0 : l ≠ []) :
    Calls Tryd.prog 26 #[.pointer (some ⟨b, 0, none⟩)] w fun e w' => e = .returned (.string ⟨l.toArray⟩) ∧ (Lib.IsBuilderF 63 5 B b (Lib.byteCells l) w' ∧ Below B w w' ∧ Lib.OthersKept 5 (some b) w w') := Any.Builder_String_k Tryd.lays169 Tryd.Builder_Extra_169 B b l w h h0
open Go.RowKit in
theorem Tryd.Builder_String_empty_k (B b : Nat) (w : World) (h : Lib.IsBuilderF 63 5 B b [] w) (hBw : B ≤ w.heap.size) :
    Calls Tryd.prog 26 #[.pointer (some ⟨b, 0, none⟩)] w fun e w' => e = .returned (.string ⟨#[]⟩) ∧ (Lib.IsBuilderF 63 5 B b [] w' ∧ Below B w w' ∧ Lib.OthersKept 5 (some b) w w') := Any.Builder_String_empty_k Tryd.lays169 Tryd.Builder_Extra_169 B b w h hBw
open Go.RowKit in
theorem Tryd.Builder_String_any_k (B b : Nat) (l : List UInt8) (w : World) (h : Lib.IsBuilderF 63 5 B b (Lib.byteCells l) w) (hBw : B ≤ w.heap.size) :
    Calls Tryd.prog 26 #[.pointer (some ⟨b, 0, none⟩)] w fun e w' => e = .returned (.string ⟨l.toArray⟩) ∧ (Lib.IsBuilderF 63 5 B b (Lib.byteCells l) w' ∧ Below B w w' ∧ Lib.OthersKept 5 (some b) w w') := Any.Builder_String_any_k Tryd.lays169 Tryd.Builder_Extra_169 B b l w h hBw
def Tryd.lays129_ren : Go.Shelf.Ren := ⟨fun | 129 => 47 | n => n, fun | 53 => 72 | 3 => 3 | 4 => 4 | 46 => 58 | 5 => 5 | 9 => 9 | n => n, fun | n => n⟩
theorem Tryd.lays129 : Go.Proofs.Lays.n129 Tryd.prog Tryd.lays129_ren := {
  mixed := by kernel_rfl
  f129 := Tryd.func47.trans (congrArg some (by kernel_rfl))
  t3 := Tryd.underlying3
  a3 := Tryd.isAgg3
  z3 := Tryd.sizeOf3
  v3 := Tryd.zeroValue3
  t4 := Tryd.underlying4
  a4 := Tryd.isAgg4
  z4 := Tryd.sizeOf4
  v4 := Tryd.zeroValue4
  t5 := Tryd.underlying5
  a5 := Tryd.isAgg5
  z5 := Tryd.sizeOf5
  v5 := Tryd.zeroValue5
  t9 := Tryd.underlying9
  a9 := Tryd.isAgg9
  z9 := Tryd.sizeOf9
  v9 := Tryd.zeroValue9
  t46 := Tryd.underlying58
  a46 := Tryd.isAgg58
  z46 := Tryd.sizeOf58
  v46 := Tryd.zeroValue58
  t53 := Tryd.underlying72
  a53 := Tryd.isAgg72
  z53 := Tryd.sizeOf72
  v53 := Tryd.zeroValue72 }
theorem Tryd.bits_Len64 (x : Int) (w : World) (h0 : 0 ≤ x) (h1 : x ≤ 18446744073709551615) :
    Calls Tryd.prog 47 #[.int .u64 x] w fun e w' => e = .returned (.int .i64 (Lib.bitLen x.toNat)) ∧ w' = w := Any.bits_Len64 Tryd.lays129 x w h0 h1
def Tryd.lays317_ren : Go.Shelf.Ren := ⟨fun | 317 => 46 | n => n, fun | 3 => 3 | 46 => 58 | n => n, fun | n => n⟩
theorem Tryd.lays317 : Go.Proofs.Lays.n317 Tryd.prog Tryd.lays317_ren := {
  mixed := by kernel_rfl
  f317 := Tryd.func46.trans (congrArg some (by kernel_rfl))
  t3 := Tryd.underlying3
  a3 := Tryd.isAgg3
  z3 := Tryd.sizeOf3
  v3 := Tryd.zeroValue3
  t46 := Tryd.underlying58
  a46 := Tryd.isAgg58
  z46 := Tryd.sizeOf58
  v46 := Tryd.zeroValue58 }
open Go.Lib in
theorem Tryd.internal_strconv_log10Pow2 (x : Nat) (h : x ≤ 64) (w : World) :
    Calls Tryd.prog 46 #[.int .i64 x] w fun e w' => e = .returned (.int .i64 (Lib.l10 x)) ∧ w' = w := Any.internal_strconv_log10Pow2 Tryd.lays317 x h w
def Tryd.lays318_ren : Go.Shelf.Ren := ⟨fun | 318 => 48 | n => n, fun | 3 => 3 | 4 => 4 | n => n, fun | n => n⟩
theorem Tryd.lays318 : Go.Proofs.Lays.n318 Tryd.prog Tryd.lays318_ren := {
  mixed := by kernel_rfl
  f318 := Tryd.func48.trans (congrArg some (by kernel_rfl))
  t3 := Tryd.underlying3
  a3 := Tryd.isAgg3
  z3 := Tryd.sizeOf3
  v3 := Tryd.zeroValue3
  t4 := Tryd.underlying4
  a4 := Tryd.isAgg4
  z4 := Tryd.sizeOf4
  v4 := Tryd.zeroValue4 }
open Go.Lib in
theorem Tryd.internal_strconv_bool2_int (b : Bool) (w : World) :
    Calls Tryd.prog 48 #[.bool b] w fun e w' => e = .returned (.int .i64 (if b then 1 else 0)) ∧ w' = w := Any.internal_strconv_bool2_int Tryd.lays318 b w
def Tryd.lays283_ren : Go.Shelf.Ren := ⟨fun | 283 => 42 | n => n, fun | 3 => 3 | 9 => 9 | 4 => 4 | n => n, fun | n => n⟩
theorem Tryd.lays283 : Go.Proofs.Lays.n283 Tryd.prog Tryd.lays283_ren := {
  mixed := by kernel_rfl
  f283 := Tryd.func42.trans (congrArg some (by kernel_rfl))
  t3 := Tryd.underlying3
  a3 := Tryd.isAgg3
  z3 := Tryd.sizeOf3
  v3 := Tryd.zeroValue3
  t4 := Tryd.underlying4
  a4 := Tryd.isAgg4
  z4 := Tryd.sizeOf4
  v4 := Tryd.zeroValue4
  t9 := Tryd.underlying9
  a9 := Tryd.isAgg9
  z9 := Tryd.sizeOf9
  v9 := Tryd.zeroValue9 }
open Go.Lib in
theorem Tryd.internal_strconv_small (i : Nat) (h : i < 100) (w : World) :
    Calls Tryd.prog 42 #[.int .i64 i] w fun e w' => e = .returned (.string ⟨(Lib.decDigits i).toArray⟩) ∧ w' = w := Any.internal_strconv_small Tryd.lays283 i h w
def Tryd.laysM284_ren : Go.Shelf.Ren := ⟨fun | 284 => 43 | 129 => 47 | 317 => 46 | 318 => 48 | n => n, fun | 53 => 72 | 3 => 3 | 212 => 87 | 0 => 0 | 4 => 4 | 46 => 58 | 5 => 5 | 9 => 9 | n => n, fun | 17 => 2 | n => n⟩
theorem Tryd.laysM284 : Go.Proofs.LaysM.n284 Tryd.prog Tryd.laysM284_ren := {
  mixed := by kernel_rfl
  f129 := Tryd.func47.trans (congrArg some (by kernel_rfl))
  f284 := Tryd.func43.trans (congrArg some (by kernel_rfl))
  f317 := Tryd.func46.trans (congrArg some (by kernel_rfl))
  f318 := Tryd.func48.trans (congrArg some (by kernel_rfl))
  t0 := Tryd.underlying0
  a0 := Tryd.isAgg0
  z0 := Tryd.sizeOf0
  v0 := Tryd.zeroValue0
  t3 := Tryd.underlying3
  a3 := Tryd.isAgg3
  z3 := Tryd.sizeOf3
  v3 := Tryd.zeroValue3
  t4 := Tryd.underlying4
  a4 := Tryd.isAgg4
  z4 := Tryd.sizeOf4
  v4 := Tryd.zeroValue4
  t5 := Tryd.underlying5
  a5 := Tryd.isAgg5
  z5 := Tryd.sizeOf5
  v5 := Tryd.zeroValue5
  t9 := Tryd.underlying9
  a9 := Tryd.isAgg9
  z9 := Tryd.sizeOf9
  v9 := Tryd.zeroValue9
  t46 := Tryd.underlying58
  a46 := Tryd.isAgg58
  z46 := Tryd.sizeOf58
  v46 := Tryd.zeroValue58
  t53 := Tryd.underlying72
  a53 := Tryd.isAgg72
  z53 := Tryd.sizeOf72
  v53 := Tryd.zeroValue72
  t212 := Tryd.underlying87
  a212 := Tryd.isAgg87
  z212 := Tryd.sizeOf87
  v212 := Tryd.zeroValue87
  g17 := by kernel_rfl
  i0 := by kernel_rfl
  i3 := by kernel_rfl
  i4 := by kernel_rfl
  i5 := by kernel_rfl
  i9 := by kernel_rfl
  i46 := by kernel_rfl
  i53 := by kernel_rfl
  i212 := by kernel_rfl
  m17 := by kernel_rfl }
open Go.Lib in
theorem Tryd.internal_strconv_numDigits (u : Nat) (h1 : 1 ≤ u) (h2 : u < 18446744073709551616) (w : World) (htab : Lib.TabIs Tryd.prog w "internal/strconv.uint64pow10" .u64 Lib.pow10Tab) :
    Calls Tryd.prog 43 #[.int .u64 u] w fun e w' => e = .returned (.int .i64 (Lib.nDigits u)) ∧ w' = w := Any.internal_strconv_numDigits Tryd.laysM284 u h1 h2 w htab
def Tryd.lays285_ren : Go.Shelf.Ren := ⟨fun | 285 => 44 | n => n, fun | 37 => 41 | 53 => 72 | 3 => 3 | 4 => 4 | 51 => 69 | 9 => 9 | 5 => 5 | 0 => 0 | n => n, fun | n => n⟩
theorem Tryd.lays285 : Go.Proofs.Lays.n285 Tryd.prog Tryd.lays285_ren := {
  mixed := by kernel_rfl
  f285 := Tryd.func44.trans (congrArg some (by kernel_rfl))
  t0 := Tryd.underlying0
  a0 := Tryd.isAgg0
  z0 := Tryd.sizeOf0
  v0 := Tryd.zeroValue0
  t3 := Tryd.underlying3
  a3 := Tryd.isAgg3
  z3 := Tryd.sizeOf3
  v3 := Tryd.zeroValue3
  t4 := Tryd.underlying4
  a4 := Tryd.isAgg4
  z4 := Tryd.sizeOf4
  v4 := Tryd.zeroValue4
  t5 := Tryd.underlying5
  a5 := Tryd.isAgg5
  z5 := Tryd.sizeOf5
  v5 := Tryd.zeroValue5
  t9 := Tryd.underlying9
  a9 := Tryd.isAgg9
  z9 := Tryd.sizeOf9
  v9 := Tryd.zeroValue9
  t37 := Tryd.underlying41
  a37 := Tryd.isAgg41
  z37 := Tryd.sizeOf41
  v37 := Tryd.zeroValue41
  t51 := Tryd.underlying69
  a51 := Tryd.isAgg69
  z51 := Tryd.sizeOf69
  v51 := Tryd.zeroValue69
  t53 := Tryd.underlying72
  a53 := Tryd.isAgg72
  z53 := Tryd.sizeOf72
  v53 := Tryd.zeroValue72 }
open Go.RowKit Go.Sort Go.Lib in
theorem Tryd.internal_strconv_formatBase10 (blk off cap : Nat) (u : Nat) (d : Array UInt8) (w : World) (hH : Holds (fun (b : UInt8) => Value.int .u8 (b.toNat : Int)) w blk off d) (hu : u < 10 ^ d.size) (hu64 : u < 18446744073709551616) (hsz : d.size < 4611686018427387904) :
    Calls Tryd.prog 44 #[.slice (some ⟨blk, off, none⟩) d.size cap, .int .u64 u] w fun e w' =>
      e = .returned (.tuple #[]) ∧ ∃ (n v' : Nat) (dk : Array UInt8), w' = (putRow (fun (b : UInt8) => Value.int .u8 (b.toNat : Int)) w blk off dk).drewN n ∧ FmtInv d.size u 0 v' dk := Any.internal_strconv_formatBase10 Tryd.lays285 blk off cap u d w hH hu hu64 hsz
def Tryd.laysM246_ren : Go.Shelf.Ren := ⟨fun | 246 => 39 | 283 => 42 | 284 => 43 | 285 => 44 | 286 => 45 | 129 => 47 | 317 => 46 | 318 => 48 | 319 => 49 | 320 => 50 | 337 => 51 | 338 => 52 | n => n, fun | 2 => 2 | 3 => 3 | 9 => 9 | 4 => 4 | 171 => 81 | 0 => 0 | 53 => 72 | 37 => 41 | 5 => 5 | 173 => 84 | 212 => 87 | 51 => 69 | 20 => 20 | 213 => 88 | 46 => 58 | 232 => 92 | 233 => 93 | n => n, fun | 17 => 2 | 18 => 3 | 19 => 4 | n => n⟩
theorem Tryd.laysM246 : Go.Proofs.LaysM.n246 Tryd.prog Tryd.laysM246_ren := {
  mixed := by kernel_rfl
  f129 := Tryd.func47.trans (congrArg some (by kernel_rfl))
  f246 := Tryd.func39.trans (congrArg some (by kernel_rfl))
  f283 := Tryd.func42.trans (congrArg some (by kernel_rfl))
  f284 := Tryd.func43.trans (congrArg some (by kernel_rfl))
  f285 := Tryd.func44.trans (congrArg some (by kernel_rfl))
  f286 := Tryd.func45.trans (congrArg some (by kernel_rfl))
  f317 := Tryd.func46.trans (congrArg some (by kernel_rfl))
  f318 := Tryd.func48.trans (congrArg some (by kernel_rfl))
  f319 := Tryd.func49.trans (congrArg some (by kernel_rfl))
  f320 := Tryd.func50.trans (congrArg some (by kernel_rfl))
  f337 := Tryd.func51.trans (congrArg some (by kernel_rfl))
  f338 := Tryd.func52.trans (congrArg some (by kernel_rfl))
  t0 := Tryd.underlying0
  a0 := Tryd.isAgg0
  z0 := Tryd.sizeOf0
  v0 := Tryd.zeroValue0
  t2 := Tryd.underlying2
  a2 := Tryd.isAgg2
  z2 := Tryd.sizeOf2
  v2 := Tryd.zeroValue2
  t3 := Tryd.underlying3
  a3 := Tryd.isAgg3
  z3 := Tryd.sizeOf3
  v3 := Tryd.zeroValue3
  t4 := Tryd.underlying4
  a4 := Tryd.isAgg4
  z4 := Tryd.sizeOf4
  v4 := Tryd.zeroValue4
  t5 := Tryd.underlying5
  a5 := Tryd.isAgg5
  z5 := Tryd.sizeOf5
  v5 := Tryd.zeroValue5
  t9 := Tryd.underlying9
  a9 := Tryd.isAgg9
  z9 := Tryd.sizeOf9
  v9 := Tryd.zeroValue9
  t20 := Tryd.underlying20
  a20 := Tryd.isAgg20
  z20 := Tryd.sizeOf20
  v20 := Tryd.zeroValue20
  t37 := Tryd.underlying41
  a37 := Tryd.isAgg41
  z37 := Tryd.sizeOf41
  v37 := Tryd.zeroValue41
  t46 := Tryd.underlying58
  a46 := Tryd.isAgg58
  z46 := Tryd.sizeOf58
  v46 := Tryd.zeroValue58
  t51 := Tryd.underlying69
  a51 := Tryd.isAgg69
  z51 := Tryd.sizeOf69
  v51 := Tryd.zeroValue69
  t53 := Tryd.underlying72
  a53 := Tryd.isAgg72
  z53 := Tryd.sizeOf72
  v53 := Tryd.zeroValue72
  t171 := Tryd.underlying81
  a171 := Tryd.isAgg81
  z171 := Tryd.sizeOf81
  v171 := Tryd.zeroValue81
  t173 := Tryd.underlying84
  a173 := Tryd.isAgg84
  z173 := Tryd.sizeOf84
  v173 := Tryd.zeroValue84
  t212 := Tryd.underlying87
  a212 := Tryd.isAgg87
  z212 := Tryd.sizeOf87
  v212 := Tryd.zeroValue87
  t213 := Tryd.underlying88
  a213 := Tryd.isAgg88
  z213 := Tryd.sizeOf88
  t232 := Tryd.underlying92
  a232 := Tryd.isAgg92
  z232 := Tryd.sizeOf92
  v232 := Tryd.zeroValue92
  t233 := Tryd.underlying93
  a233 := Tryd.isAgg93
  z233 := Tryd.sizeOf93
  v233 := Tryd.zeroValue93
  g17 := by kernel_rfl
  g18 := by kernel_rfl
  g19 := by kernel_rfl
  i0 := by kernel_rfl
  i2 := by kernel_rfl
  i3 := by kernel_rfl
  i4 := by kernel_rfl
  i5 := by kernel_rfl
  i9 := by kernel_rfl
  i20 := by kernel_rfl
  i37 := by kernel_rfl
  i46 := by kernel_rfl
  i51 := by kernel_rfl
  i53 := by kernel_rfl
  i171 := by kernel_rfl
  i173 := by kernel_rfl
  i212 := by kernel_rfl
  i232 := by kernel_rfl
  i233 := by kernel_rfl
  m17 := by kernel_rfl
  m18 := by kernel_rfl
  m19 := by kernel_rfl }
open Go.RowKit Go.Sort Go.Lib in
theorem Tryd.internal_strconv_FormatInt_10 (n : Int) (h0 : -9223372036854775808 ≤ n) (h1 : n ≤ 9223372036854775807) (w : World) (htab : Lib.TabIs Tryd.prog w "internal/strconv.uint64pow10" .u64 Lib.pow10Tab) :
    Calls Tryd.prog 39 #[.int .i64 n, .int .i64 10] w fun e w' => e = .returned (.string ⟨(Lib.itoa n).toArray⟩) ∧ ∃ k os, w' = grow (w.drewN k) os := Any.internal_strconv_FormatInt_10 Tryd.laysM246 n h0 h1 w htab
def Tryd.lays246_ren : Go.Shelf.Ren := ⟨fun | 246 => 39 | 283 => 42 | 284 => 43 | 285 => 44 | 286 => 45 | 129 => 47 | 317 => 46 | 318 => 48 | 319 => 49 | 320 => 50 | 337 => 51 | 338 => 52 | n => n, fun | 2 => 2 | 3 => 3 | 9 => 9 | 4 => 4 | 171 => 81 | 0 => 0 | 53 => 72 | 37 => 41 | 5 => 5 | 173 => 84 | 212 => 87 | 51 => 69 | 20 => 20 | 213 => 88 | 46 => 58 | 232 => 92 | 233 => 93 | n => n, fun | 17 => 2 | 18 => 3 | 19 => 4 | n => n⟩
theorem Tryd.lays246 : Go.Proofs.Lays.n246 Tryd.prog Tryd.lays246_ren := {
  mixed := by kernel_rfl
  f129 := Tryd.func47.trans (congrArg some (by kernel_rfl))
  f246 := Tryd.func39.trans (congrArg some (by kernel_rfl))
  f283 := Tryd.func42.trans (congrArg some (by kernel_rfl))
  f284 := Tryd.func43.trans (congrArg some (by kernel_rfl))
  f285 := Tryd.func44.trans (congrArg some (by kernel_rfl))
  f286 := Tryd.func45.trans (congrArg some (by kernel_rfl))
  f317 := Tryd.func46.trans (congrArg some (by kernel_rfl))
  f318 := Tryd.func48.trans (congrArg some (by kernel_rfl))
  f319 := Tryd.func49.trans (congrArg some (by kernel_rfl))
  f320 := Tryd.func50.trans (congrArg some (by kernel_rfl))
  f337 := Tryd.func51.trans (congrArg some (by kernel_rfl))
  f338 := Tryd.func52.trans (congrArg some (by kernel_rfl))
  t0 := Tryd.underlying0
  a0 := Tryd.isAgg0
  z0 := Tryd.sizeOf0
  v0 := Tryd.zeroValue0
  t2 := Tryd.underlying2
  a2 := Tryd.isAgg2
  z2 := Tryd.sizeOf2
  v2 := Tryd.zeroValue2
  t3 := Tryd.underlying3
  a3 := Tryd.isAgg3
  z3 := Tryd.sizeOf3
  v3 := Tryd.zeroValue3
  t4 := Tryd.underlying4
  a4 := Tryd.isAgg4
  z4 := Tryd.sizeOf4
  v4 := Tryd.zeroValue4
  t5 := Tryd.underlying5
  a5 := Tryd.isAgg5
  z5 := Tryd.sizeOf5
  v5 := Tryd.zeroValue5
  t9 := Tryd.underlying9
  a9 := Tryd.isAgg9
  z9 := Tryd.sizeOf9
  v9 := Tryd.zeroValue9
  t20 := Tryd.underlying20
  a20 := Tryd.isAgg20
  z20 := Tryd.sizeOf20
  v20 := Tryd.zeroValue20
  t37 := Tryd.underlying41
  a37 := Tryd.isAgg41
  z37 := Tryd.sizeOf41
  v37 := Tryd.zeroValue41
  t46 := Tryd.underlying58
  a46 := Tryd.isAgg58
  z46 := Tryd.sizeOf58
  v46 := Tryd.zeroValue58
  t51 := Tryd.underlying69
  a51 := Tryd.isAgg69
  z51 := Tryd.sizeOf69
  v51 := Tryd.zeroValue69
  t53 := Tryd.underlying72
  a53 := Tryd.isAgg72
  z53 := Tryd.sizeOf72
  v53 := Tryd.zeroValue72
  t171 := Tryd.underlying81
  a171 := Tryd.isAgg81
  z171 := Tryd.sizeOf81
  v171 := Tryd.zeroValue81
  t173 := Tryd.underlying84
  a173 := Tryd.isAgg84
  z173 := Tryd.sizeOf84
  v173 := Tryd.zeroValue84
  t212 := Tryd.underlying87
  a212 := Tryd.isAgg87
  z212 := Tryd.sizeOf87
  v212 := Tryd.zeroValue87
  t213 := Tryd.underlying88
  a213 := Tryd.isAgg88
  z213 := Tryd.sizeOf88
  t232 := Tryd.underlying92
  a232 := Tryd.isAgg92
  z232 := Tryd.sizeOf92
  v232 := Tryd.zeroValue92
  t233 := Tryd.underlying93
  a233 := Tryd.isAgg93
  z233 := Tryd.sizeOf93
  v233 := Tryd.zeroValue93
  g17 := by kernel_rfl
  g18 := by kernel_rfl
  g19 := by kernel_rfl }
open Go.RowKit Go.Sort Go.Lib in
theorem Tryd.internal_strconv_FormatInt_10_small (i : Nat) (hi : i < 100) (w : World) :
    Calls Tryd.prog 39 #[.int .i64 i, .int .i64 10] w fun e w' => e = .returned (.string ⟨(Lib.decDigits i).toArray⟩) ∧ w' = w := Any.internal_strconv_FormatInt_10_small Tryd.lays246 i hi w
def Tryd.laysM243_ren : Go.Shelf.Ren := ⟨fun | 243 => 31 | 246 => 39 | 283 => 42 | 284 => 43 | 285 => 44 | 286 => 45 | 129 => 47 | 317 => 46 | 318 => 48 | 319 => 49 | 320 => 50 | 337 => 51 | 338 => 52 | n => n, fun | 3 => 3 | 9 => 9 | 2 => 2 | 4 => 4 | 171 => 81 | 0 => 0 | 53 => 72 | 37 => 41 | 5 => 5 | 173 => 84 | 212 => 87 | 51 => 69 | 20 => 20 | 213 => 88 | 46 => 58 | 232 => 92 | 233 => 93 | n => n, fun | 17 => 2 | 18 => 3 | 19 => 4 | n => n⟩
theorem Tryd.laysM243 : Go.Proofs.LaysM.n243 Tryd.prog Tryd.laysM243_ren := {
  mixed := by kernel_rfl
  f129 := Tryd.func47.trans (congrArg some (by kernel_rfl))
  f243 := Tryd.func31.trans (congrArg some (by kernel_rfl))
  f246 := Tryd.func39.trans (congrArg some (by kernel_rfl))
  f283 := Tryd.func42.trans (congrArg some (by kernel_rfl))
  f284 := Tryd.func43.trans (congrArg some (by kernel_rfl))
  f285 := Tryd.func44.trans (congrArg some (by kernel_rfl))
  f286 := Tryd.func45.trans (congrArg some (by kernel_rfl))
  f317 := Tryd.func46.trans (congrArg some (by kernel_rfl))
  f318 := Tryd.func48.trans (congrArg some (by kernel_rfl))
  f319 := Tryd.func49.trans (congrArg some (by kernel_rfl))
  f320 := Tryd.func50.trans (congrArg some (by kernel_rfl))
  f337 := Tryd.func51.trans (congrArg some (by kernel_rfl))
  f338 := Tryd.func52.trans (congrArg some (by kernel_rfl))
  t0 := Tryd.underlying0
  a0 := Tryd.isAgg0
  z0 := Tryd.sizeOf0
  v0 := Tryd.zeroValue0
  t2 := Tryd.underlying2
  a2 := Tryd.isAgg2
  z2 := Tryd.sizeOf2
  v2 := Tryd.zeroValue2
  t3 := Tryd.underlying3
  a3 := Tryd.isAgg3
  z3 := Tryd.sizeOf3
  v3 := Tryd.zeroValue3
  t4 := Tryd.underlying4
  a4 := Tryd.isAgg4
  z4 := Tryd.sizeOf4
  v4 := Tryd.zeroValue4
  t5 := Tryd.underlying5
  a5 := Tryd.isAgg5
  z5 := Tryd.sizeOf5
  v5 := Tryd.zeroValue5
  t9 := Tryd.underlying9
  a9 := Tryd.isAgg9
  z9 := Tryd.sizeOf9
  v9 := Tryd.zeroValue9
  t20 := Tryd.underlying20
  a20 := Tryd.isAgg20
  z20 := Tryd.sizeOf20
  v20 := Tryd.zeroValue20
  t37 := Tryd.underlying41
  a37 := Tryd.isAgg41
  z37 := Tryd.sizeOf41
  v37 := Tryd.zeroValue41
  t46 := Tryd.underlying58
  a46 := Tryd.isAgg58
  z46 := Tryd.sizeOf58
  v46 := Tryd.zeroValue58
  t51 := Tryd.underlying69
  a51 := Tryd.isAgg69
  z51 := Tryd.sizeOf69
  v51 := Tryd.zeroValue69
  t53 := Tryd.underlying72
  a53 := Tryd.isAgg72
  z53 := Tryd.sizeOf72
  v53 := Tryd.zeroValue72
  t171 := Tryd.underlying81
  a171 := Tryd.isAgg81
  z171 := Tryd.sizeOf81
  v171 := Tryd.zeroValue81
  t173 := Tryd.underlying84
  a173 := Tryd.isAgg84
  z173 := Tryd.sizeOf84
  v173 := Tryd.zeroValue84
  t212 := Tryd.underlying87
  a212 := Tryd.isAgg87
  z212 := Tryd.sizeOf87
  v212 := Tryd.zeroValue87
  t213 := Tryd.underlying88
  a213 := Tryd.isAgg88
  z213 := Tryd.sizeOf88
  t232 := Tryd.underlying92
  a232 := Tryd.isAgg92
  z232 := Tryd.sizeOf92
  v232 := Tryd.zeroValue92
  t233 := Tryd.underlying93
  a233 := Tryd.isAgg93
  z233 := Tryd.sizeOf93
  v233 := Tryd.zeroValue93
  g17 := by kernel_rfl
  g18 := by kernel_rfl
  g19 := by kernel_rfl
  i0 := by kernel_rfl
  i2 := by kernel_rfl
  i3 := by kernel_rfl
  i4 := by kernel_rfl
  i5 := by kernel_rfl
  i9 := by kernel_rfl
  i20 := by kernel_rfl
  i37 := by kernel_rfl
  i46 := by kernel_rfl
  i51 := by kernel_rfl
  i53 := by kernel_rfl
  i171 := by kernel_rfl
  i173 := by kernel_rfl
  i212 := by kernel_rfl
  i232 := by kernel_rfl
  i233 := by kernel_rfl
  m17 := by kernel_rfl
  m18 := by kernel_rfl
  m19 := by kernel_rfl }
open Go.RowKit Go.Sort Go.Lib in
theorem Tryd.internal_strconv_Itoa (n : Int) (h0 : -9223372036854775808 ≤ n) (h1 : n ≤ 9223372036854775807) (w : World) (htab : Lib.TabIs Tryd.prog w "internal/strconv.uint64pow10" .u64 Lib.pow10Tab) :
    Calls Tryd.prog 31 #[.int .i64 n] w fun e w' => e = .returned (.string ⟨(Lib.itoa n).toArray⟩) ∧ ∃ k os, w' = grow (w.drewN k) os := Any.internal_strconv_Itoa Tryd.laysM243 n h0 h1 w htab
def Tryd.lays243_ren : Go.Shelf.Ren := ⟨fun | 243 => 31 | 246 => 39 | 283 => 42 | 284 => 43 | 285 => 44 | 286 => 45 | 129 => 47 | 317 => 46 | 318 => 48 | 319 => 49 | 320 => 50 | 337 => 51 | 338 => 52 | n => n, fun | 3 => 3 | 9 => 9 | 2 => 2 | 4 => 4 | 171 => 81 | 0 => 0 | 53 => 72 | 37 => 41 | 5 => 5 | 173 => 84 | 212 => 87 | 51 => 69 | 20 => 20 | 213 => 88 | 46 => 58 | 232 => 92 | 233 => 93 | n => n, fun | 17 => 2 | 18 => 3 | 19 => 4 | n => n⟩
theorem Tryd.lays243 : Go.Proofs.Lays.n243 Tryd.prog Tryd.lays243_ren := {
  mixed := by kernel_rfl
  f129 := Tryd.func47.trans (congrArg some (by kernel_rfl))
  f243 := Tryd.func31.trans (congrArg some (by kernel_rfl))
  f246 := Tryd.func39.trans (congrArg some (by kernel_rfl))
  f283 := Tryd.func42.trans (congrArg some (by kernel_rfl))
  f284 := Tryd.func43.trans (congrArg some (by kernel_rfl))
  f285 := Tryd.func44.trans (congrArg some (by kernel_rfl))
  f286 := Tryd.func45.trans (congrArg some (by kernel_rfl))
  f317 := Tryd.func46.trans (congrArg some (by kernel_rfl))
  f318 := Tryd.func48.trans (congrArg some (by kernel_rfl))
  f319 := Tryd.func49.trans (congrArg some (by kernel_rfl))
  f320 := Tryd.func50.trans (congrArg some (by kernel_rfl))
  f337 := Tryd.func51.trans (congrArg some (by kernel_rfl))
  f338 := Tryd.func52.trans (congrArg some (by kernel_rfl))
  t0 := Tryd.underlying0
  a0 := Tryd.isAgg0
  z0 := Tryd.sizeOf0
  v0 := Tryd.zeroValue0
  t2 := Tryd.underlying2
  a2 := Tryd.isAgg2
  z2 := Tryd.sizeOf2
  v2 := Tryd.zeroValue2
  t3 := Tryd.underlying3
  a3 := Tryd.isAgg3
  z3 := Tryd.sizeOf3
  v3 := Tryd.zeroValue3
  t4 := Tryd.underlying4
  a4 := Tryd.isAgg4
  z4 := Tryd.sizeOf4
  v4 := Tryd.zeroValue4
  t5 := Tryd.underlying5
  a5 := Tryd.isAgg5
  z5 := Tryd.sizeOf5
  v5 := Tryd.zeroValue5
  t9 := Tryd.underlying9
  a9 := Tryd.isAgg9
  z9 := Tryd.sizeOf9
  v9 := Tryd.zeroValue9
  t20 := Tryd.underlying20
  a20 := Tryd.isAgg20
  z20 := Tryd.sizeOf20
  v20 := Tryd.zeroValue20
  t37 := Tryd.underlying41
  a37 := Tryd.isAgg41
  z37 := Tryd.sizeOf41
  v37 := Tryd.zeroValue41
  t46 := Tryd.underlying58
  a46 := Tryd.isAgg58
  z46 := Tryd.sizeOf58
  v46 := Tryd.zeroValue58
  t51 := Tryd.underlying69
  a51 := Tryd.isAgg69
  z51 := Tryd.sizeOf69
  v51 := Tryd.zeroValue69
  t53 := Tryd.underlying72
  a53 := Tryd.isAgg72
  z53 := Tryd.sizeOf72
  v53 := Tryd.zeroValue72
  t171 := Tryd.underlying81
  a171 := Tryd.isAgg81
  z171 := Tryd.sizeOf81
  v171 := Tryd.zeroValue81
  t173 := Tryd.underlying84
  a173 := Tryd.isAgg84
  z173 := Tryd.sizeOf84
  v173 := Tryd.zeroValue84
  t212 := Tryd.underlying87
  a212 := Tryd.isAgg87
  z212 := Tryd.sizeOf87
  v212 := Tryd.zeroValue87
  t213 := Tryd.underlying88
  a213 := Tryd.isAgg88
  z213 := Tryd.sizeOf88
  t232 := Tryd.underlying92
  a232 := Tryd.isAgg92
  z232 := Tryd.sizeOf92
  v232 := Tryd.zeroValue92
  t233 := Tryd.underlying93
  a233 := Tryd.isAgg93
  z233 := Tryd.sizeOf93
  v233 := Tryd.zeroValue93
  g17 := by kernel_rfl
  g18 := by kernel_rfl
  g19 := by kernel_rfl }
open Go.RowKit Go.Sort Go.Lib in
theorem Tryd.internal_strconv_Itoa_small (i : Nat) (hi : i < 100) (w : World) :
    Calls Tryd.prog 31 #[.int .i64 i] w fun e w' => e = .returned (.string ⟨(Lib.decDigits i).toArray⟩) ∧ w' = w := Any.internal_strconv_Itoa_small Tryd.lays243 i hi w
def Tryd.laysM171_ren : Go.Shelf.Ren := ⟨fun | 171 => 20 | 243 => 31 | 246 => 39 | 283 => 42 | 284 => 43 | 285 => 44 | 286 => 45 | 129 => 47 | 317 => 46 | 318 => 48 | 319 => 49 | 320 => 50 | 337 => 51 | 338 => 52 | n => n, fun | 3 => 3 | 9 => 9 | 2 => 2 | 4 => 4 | 171 => 81 | 0 => 0 | 53 => 72 | 37 => 41 | 5 => 5 | 173 => 84 | 212 => 87 | 51 => 69 | 20 => 20 | 213 => 88 | 46 => 58 | 232 => 92 | 233 => 93 | n => n, fun | 17 => 2 | 18 => 3 | 19 => 4 | n => n⟩
theorem Tryd.laysM171 : Go.Proofs.LaysM.n171 Tryd.prog Tryd.laysM171_ren := {
  mixed := by kernel_rfl
  f129 := Tryd.func47.trans (congrArg some (by kernel_rfl))
  f171 := Tryd.func20.trans (congrArg some (by kernel_rfl))
  f243 := Tryd.func31.trans (congrArg some (by kernel_rfl))
  f246 := Tryd.func39.trans (congrArg some (by kernel_rfl))
  f283 := Tryd.func42.trans (congrArg some (by kernel_rfl))
  f284 := Tryd.func43.trans (congrArg some (by kernel_rfl))
  f285 := Tryd.func44.trans (congrArg some (by kernel_rfl))
  f286 := Tryd.func45.trans (congrArg some (by kernel_rfl))
  f317 := Tryd.func46.trans (congrArg some (by kernel_rfl))
  f318 := Tryd.func48.trans (congrArg some (by kernel_rfl))
  f319 := Tryd.func49.trans (congrArg some (by kernel_rfl))
  f320 := Tryd.func50.trans (congrArg some (by kernel_rfl))
  f337 := Tryd.func51.trans (congrArg some (by kernel_rfl))
  f338 := Tryd.func52.trans (congrArg some (by kernel_rfl))
  t0 := Tryd.underlying0
  a0 := Tryd.isAgg0
  z0 := Tryd.sizeOf0
  v0 := Tryd.zeroValue0
  t2 := Tryd.underlying2
  a2 := Tryd.isAgg2
  z2 := Tryd.sizeOf2
  v2 := Tryd.zeroValue2
  t3 := Tryd.underlying3
  a3 := Tryd.isAgg3
  z3 := Tryd.sizeOf3
  v3 := Tryd.zeroValue3
  t4 := Tryd.underlying4
  a4 := Tryd.isAgg4
  z4 := Tryd.sizeOf4
  v4 := Tryd.zeroValue4
  t5 := Tryd.underlying5
  a5 := Tryd.isAgg5
  z5 := Tryd.sizeOf5
  v5 := Tryd.zeroValue5
  t9 := Tryd.underlying9
  a9 := Tryd.isAgg9
  z9 := Tryd.sizeOf9
  v9 := Tryd.zeroValue9
  t20 := Tryd.underlying20
  a20 := Tryd.isAgg20
  z20 := Tryd.sizeOf20
  v20 := Tryd.zeroValue20
  t37 := Tryd.underlying41
  a37 := Tryd.isAgg41
  z37 := Tryd.sizeOf41
  v37 := Tryd.zeroValue41
  t46 := Tryd.underlying58
  a46 := Tryd.isAgg58
  z46 := Tryd.sizeOf58
  v46 := Tryd.zeroValue58
  t51 := Tryd.underlying69
  a51 := Tryd.isAgg69
  z51 := Tryd.sizeOf69
  v51 := Tryd.zeroValue69
  t53 := Tryd.underlying72
  a53 := Tryd.isAgg72
  z53 := Tryd.sizeOf72
  v53 := Tryd.zeroValue72
  t171 := Tryd.underlying81
  a171 := Tryd.isAgg81
  z171 := Tryd.sizeOf81
  v171 := Tryd.zeroValue81
  t173 := Tryd.underlying84
  a173 := Tryd.isAgg84
  z173 := Tryd.sizeOf84
  v173 := Tryd.zeroValue84
  t212 := Tryd.underlying87
  a212 := Tryd.isAgg87
  z212 := Tryd.sizeOf87
  v212 := Tryd.zeroValue87
  t213 := Tryd.underlying88
  a213 := Tryd.isAgg88
  z213 := Tryd.sizeOf88
  t232 := Tryd.underlying92
  a232 := Tryd.isAgg92
  z232 := Tryd.sizeOf92
  v232 := Tryd.zeroValue92
  t233 := Tryd.underlying93
  a233 := Tryd.isAgg93
  z233 := Tryd.sizeOf93
  v233 := Tryd.zeroValue93
  g17 := by kernel_rfl
  g18 := by kernel_rfl
  g19 := by kernel_rfl
  i0 := by kernel_rfl
  i2 := by kernel_rfl
  i3 := by kernel_rfl
  i4 := by kernel_rfl
  i5 := by kernel_rfl
  i9 := by kernel_rfl
  i20 := by kernel_rfl
  i37 := by kernel_rfl
  i46 := by kernel_rfl
  i51 := by kernel_rfl
  i53 := by kernel_rfl
  i171 := by kernel_rfl
  i173 := by kernel_rfl
  i212 := by kernel_rfl
  i232 := by kernel_rfl
  i233 := by kernel_rfl
  m17 := by kernel_rfl
  m18 := by kernel_rfl
  m19 := by kernel_rfl }
open Go.RowKit Go.Sort Go.Lib in
theorem Tryd.strconv_Itoa (n : Int) (h0 : -9223372036854775808 ≤ n) (h1 : n ≤ 9223372036854775807) (w : World) (htab : Lib.TabIs Tryd.prog w "internal/strconv.uint64pow10" .u64 Lib.pow10Tab) :
    Calls Tryd.prog 20 #[.int .i64 n] w fun e w' => e = .returned (.string ⟨(Lib.itoa n).toArray⟩) ∧ ∃ k os, w' = grow (w.drewN k) os := Any.strconv_Itoa Tryd.laysM171 n h0 h1 w htab
def Tryd.lays171_ren : Go.Shelf.Ren := ⟨fun | 171 => 20 | 243 => 31 | 246 => 39 | 283 => 42 | 284 => 43 | 285 => 44 | 286 => 45 | 129 => 47 | 317 => 46 | 318 => 48 | 319 => 49 | 320 => 50 | 337 => 51 | 338 => 52 | n => n, fun | 3 => 3 | 9 => 9 | 2 => 2 | 4 => 4 | 171 => 81 | 0 => 0 | 53 => 72 | 37 => 41 | 5 => 5 | 173 => 84 | 212 => 87 | 51 => 69 | 20 => 20 | 213 => 88 | 46 => 58 | 232 => 92 | 233 => 93 | n => n, fun | 17 => 2 | 18 => 3 | 19 => 4 | n => n⟩
theorem Tryd.lays171 : Go.Proofs.Lays.n171 Tryd.prog Tryd.lays171_ren := {
  mixed := by kernel_rfl
  f129 := Tryd.func47.trans (congrArg some (by kernel_rfl))
  f171 := Tryd.func20.trans (congrArg some (by kernel_rfl))
  f243 := Tryd.func31.trans (congrArg some (by kernel_rfl))
  f246 := Tryd.func39.trans (congrArg some (by kernel_rfl))
  f283 := Tryd.func42.trans (congrArg some (by kernel_rfl))
  f284 := Tryd.func43.trans (congrArg some (by kernel_rfl))
  f285 := Tryd.func44.trans (congrArg some (by kernel_rfl))
  f286 := Tryd.func45.trans (congrArg some (by kernel_rfl))
  f317 := Tryd.func46.trans (congrArg some (by kernel_rfl))
  f318 := Tryd.func48.trans (congrArg some (by kernel_rfl))
  f319 := Tryd.func49.trans (congrArg some (by kernel_rfl))
  f320 := Tryd.func50.trans (congrArg some (by kernel_rfl))
  f337 := Tryd.func51.trans (congrArg some (by kernel_rfl))
  f338 := Tryd.func52.trans (congrArg some (by kernel_rfl))
  t0 := Tryd.underlying0
  a0 := Tryd.isAgg0
  z0 := Tryd.sizeOf0
  v0 := Tryd.zeroValue0
  t2 := Tryd.underlying2
  a2 := Tryd.isAgg2
  z2 := Tryd.sizeOf2
  v2 := Tryd.zeroValue2
  t3 := Tryd.underlying3
  a3 := Tryd.isAgg3
  z3 := Tryd.sizeOf3
  v3 := Tryd.zeroValue3
  t4 := Tryd.underlying4
  a4 := Tryd.isAgg4
  z4 := Tryd.sizeOf4
  v4 := Tryd.zeroValue4
  t5 := Tryd.underlying5
  a5 := Tryd.isAgg5
  z5 := Tryd.sizeOf5
  v5 := Tryd.zeroValue5
  t9 := Tryd.underlying9
  a9 := Tryd.isAgg9
  z9 := Tryd.sizeOf9
  v9 := Tryd.zeroValue9
  t20 := Tryd.underlying20
  a20 := Tryd.isAgg20
  z20 := Tryd.sizeOf20
  v20 := Tryd.zeroValue20
  t37 := Tryd.underlying41
  a37 := Tryd.isAgg41
  z37 := Tryd.sizeOf41
  v37 := Tryd.zeroValue41
  t46 := Tryd.underlying58
  a46 := Tryd.isAgg58
  z46 := Tryd.sizeOf58
  v46 := Tryd.zeroValue58
  t51 := Tryd.underlying69
  a51 := Tryd.isAgg69
  z51 := Tryd.sizeOf69
  v51 := Tryd.zeroValue69
  t53 := Tryd.underlying72
  a53 := Tryd.isAgg72
  z53 := Tryd.sizeOf72
  v53 := Tryd.zeroValue72
  t171 := Tryd.underlying81
  a171 := Tryd.isAgg81
  z171 := Tryd.sizeOf81
  v171 := Tryd.zeroValue81
  t173 := Tryd.underlying84
  a173 := Tryd.isAgg84
  z173 := Tryd.sizeOf84
  v173 := Tryd.zeroValue84
  t212 := Tryd.underlying87
  a212 := Tryd.isAgg87
  z212 := Tryd.sizeOf87
  v212 := Tryd.zeroValue87
  t213 := Tryd.underlying88
  a213 := Tryd.isAgg88
  z213 := Tryd.sizeOf88
  t232 := Tryd.underlying92
  a232 := Tryd.isAgg92
  z232 := Tryd.sizeOf92
  v232 := Tryd.zeroValue92
  t233 := Tryd.underlying93
  a233 := Tryd.isAgg93
  z233 := Tryd.sizeOf93
  v233 := Tryd.zeroValue93
  g17 := by kernel_rfl
  g18 := by kernel_rfl
  g19 := by kernel_rfl }
open Go.RowKit Go.Sort Go.Lib in
theorem Tryd.strconv_Itoa_small (i : Nat) (hi : i < 100) (w : World) :
    Calls Tryd.prog 20 #[.int .i64 i] w fun e w' => e = .returned (.string ⟨(Lib.decDigits i).toArray⟩) ∧ w' = w := Any.strconv_Itoa_small Tryd.lays171 i hi w
def Tryd.laysM181_ren : Go.Shelf.Ren := ⟨fun | 181 => 28 | n => n, fun | 130 => 54 | 3 => 3 | 0 => 0 | 93 => 45 | 37 => 41 | 91 => 43 | 5 => 5 | n => n, fun | n => n⟩
theorem Tryd.laysM181 : Go.Proofs.LaysM.n181 Tryd.prog Tryd.laysM181_ren := {
  mixed := by kernel_rfl
  f181 := Tryd.func28.trans (congrArg some (by kernel_rfl))
  t0 := Tryd.underlying0
  a0 := Tryd.isAgg0
  z0 := Tryd.sizeOf0
  v0 := Tryd.zeroValue0
  t3 := Tryd.underlying3
  a3 := Tryd.isAgg3
  z3 := Tryd.sizeOf3
  v3 := Tryd.zeroValue3
  t37 := Tryd.underlying41
  a37 := Tryd.isAgg41
  z37 := Tryd.sizeOf41
  v37 := Tryd.zeroValue41
  t93 := Tryd.underlying45
  a93 := Tryd.isAgg45
  z93 := Tryd.sizeOf45
  v93 := Tryd.zeroValue45
  t130 := Tryd.underlying54
  a130 := Tryd.isAgg54
  z130 := Tryd.sizeOf54
  v130 := Tryd.zeroValue54
  t5 := Tryd.underlying5
  a5 := Tryd.isAgg5
  z5 := Tryd.sizeOf5
  v5 := Tryd.zeroValue5
  t91 := Tryd.underlying43
  a91 := Tryd.isAgg43
  z91 := Tryd.sizeOf43
  v91 := Tryd.zeroValue43
  i0 := by kernel_rfl
  i3 := by kernel_rfl
  i5 := by kernel_rfl
  i37 := by kernel_rfl
  i91 := by kernel_rfl
  i93 := by kernel_rfl
  i130 := by kernel_rfl }
open Go.RowKit in
theorem Tryd.Buffer_Len (B b : Nat) (bs : List Value) (w : World) (h : Lib.IsBuffer 45 5 B b bs w) :
    Calls Tryd.prog 28 #[.pointer (some ⟨b, 0, none⟩)] w fun e w' => e = .returned (.int .i64 bs.length) ∧ ∃ n, w' = w.drewN n := Any.Buffer_Len Tryd.laysM181 B b bs w h
def Tryd.laysM251_ren : Go.Shelf.Ren := ⟨fun | 251 => 18 | n => n, fun | 130 => 54 | 3 => 3 | 4 => 4 | 0 => 0 | 93 => 45 | 37 => 41 | 91 => 43 | 5 => 5 | n => n, fun | n => n⟩
theorem Tryd.laysM251 : Go.Proofs.LaysM.n251 Tryd.prog Tryd.laysM251_ren := {
  mixed := by kernel_rfl
  f251 := Tryd.func18.trans (congrArg some (by kernel_rfl))
  t0 := Tryd.underlying0
  a0 := Tryd.isAgg0
  z0 := Tryd.sizeOf0
  v0 := Tryd.zeroValue0
  t3 := Tryd.underlying3
  a3 := Tryd.isAgg3
  z3 := Tryd.sizeOf3
  v3 := Tryd.zeroValue3
  t4 := Tryd.underlying4
  a4 := Tryd.isAgg4
  z4 := Tryd.sizeOf4
  v4 := Tryd.zeroValue4
  t37 := Tryd.underlying41
  a37 := Tryd.isAgg41
  z37 := Tryd.sizeOf41
  v37 := Tryd.zeroValue41
  t93 := Tryd.underlying45
  a93 := Tryd.isAgg45
  z93 := Tryd.sizeOf45
  v93 := Tryd.zeroValue45
  t130 := Tryd.underlying54
  a130 := Tryd.isAgg54
  z130 := Tryd.sizeOf54
  v130 := Tryd.zeroValue54
  t5 := Tryd.underlying5
  a5 := Tryd.isAgg5
  z5 := Tryd.sizeOf5
  v5 := Tryd.zeroValue5
  t91 := Tryd.underlying43
  a91 := Tryd.isAgg43
  z91 := Tryd.sizeOf43
  v91 := Tryd.zeroValue43
  i0 := by kernel_rfl
  i3 := by kernel_rfl
  i4 := by kernel_rfl
  i5 := by kernel_rfl
  i37 := by kernel_rfl
  i91 := by kernel_rfl
  i93 := by kernel_rfl
  i130 := by kernel_rfl }
open Go.RowKit in
theorem Tryd.Buffer_tryGrow_room (b : Nat) (ao : Option Addr) (l cap n : Nat) (w : World) (c0 : w.cell? ⟨b, 0, none⟩ = some (.slice ao l cap)) (f0 : w.frozen? ⟨b, 0, none⟩ = false) (hlc : l ≤ cap) (hcap : cap ≤ maxLen) (hn : n ≤ cap - l) :
    Calls Tryd.prog 18 #[.pointer (some ⟨b, 0, none⟩), .int .i64 n] w fun e w' => e = .returned (.tuple #[.int .i64 l, .bool true]) ∧ w' = w.setCell ⟨b, 0, none⟩ (.slice ao (l + n) cap) := Any.Buffer_tryGrow_room Tryd.laysM251 b ao l cap n w c0 f0 hlc hcap hn
open Go.RowKit in
theorem Tryd.Buffer_tryGrow_none (b : Nat) (ao : Option Addr) (l cap n : Nat) (w : World) (c0 : w.cell? ⟨b, 0, none⟩ = some (.slice ao l cap)) (hlc : l ≤ cap) (hcap : cap ≤ maxLen) (hn : cap - l < n) :
    Calls Tryd.prog 18 #[.pointer (some ⟨b, 0, none⟩), .int .i64 n] w fun e w' => e = .returned (.tuple #[.int .i64 0, .bool false]) ∧ w' = w := Any.Buffer_tryGrow_none Tryd.laysM251 b ao l cap n w c0 hlc hcap hn
def Tryd.laysM324_ren : Go.Shelf.Ren := ⟨fun | 324 => 38 | n => n, fun | 20 => 20 | 4 => 4 | 75 => 48 | 0 => 0 | 80 => 53 | 9 => 9 | n => n, fun | 14 => 0 | n => n⟩
theorem Tryd.laysM324 : Go.Proofs.LaysM.n324 Tryd.prog Tryd.laysM324_ren := {
  mixed := by kernel_rfl
  f324 := Tryd.func38.trans (congrArg some (by kernel_rfl))
  t0 := Tryd.underlying0
  a0 := Tryd.isAgg0
  z0 := Tryd.sizeOf0
  v0 := Tryd.zeroValue0
  t4 := Tryd.underlying4
  a4 := Tryd.isAgg4
  z4 := Tryd.sizeOf4
  v4 := Tryd.zeroValue4
  t20 := Tryd.underlying20
  a20 := Tryd.isAgg20
  z20 := Tryd.sizeOf20
  v20 := Tryd.zeroValue20
  t75 := Tryd.underlying48
  a75 := Tryd.isAgg48
  z75 := Tryd.sizeOf48
  v75 := Tryd.zeroValue48
  g14 := by kernel_rfl
  t9 := Tryd.underlying9
  a9 := Tryd.isAgg9
  z9 := Tryd.sizeOf9
  v9 := Tryd.zeroValue9
  t80 := Tryd.underlying53
  a80 := Tryd.isAgg53
  z80 := Tryd.sizeOf53
  v80 := Tryd.zeroValue53
  i0 := by kernel_rfl
  i4 := by kernel_rfl
  i9 := by kernel_rfl
  i20 := by kernel_rfl
  i75 := by kernel_rfl
  i80 := by kernel_rfl
  m14 := by kernel_rfl }
theorem Tryd.growSlice_catch_idle (w : World) :
    CallsD Tryd.prog 38 #[] .returning w fun e u' w' => e = .returned (.tuple #[]) ∧ u' = .returning ∧ w' = w := Any.growSlice_catch_idle Tryd.laysM324 w
def Tryd.laysM290_ren : Go.Shelf.Ren := ⟨fun | 290 => 30 | 324 => 38 | n => n, fun | 37 => 41 | 3 => 3 | 0 => 0 | 4 => 4 | 20 => 20 | 75 => 48 | 5 => 5 | 80 => 53 | 9 => 9 | n => n, fun | 14 => 0 | n => n⟩
theorem Tryd.laysM290 : Go.Proofs.LaysM.n290 Tryd.prog Tryd.laysM290_ren := {
  mixed := by kernel_rfl
  f290 := Tryd.func30.trans (congrArg some (by kernel_rfl))
  f324 := Tryd.func38.trans (congrArg some (by kernel_rfl))
  t0 := Tryd.underlying0
  a0 := Tryd.isAgg0
  z0 := Tryd.sizeOf0
  v0 := Tryd.zeroValue0
  t3 := Tryd.underlying3
  a3 := Tryd.isAgg3
  z3 := Tryd.sizeOf3
  v3 := Tryd.zeroValue3
  t4 := Tryd.underlying4
  a4 := Tryd.isAgg4
  z4 := Tryd.sizeOf4
  v4 := Tryd.zeroValue4
  t20 := Tryd.underlying20
  a20 := Tryd.isAgg20
  z20 := Tryd.sizeOf20
  v20 := Tryd.zeroValue20
  t37 := Tryd.underlying41
  a37 := Tryd.isAgg41
  z37 := Tryd.sizeOf41
  v37 := Tryd.zeroValue41
  t75 := Tryd.underlying48
  a75 := Tryd.isAgg48
  z75 := Tryd.sizeOf48
  v75 := Tryd.zeroValue48
  g14 := by kernel_rfl
  t5 := Tryd.underlying5
  a5 := Tryd.isAgg5
  z5 := Tryd.sizeOf5
  v5 := Tryd.zeroValue5
  t9 := Tryd.underlying9
  a9 := Tryd.isAgg9
  z9 := Tryd.sizeOf9
  v9 := Tryd.zeroValue9
  t80 := Tryd.underlying53
  a80 := Tryd.isAgg53
  z80 := Tryd.sizeOf53
  v80 := Tryd.zeroValue53
  i0 := by kernel_rfl
  i3 := by kernel_rfl
  i4 := by kernel_rfl
  i5 := by kernel_rfl
  i9 := by kernel_rfl
  i20 := by kernel_rfl
  i37 := by kernel_rfl
  i75 := by kernel_rfl
  i80 := by kernel_rfl
  m14 := by kernel_rfl }
open Go.RowKit in
theorem Tryd.bytes_growSlice_row (g l c n : Nat) (cur : Array Value) (w : World) (hg : w.heap[g]? = some (.cells cur 5 (0, 0))) (hcs : cur.size = c) (hlc : l ≤ c) (hn : 1 ≤ n) (hlim : l + n ≤ 140737488355328) (hc2 : c ≤ 140737488355328) (h1 : ∀ v ∈ cur.toList.take l, v.oneCell' = true) :
    Calls Tryd.prog 30 #[.slice (some ⟨g, 0, none⟩) l c, .int .i64 n] w fun e w' => ∃ cap2 cells, e = .returned (.slice (some ⟨w.heap.size, 0, none⟩) l cap2) ∧ w'.heap[w.heap.size]? = some (.cells cells 5 (0, 0)) ∧
      cells.size = cap2 ∧ cells.toList.take l = cur.toList.take l ∧ l + n ≤ cap2 ∧ cap2 ≤ maxLen ∧ Below w.heap.size w w' := Any.bytes_growSlice_row Tryd.laysM290 g l c n cur w hg hcs hlc hn hlim hc2 h1
open Go.RowKit in
theorem Tryd.bytes_growSlice_nil (n : Nat) (w : World) (hn : 1 ≤ n) (hlim : n ≤ 140737488355328) :
    Calls Tryd.prog 30 #[.slice none 0 0, .int .i64 n] w fun e w' => ∃ cap2 cells, e = .returned (.slice (some ⟨w.heap.size, 0, none⟩) 0 cap2) ∧ w'.heap[w.heap.size]? = some (.cells cells 5 (0, 0)) ∧
      cells.size = cap2 ∧ n ≤ cap2 ∧ cap2 ≤ maxLen ∧ Below w.heap.size w w' := Any.bytes_growSlice_nil Tryd.laysM290 n w hn hlim
def Tryd.laysM182_ren : Go.Shelf.Ren := ⟨fun | 182 => 16 | n => n, fun | 130 => 54 | 9 => 9 | 4 => 4 | 0 => 0 | 93 => 45 | 37 => 41 | 3 => 3 | 91 => 43 | 5 => 5 | n => n, fun | n => n⟩
theorem Tryd.laysM182 : Go.Proofs.LaysM.n182 Tryd.prog Tryd.laysM182_ren := {
  mixed := by kernel_rfl
  f182 := Tryd.func16.trans (congrArg some (by kernel_rfl))
  t0 := Tryd.underlying0
  a0 := Tryd.isAgg0
  z0 := Tryd.sizeOf0
  v0 := Tryd.zeroValue0
  t3 := Tryd.underlying3
  a3 := Tryd.isAgg3
  z3 := Tryd.sizeOf3
  v3 := Tryd.zeroValue3
  t4 := Tryd.underlying4
  a4 := Tryd.isAgg4
  z4 := Tryd.sizeOf4
  v4 := Tryd.zeroValue4
  t9 := Tryd.underlying9
  a9 := Tryd.isAgg9
  z9 := Tryd.sizeOf9
  v9 := Tryd.zeroValue9
  t37 := Tryd.underlying41
  a37 := Tryd.isAgg41
  z37 := Tryd.sizeOf41
  v37 := Tryd.zeroValue41
  t93 := Tryd.underlying45
  a93 := Tryd.isAgg45
  z93 := Tryd.sizeOf45
  v93 := Tryd.zeroValue45
  t130 := Tryd.underlying54
  a130 := Tryd.isAgg54
  z130 := Tryd.sizeOf54
  v130 := Tryd.zeroValue54
  t5 := Tryd.underlying5
  a5 := Tryd.isAgg5
  z5 := Tryd.sizeOf5
  v5 := Tryd.zeroValue5
  t91 := Tryd.underlying43
  a91 := Tryd.isAgg43
  z91 := Tryd.sizeOf43
  v91 := Tryd.zeroValue43
  i0 := by kernel_rfl
  i3 := by kernel_rfl
  i4 := by kernel_rfl
  i5 := by kernel_rfl
  i9 := by kernel_rfl
  i37 := by kernel_rfl
  i91 := by kernel_rfl
  i93 := by kernel_rfl
  i130 := by kernel_rfl }
open Go.RowKit in
theorem Tryd.Buffer_String (B b : Nat) (l : List UInt8) (w : World) (h : Lib.IsBuffer 45 5 B b (Lib.byteCells l) w) :
    Calls Tryd.prog 16 #[.pointer (some ⟨b, 0, none⟩)] w fun e w' => e = .returned (.string ⟨l.toArray⟩) ∧ ∃ n, w' = w.drewN n := Any.Buffer_String Tryd.laysM182 B b l w h
def Tryd.laysM252_ren : Go.Shelf.Ren := ⟨fun | 252 => 19 | 181 => 28 | 184 => 29 | 251 => 18 | 290 => 30 | 324 => 38 | n => n, fun | 130 => 54 | 3 => 3 | 4 => 4 | 0 => 0 | 93 => 45 | 131 => 55 | 37 => 41 | 75 => 48 | 91 => 43 | 20 => 20 | 5 => 5 | 80 => 53 | 9 => 9 | n => n, fun | 14 => 0 | n => n⟩
theorem Tryd.laysM252 : Go.Proofs.LaysM.n252 Tryd.prog Tryd.laysM252_ren := {
  mixed := by kernel_rfl
  f181 := Tryd.func28.trans (congrArg some (by kernel_rfl))
  f184 := Tryd.func29.trans (congrArg some (by kernel_rfl))
  f251 := Tryd.func18.trans (congrArg some (by kernel_rfl))
  f252 := Tryd.func19.trans (congrArg some (by kernel_rfl))
  f290 := Tryd.func30.trans (congrArg some (by kernel_rfl))
  f324 := Tryd.func38.trans (congrArg some (by kernel_rfl))
  t0 := Tryd.underlying0
  a0 := Tryd.isAgg0
  z0 := Tryd.sizeOf0
  v0 := Tryd.zeroValue0
  t3 := Tryd.underlying3
  a3 := Tryd.isAgg3
  z3 := Tryd.sizeOf3
  v3 := Tryd.zeroValue3
  t4 := Tryd.underlying4
  a4 := Tryd.isAgg4
  z4 := Tryd.sizeOf4
  v4 := Tryd.zeroValue4
  t20 := Tryd.underlying20
  a20 := Tryd.isAgg20
  z20 := Tryd.sizeOf20
  v20 := Tryd.zeroValue20
  t37 := Tryd.underlying41
  a37 := Tryd.isAgg41
  z37 := Tryd.sizeOf41
  v37 := Tryd.zeroValue41
  t75 := Tryd.underlying48
  a75 := Tryd.isAgg48
  z75 := Tryd.sizeOf48
  v75 := Tryd.zeroValue48
  t91 := Tryd.underlying43
  a91 := Tryd.isAgg43
  z91 := Tryd.sizeOf43
  v91 := Tryd.zeroValue43
  t93 := Tryd.underlying45
  a93 := Tryd.isAgg45
  z93 := Tryd.sizeOf45
  v93 := Tryd.zeroValue45
  t130 := Tryd.underlying54
  a130 := Tryd.isAgg54
  z130 := Tryd.sizeOf54
  v130 := Tryd.zeroValue54
  t131 := Tryd.underlying55
  a131 := Tryd.isAgg55
  z131 := Tryd.sizeOf55
  v131 := Tryd.zeroValue55
  g14 := by kernel_rfl
  t5 := Tryd.underlying5
  a5 := Tryd.isAgg5
  z5 := Tryd.sizeOf5
  v5 := Tryd.zeroValue5
  t9 := Tryd.underlying9
  a9 := Tryd.isAgg9
  z9 := Tryd.sizeOf9
  v9 := Tryd.zeroValue9
  t80 := Tryd.underlying53
  a80 := Tryd.isAgg53
  z80 := Tryd.sizeOf53
  v80 := Tryd.zeroValue53
  i0 := by kernel_rfl
  i3 := by kernel_rfl
  i4 := by kernel_rfl
  i5 := by kernel_rfl
  i9 := by kernel_rfl
  i20 := by kernel_rfl
  i37 := by kernel_rfl
  i75 := by kernel_rfl
  i80 := by kernel_rfl
  i91 := by kernel_rfl
  i93 := by kernel_rfl
  i130 := by kernel_rfl
  i131 := by kernel_rfl
  m14 := by kernel_rfl }
open Go.RowKit in
theorem Tryd.Buffer_grow_row0_kept (B b g cap n : Nat) (lr : Int) (cur : Array Value) (bs : List Value) (w : World) (hB : B ≤ b) (hBw : B ≤ w.heap.size) (hbk : w.heap[b]? = some (.cells #[.slice (some ⟨g, 0, none⟩) 0 cap, .int .i64 0, .int .i8 lr] 45 (0, 0))) (hl : bs.length = 0) (hBg : B ≤ g) (hg : w.heap[g]? = some (.cells cur 5 (0, 0))) (hlc : 0 ≤ cap) (hcm : cap ≤ maxLen) (hcs : cur.size = cap) (htake : cur.toList.take 0 = bs) (hgb : g ≠ b) (h1 : ∀ v ∈ bs, v.oneCell' = true) (hn : 1 ≤ n) (hroom : cap - 0 < n) (hlim : 0 + n ≤ 140737488355328) :
    Calls Tryd.prog 19 #[.pointer (some ⟨b, 0, none⟩), .int .i64 n] w fun e w' => e = .returned (.int .i64 0) ∧ ∃ xs, xs.length = n ∧ Lib.IsBuffer 45 5 B b (bs ++ xs) w' ∧ Below B w w' ∧ Lib.OthersKept 5 (some b) w w' := Any.Buffer_grow_row0_kept Tryd.laysM252 B b g cap n lr cur bs w hB hBw hbk hl hBg hg hlc hcm hcs htake hgb h1 hn hroom hlim
open Go.RowKit in
theorem Tryd.Buffer_grow_row_kept (B b g l cap n : Nat) (lr : Int) (cur : Array Value) (bs : List Value) (w : World) (hB : B ≤ b) (hBw : B ≤ w.heap.size) (hbk : w.heap[b]? = some (.cells #[.slice (some ⟨g, 0, none⟩) l cap, .int .i64 0, .int .i8 lr] 45 (0, 0))) (hl : bs.length = l) (hBg : B ≤ g) (hg : w.heap[g]? = some (.cells cur 5 (0, 0))) (hlc : l ≤ cap) (hcm : cap ≤ maxLen) (hcs : cur.size = cap) (htake : cur.toList.take l = bs) (hgb : g ≠ b) (h1 : ∀ v ∈ bs, v.oneCell' = true) (hn : 1 ≤ n) (hroom : cap - l < n) (hlim : l + n ≤ 140737488355328) :
    Calls Tryd.prog 19 #[.pointer (some ⟨b, 0, none⟩), .int .i64 n] w fun e w' => e = .returned (.int .i64 l) ∧ ∃ xs, xs.length = n ∧ Lib.IsBuffer 45 5 B b (bs ++ xs) w' ∧ Below B w w' ∧ Lib.OthersKept 5 (some b) w w' := Any.Buffer_grow_row_kept Tryd.laysM252 B b g l cap n lr cur bs w hB hBw hbk hl hBg hg hlc hcm hcs htake hgb h1 hn hroom hlim
open Go.RowKit in
theorem Tryd.Buffer_grow_nil_small_kept (B b n : Nat) (lr : Int) (w : World) (hB : B ≤ b) (hBw : B ≤ w.heap.size) (hbk : w.heap[b]? = some (.cells #[.slice none 0 0, .int .i64 0, .int .i8 lr] 45 (0, 0))) (hn : 1 ≤ n) (h64 : n ≤ 64) :
    Calls Tryd.prog 19 #[.pointer (some ⟨b, 0, none⟩), .int .i64 n] w fun e w' => e = .returned (.int .i64 0) ∧ ∃ xs, xs.length = n ∧ Lib.IsBuffer 45 5 B b xs w' ∧ Below B w w' ∧ Lib.OthersKept 5 (some b) w w' := Any.Buffer_grow_nil_small_kept Tryd.laysM252 B b n lr w hB hBw hbk hn h64
open Go.RowKit in
theorem Tryd.Buffer_grow_nil_big_kept (B b n : Nat) (lr : Int) (w : World) (hB : B ≤ b) (hBw : B ≤ w.heap.size) (hbk : w.heap[b]? = some (.cells #[.slice none 0 0, .int .i64 0, .int .i8 lr] 45 (0, 0))) (h64 : 64 < n) (hlim : n ≤ 140737488355328) :
    Calls Tryd.prog 19 #[.pointer (some ⟨b, 0, none⟩), .int .i64 n] w fun e w' => e = .returned (.int .i64 0) ∧ ∃ xs, xs.length = n ∧ Lib.IsBuffer 45 5 B b xs w' ∧ Below B w w' ∧ Lib.OthersKept 5 (some b) w w' := Any.Buffer_grow_nil_big_kept Tryd.laysM252 B b n lr w hB hBw hbk h64 hlim
open Go.RowKit in
theorem Tryd.Buffer_tryGrow_kept (B b n : Nat) (bs : List Value) (w : World) (h : Lib.IsBuffer 45 5 B b bs w) :
    Calls Tryd.prog 18 #[.pointer (some ⟨b, 0, none⟩), .int .i64 n] w fun e w' =>
      (e = .returned (.tuple #[.int .i64 bs.length, .bool true]) ∧ ∃ xs, xs.length = n ∧ Lib.IsBuffer 45 5 B b (bs ++ xs) w' ∧ Below B w w' ∧ Lib.OthersKept 5 (some b) w w') ∨
      (e = .returned (.tuple #[.int .i64 0, .bool false]) ∧ w' = w ∧ Lib.NoRoom b n w) := Any.Buffer_tryGrow_kept Tryd.laysM251 B b n bs w h
open Go.RowKit in
theorem Tryd.Buffer_grow_kept (B b n : Nat) (bs : List Value) (w : World) (h : Lib.IsBuffer 45 5 B b bs w) (hnr : Lib.NoRoom b n w) (hBw : B ≤ w.heap.size) (h1 : ∀ v ∈ bs, v.oneCell' = true) (hlim : bs.length + n ≤ 140737488355328) :
    Calls Tryd.prog 19 #[.pointer (some ⟨b, 0, none⟩), .int .i64 n] w fun e w' => e = .returned (.int .i64 bs.length) ∧ ∃ xs, xs.length = n ∧ Lib.IsBuffer 45 5 B b (bs ++ xs) w' ∧ Below B w w' ∧ Lib.OthersKept 5 (some b) w w' := Any.Buffer_grow_kept Tryd.laysM252 B b n bs w h hnr hBw h1 hlim
def Tryd.laysM178_ren : Go.Shelf.Ren := ⟨fun | 178 => 13 | 251 => 18 | 252 => 19 | 181 => 28 | 184 => 29 | 290 => 30 | 324 => 38 | n => n, fun | 130 => 54 | 9 => 9 | 3 => 3 | 75 => 48 | 0 => 0 | 93 => 45 | 91 => 43 | 131 => 55 | 4 => 4 | 37 => 41 | 20 => 20 | 80 => 53 | 5 => 5 | n => n, fun | 14 => 0 | n => n⟩
theorem Tryd.laysM178 : Go.Proofs.LaysM.n178 Tryd.prog Tryd.laysM178_ren := {
  mixed := by kernel_rfl
  f178 := Tryd.func13.trans (congrArg some (by kernel_rfl))
  f181 := Tryd.func28.trans (congrArg some (by kernel_rfl))
  f184 := Tryd.func29.trans (congrArg some (by kernel_rfl))
  f251 := Tryd.func18.trans (congrArg some (by kernel_rfl))
  f252 := Tryd.func19.trans (congrArg some (by kernel_rfl))
  f290 := Tryd.func30.trans (congrArg some (by kernel_rfl))
  f324 := Tryd.func38.trans (congrArg some (by kernel_rfl))
  t0 := Tryd.underlying0
  a0 := Tryd.isAgg0
  z0 := Tryd.sizeOf0
  v0 := Tryd.zeroValue0
  t3 := Tryd.underlying3
  a3 := Tryd.isAgg3
  z3 := Tryd.sizeOf3
  v3 := Tryd.zeroValue3
  t4 := Tryd.underlying4
  a4 := Tryd.isAgg4
  z4 := Tryd.sizeOf4
  v4 := Tryd.zeroValue4
  t9 := Tryd.underlying9
  a9 := Tryd.isAgg9
  z9 := Tryd.sizeOf9
  v9 := Tryd.zeroValue9
  t20 := Tryd.underlying20
  a20 := Tryd.isAgg20
  z20 := Tryd.sizeOf20
  v20 := Tryd.zeroValue20
  t37 := Tryd.underlying41
  a37 := Tryd.isAgg41
  z37 := Tryd.sizeOf41
  v37 := Tryd.zeroValue41
  t75 := Tryd.underlying48
  a75 := Tryd.isAgg48
  z75 := Tryd.sizeOf48
  v75 := Tryd.zeroValue48
  t91 := Tryd.underlying43
  a91 := Tryd.isAgg43
  z91 := Tryd.sizeOf43
  v91 := Tryd.zeroValue43
  t93 := Tryd.underlying45
  a93 := Tryd.isAgg45
  z93 := Tryd.sizeOf45
  v93 := Tryd.zeroValue45
  t130 := Tryd.underlying54
  a130 := Tryd.isAgg54
  z130 := Tryd.sizeOf54
  v130 := Tryd.zeroValue54
  t131 := Tryd.underlying55
  a131 := Tryd.isAgg55
  z131 := Tryd.sizeOf55
  v131 := Tryd.zeroValue55
  g14 := by kernel_rfl
  t5 := Tryd.underlying5
  a5 := Tryd.isAgg5
  z5 := Tryd.sizeOf5
  v5 := Tryd.zeroValue5
  t80 := Tryd.underlying53
  a80 := Tryd.isAgg53
  z80 := Tryd.sizeOf53
  v80 := Tryd.zeroValue53
  i0 := by kernel_rfl
  i3 := by kernel_rfl
  i4 := by kernel_rfl
  i5 := by kernel_rfl
  i9 := by kernel_rfl
  i20 := by kernel_rfl
  i37 := by kernel_rfl
  i75 := by kernel_rfl
  i80 := by kernel_rfl
  i91 := by kernel_rfl
  i93 := by kernel_rfl
  i130 := by kernel_rfl
  i131 := by kernel_rfl
  m14 := by kernel_rfl }
open Go.RowKit in
theorem Tryd.Buffer_WriteString_kept (B b : Nat) (bs : List Value) (s : ByteArray) (w : World) (h : Lib.IsBuffer 45 5 B b bs w) (hBw : B ≤ w.heap.size) (h1 : ∀ v ∈ bs, v.oneCell' = true) (hlim : bs.length + s.size ≤ 140737488355328) :
    Calls Tryd.prog 13 #[.pointer (some ⟨b, 0, none⟩), .string s] w fun e w' => e = .returned (.tuple #[.int .i64 s.size, .nilIface]) ∧ Lib.IsBuffer 45 5 B b (bs ++ Lib.byteCells s.data.toList) w' ∧ Below B w w' ∧ Lib.OthersKept 5 (some b) w w' := Any.Buffer_WriteString_kept Tryd.laysM178 B b bs s w h hBw h1 hlim
def Tryd.laysM184_ren : Go.Shelf.Ren := ⟨fun | 184 => 29 | n => n, fun | 130 => 54 | 0 => 0 | 93 => 45 | 37 => 41 | 3 => 3 | 91 => 43 | 5 => 5 | n => n, fun | n => n⟩
theorem Tryd.laysM184 : Go.Proofs.LaysM.n184 Tryd.prog Tryd.laysM184_ren := {
  mixed := by kernel_rfl
  f184 := Tryd.func29.trans (congrArg some (by kernel_rfl))
  t0 := Tryd.underlying0
  a0 := Tryd.isAgg0
  z0 := Tryd.sizeOf0
  v0 := Tryd.zeroValue0
  t3 := Tryd.underlying3
  a3 := Tryd.isAgg3
  z3 := Tryd.sizeOf3
  v3 := Tryd.zeroValue3
  t37 := Tryd.underlying41
  a37 := Tryd.isAgg41
  z37 := Tryd.sizeOf41
  v37 := Tryd.zeroValue41
  t91 := Tryd.underlying43
  a91 := Tryd.isAgg43
  z91 := Tryd.sizeOf43
  v91 := Tryd.zeroValue43
  t93 := Tryd.underlying45
  a93 := Tryd.isAgg45
  z93 := Tryd.sizeOf45
  v93 := Tryd.zeroValue45
  t130 := Tryd.underlying54
  a130 := Tryd.isAgg54
  z130 := Tryd.sizeOf54
  v130 := Tryd.zeroValue54
  t5 := Tryd.underlying5
  a5 := Tryd.isAgg5
  z5 := Tryd.sizeOf5
  v5 := Tryd.zeroValue5
  i0 := by kernel_rfl
  i3 := by kernel_rfl
  i5 := by kernel_rfl
  i37 := by kernel_rfl
  i91 := by kernel_rfl
  i93 := by kernel_rfl
  i130 := by kernel_rfl }
open Go.RowKit in
theorem Tryd.Buffer_Reset_kept (B b : Nat) (bs : List Value) (w : World) (h : Lib.IsBuffer 45 5 B b bs w) :
    Calls Tryd.prog 29 #[.pointer (some ⟨b, 0, none⟩)] w fun e w' => e = .returned (.tuple #[]) ∧ Lib.IsBuffer 45 5 B b [] w' ∧ Below B w w' ∧ Lib.OthersKept 5 (some b) w w' := Any.Buffer_Reset_kept Tryd.laysM184 B b bs w h
open Go.RowKit in
theorem Tryd.Buffer_WriteString_k (B b : Nat) (bs : List Value) (s : ByteArray) (w : World) (h : Lib.IsBuffer 45 5 B b bs w) (hBw : B ≤ w.heap.size) (h1 : ∀ v ∈ bs, v.oneCell' = true) (hlim : bs.length + s.size ≤ 140737488355328) :
    Calls Tryd.prog 13 #[.pointer (some ⟨b, 0, none⟩), .string s] w fun e w' => e = .returned (.tuple #[.int .i64 s.size, .nilIface]) ∧ Lib.IsBuffer 45 5 B b (bs ++ Lib.byteCells s.data.toList) w' ∧ Below B w w' ∧ Lib.OthersKept 5 (some b) w w' := Any.Buffer_WriteString_k Tryd.laysM178 B b bs s w h hBw h1 hlim
open Go.RowKit in
theorem Tryd.Buffer_Reset_k (B b : Nat) (bs : List Value) (w : World) (h : Lib.IsBuffer 45 5 B b bs w) :
    Calls Tryd.prog 29 #[.pointer (some ⟨b, 0, none⟩)] w fun e w' => e = .returned (.tuple #[]) ∧ Lib.IsBuffer 45 5 B b [] w' ∧ Below B w w' ∧ Lib.OthersKept 5 (some b) w w' := Any.Buffer_Reset_k Tryd.laysM184 B b bs w h
def Tryd.lays206_ren : Go.Shelf.Ren := ⟨fun | 206 => 34 | n => n, fun | 9 => 9 | 4 => 4 | 3 => 3 | n => n, fun | n => n⟩
theorem Tryd.lays206 : Go.Proofs.Lays.n206 Tryd.prog Tryd.lays206_ren := {
  mixed := by kernel_rfl
  f206 := Tryd.func34.trans (congrArg some (by kernel_rfl))
  t3 := Tryd.underlying3
  a3 := Tryd.isAgg3
  z3 := Tryd.sizeOf3
  v3 := Tryd.zeroValue3
  t4 := Tryd.underlying4
  a4 := Tryd.isAgg4
  z4 := Tryd.sizeOf4
  v4 := Tryd.zeroValue4
  t9 := Tryd.underlying9
  a9 := Tryd.isAgg9
  z9 := Tryd.sizeOf9
  v9 := Tryd.zeroValue9 }
open Go.RowKit Go.Lib in
theorem Tryd.stringslite_HasPrefix (s p : ByteArray) (w : World) :
    Calls Tryd.prog 34 #[.string s, .string p] w fun e w' => e = .returned (.bool (Lib.hasPrefix s.data.toList p.data.toList)) ∧ w' = w := Any.stringslite_HasPrefix Tryd.lays206 s p w
def Tryd.lays99_ren : Go.Shelf.Ren := ⟨fun | 99 => 22 | 206 => 34 | n => n, fun | 9 => 9 | 4 => 4 | 3 => 3 | n => n, fun | n => n⟩
theorem Tryd.lays99 : Go.Proofs.Lays.n99 Tryd.prog Tryd.lays99_ren := {
  mixed := by kernel_rfl
  f99 := Tryd.func22.trans (congrArg some (by kernel_rfl))
  f206 := Tryd.func34.trans (congrArg some (by kernel_rfl))
  t3 := Tryd.underlying3
  a3 := Tryd.isAgg3
  z3 := Tryd.sizeOf3
  v3 := Tryd.zeroValue3
  t4 := Tryd.underlying4
  a4 := Tryd.isAgg4
  z4 := Tryd.sizeOf4
  v4 := Tryd.zeroValue4
  t9 := Tryd.underlying9
  a9 := Tryd.isAgg9
  z9 := Tryd.sizeOf9
  v9 := Tryd.zeroValue9 }
open Go.RowKit Go.Lib in
theorem Tryd.strings_HasPrefix (s p : ByteArray) (w : World) :
    Calls Tryd.prog 22 #[.string s, .string p] w fun e w' => e = .returned (.bool (Lib.hasPrefix s.data.toList p.data.toList)) ∧ w' = w := Any.strings_HasPrefix Tryd.lays99 s p w
def Tryd.lays264_ren : Go.Shelf.Ren := ⟨fun | 264 => 33 | n => n, fun | 53 => 72 | 46 => 58 | n => n, fun | n => n⟩
theorem Tryd.lays264 : Go.Proofs.Lays.n264 Tryd.prog Tryd.lays264_ren := {
  mixed := by kernel_rfl
  f264 := Tryd.func33.trans (congrArg some (by kernel_rfl))
  t46 := Tryd.underlying58
  a46 := Tryd.isAgg58
  z46 := Tryd.sizeOf58
  v46 := Tryd.zeroValue58
  t53 := Tryd.underlying72
  a53 := Tryd.isAgg72
  z53 := Tryd.sizeOf72
  v53 := Tryd.zeroValue72 }
open Go.RowKit Go.Lib in
theorem Tryd.bits_Mul64 (x y : Nat) (hx : x < 18446744073709551616) (hy : y < 18446744073709551616) (w : World) :
    Calls Tryd.prog 33 #[.int .u64 x, .int .u64 y] w fun e w' => e = .returned (.tuple #[.int .u64 ((x * y / 18446744073709551616 : Nat) : Int), .int .u64 ((x * y % 18446744073709551616 : Nat) : Int)]) ∧ w' = w := Any.bits_Mul64 Tryd.lays264 x y hx hy w
def Tryd.lays212_ren : Go.Shelf.Ren := ⟨fun | 212 => 21 | 263 => 32 | 264 => 33 | n => n, fun | 46 => 58 | 51 => 69 | 146 => 70 | 53 => 72 | 148 => 73 | n => n, fun | n => n⟩
theorem Tryd.lays212 : Go.Proofs.Lays.n212 Tryd.prog Tryd.lays212_ren := {
  mixed := by kernel_rfl
  f212 := Tryd.func21.trans (congrArg some (by kernel_rfl))
  f263 := Tryd.func32.trans (congrArg some (by kernel_rfl))
  f264 := Tryd.func33.trans (congrArg some (by kernel_rfl))
  t46 := Tryd.underlying58
  a46 := Tryd.isAgg58
  z46 := Tryd.sizeOf58
  v46 := Tryd.zeroValue58
  t51 := Tryd.underlying69
  a51 := Tryd.isAgg69
  z51 := Tryd.sizeOf69
  v51 := Tryd.zeroValue69
  t53 := Tryd.underlying72
  a53 := Tryd.isAgg72
  z53 := Tryd.sizeOf72
  v53 := Tryd.zeroValue72
  t146 := Tryd.underlying70
  a146 := Tryd.isAgg70
  z146 := Tryd.sizeOf70
  v146 := Tryd.zeroValue70
  t148 := Tryd.underlying73
  a148 := Tryd.isAgg73
  z148 := Tryd.sizeOf73
  v148 := Tryd.zeroValue73 }
open Go.RowKit Go.Lib in
theorem Tryd.bits_Mul (x y : Nat) (hx : x < 18446744073709551616) (hy : y < 18446744073709551616) (w : World) :
    Calls Tryd.prog 21 #[.int .u64 x, .int .u64 y] w fun e w' => e = .returned (.tuple #[.int .u64 ((x * y / 18446744073709551616 : Nat) : Int), .int .u64 ((x * y % 18446744073709551616 : Nat) : Int)]) ∧ w' = w := Any.bits_Mul Tryd.lays212 x y hx hy w
def Tryd.lays105_ren : Go.Shelf.Ren := ⟨fun | 105 => 15 | 212 => 21 | 99 => 22 | 165 => 23 | 166 => 24 | 170 => 25 | 169 => 26 | 263 => 32 | 264 => 33 | 206 => 34 | 240 => 35 | 241 => 36 | 276 => 40 | 277 => 41 | n => n, fun | 9 => 9 | 3 => 3 | 4 => 4 | 20 => 20 | 0 => 0 | 46 => 58 | 109 => 59 | 5 => 5 | 72 => 63 | 76 => 49 | 51 => 69 | 146 => 70 | 53 => 72 | 148 => 73 | 70 => 61 | 37 => 41 | 75 => 48 | 127 => 75 | 164 => 78 | 80 => 53 | n => n, fun | n => n⟩
theorem Tryd.lays105 : Go.Proofs.Lays.n105 Tryd.prog Tryd.lays105_ren := {
  mixed := by kernel_rfl
  f99 := Tryd.func22.trans (congrArg some (by kernel_rfl))
  f105 := Tryd.func15.trans (congrArg some (by kernel_rfl))
  f165 := Tryd.func23.trans (congrArg some (by kernel_rfl))
  f166 := Tryd.func24.trans (congrArg some (by kernel_rfl))
  f169 := Tryd.func26.trans (congrArg some (by kernel_rfl))
  f170 := Tryd.func25.trans (congrArg some (by kernel_rfl))
  f206 := Tryd.func34.trans (congrArg some (by kernel_rfl))
  f212 := Tryd.func21.trans (congrArg some (by kernel_rfl))
  f240 := Tryd.func35.trans (congrArg some (by kernel_rfl))
  f241 := Tryd.func36.trans (congrArg some (by kernel_rfl))
  f263 := Tryd.func32.trans (congrArg some (by kernel_rfl))
  f264 := Tryd.func33.trans (congrArg some (by kernel_rfl))
  f276 := Tryd.func40.trans (congrArg some (by kernel_rfl))
  f277 := Tryd.func41.trans (congrArg some (by kernel_rfl))
  t0 := Tryd.underlying0
  a0 := Tryd.isAgg0
  z0 := Tryd.sizeOf0
  v0 := Tryd.zeroValue0
  t3 := Tryd.underlying3
  a3 := Tryd.isAgg3
  z3 := Tryd.sizeOf3
  v3 := Tryd.zeroValue3
  t4 := Tryd.underlying4
  a4 := Tryd.isAgg4
  z4 := Tryd.sizeOf4
  v4 := Tryd.zeroValue4
  t5 := Tryd.underlying5
  a5 := Tryd.isAgg5
  z5 := Tryd.sizeOf5
  v5 := Tryd.zeroValue5
  t9 := Tryd.underlying9
  a9 := Tryd.isAgg9
  z9 := Tryd.sizeOf9
  v9 := Tryd.zeroValue9
  t20 := Tryd.underlying20
  a20 := Tryd.isAgg20
  z20 := Tryd.sizeOf20
  v20 := Tryd.zeroValue20
  t37 := Tryd.underlying41
  a37 := Tryd.isAgg41
  z37 := Tryd.sizeOf41
  v37 := Tryd.zeroValue41
  t46 := Tryd.underlying58
  a46 := Tryd.isAgg58
  z46 := Tryd.sizeOf58
  v46 := Tryd.zeroValue58
  t51 := Tryd.underlying69
  a51 := Tryd.isAgg69
  z51 := Tryd.sizeOf69
  v51 := Tryd.zeroValue69
  t53 := Tryd.underlying72
  a53 := Tryd.isAgg72
  z53 := Tryd.sizeOf72
  v53 := Tryd.zeroValue72
  t70 := Tryd.underlying61
  a70 := Tryd.isAgg61
  z70 := Tryd.sizeOf61
  v70 := Tryd.zeroValue61
  t72 := Tryd.underlying63
  a72 := Tryd.isAgg63
  z72 := Tryd.sizeOf63
  v72 := Tryd.zeroValue63
  t75 := Tryd.underlying48
  a75 := Tryd.isAgg48
  z75 := Tryd.sizeOf48
  v75 := Tryd.zeroValue48
  t76 := Tryd.underlying49
  a76 := Tryd.isAgg49
  z76 := Tryd.sizeOf49
  v76 := Tryd.zeroValue49
  t109 := Tryd.underlying59
  a109 := Tryd.isAgg59
  z109 := Tryd.sizeOf59
  v109 := Tryd.zeroValue59
  t127 := Tryd.underlying75
  a127 := Tryd.isAgg75
  z127 := Tryd.sizeOf75
  v127 := Tryd.zeroValue75
  t146 := Tryd.underlying70
  a146 := Tryd.isAgg70
  z146 := Tryd.sizeOf70
  v146 := Tryd.zeroValue70
  t148 := Tryd.underlying73
  a148 := Tryd.isAgg73
  z148 := Tryd.sizeOf73
  v148 := Tryd.zeroValue73
  t164 := Tryd.underlying78
  a164 := Tryd.isAgg78
  z164 := Tryd.sizeOf78
  v164 := Tryd.zeroValue78 }
theorem Tryd.Builder_Extra_105 : Builder.Extra Tryd.prog Tryd.lays105_ren := {
  sizeBuilder := by kernel_rfl
  liesBuilder := by kernel_rfl
  t5 := Tryd.underlying5
  a5 := Tryd.isAgg5
  z5 := Tryd.sizeOf5
  v5 := Tryd.zeroValue5
  infoByte := by kernel_rfl
  cellsByte := by kernel_rfl
  sizeByte := by kernel_rfl
  neB5 := by decide }
open Go.RowKit Go.Lib in
theorem Tryd.strings_Repeat_main (s : ByteArray) (c : Nat) (w : World) (hc2 : 2 ≤ c) (hc : c ≤ 9223372036854775807) (hlen : s.size * c ≤ 140737488355328) (h0 : 0 < s.size) :
    Calls Tryd.prog 15 #[.string s, .int .i64 c] w fun e w' => e = .returned (.string ⟨(Lib.repeatL s.data.toList c).toArray⟩) ∧ Below w.heap.size w w' := Any.strings_Repeat_main Tryd.lays105 Tryd.Builder_Extra_105 s c w hc2 hc hlen h0
open Go.RowKit Go.Lib in
theorem Tryd.strings_Repeat_zero (s : ByteArray) (w : World) :
    Calls Tryd.prog 15 #[.string s, .int .i64 0] w fun e w' => e = .returned (.string ⟨#[]⟩) ∧ w' = w := Any.strings_Repeat_zero Tryd.lays105 s w
open Go.RowKit Go.Lib in
theorem Tryd.strings_Repeat_one (s : ByteArray) (w : World) :
    Calls Tryd.prog 15 #[.string s, .int .i64 1] w fun e w' => e = .returned (.string s) ∧ w' = w := Any.strings_Repeat_one Tryd.lays105 s w
open Go.RowKit Go.Lib in
theorem Tryd.strings_Repeat_empty (s : ByteArray) (c : Nat) (w : World) (hc2 : 2 ≤ c) (hc : c ≤ 9223372036854775807) (h0 : s.size = 0) :
    Calls Tryd.prog 15 #[.string s, .int .i64 c] w fun e w' => e = .returned (.string ⟨#[]⟩) ∧ w' = w := Any.strings_Repeat_empty Tryd.lays105 s c w hc2 hc h0
open Go.RowKit Go.Lib in
theorem Tryd.strings_Repeat_negative (s : ByteArray) (c : Int) (w : World) (hc : c < 0) :
    Calls Tryd.prog 15 #[.string s, .int .i64 c] w fun e w' => e = .panicked [{ v := repeatPanic Tryd.lays105_ren "strings: negative Repeat count", recovered := false }] ∧ w' = w := Any.strings_Repeat_negative Tryd.lays105 s c w hc
open Go.RowKit Go.Lib in
theorem Tryd.strings_Repeat_overflow (s : ByteArray) (c : Nat) (w : World) (hc : c ≤ 9223372036854775807) (hs : s.size ≤ 9223372036854775807) (hbig : 9223372036854775807 < s.size * c) :
    Calls Tryd.prog 15 #[.string s, .int .i64 c] w fun e w' => e = .panicked [{ v := repeatPanic Tryd.lays105_ren "strings: Repeat output length overflow", recovered := false }] ∧ w' = w := Any.strings_Repeat_overflow Tryd.lays105 s c w hc hs hbig
open Go.RowKit Go.Lib in
theorem Tryd.strings_Repeat (s : ByteArray) (c : Nat) (w : World) (hc : c ≤ 9223372036854775807) (hlen : s.size * c ≤ 140737488355328) :
    Calls Tryd.prog 15 #[.string s, .int .i64 c] w fun e w' => e = .returned (.string ⟨(Lib.repeatL s.data.toList c).toArray⟩) ∧ Below w.heap.size w w' := Any.strings_Repeat Tryd.lays105 Tryd.Builder_Extra_105 s c w hc hlen
end Go.Proofs
