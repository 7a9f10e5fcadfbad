/-
  The lexer's state in memory, and the contracts of its small methods (eof, peek, peekOk, peekIs, slice, skip, skipN) and of the classes of bytes.
  The contracts of the classes of bytes, of isNextDotIdent and of peekDelimiter.
  What the lexer does, in plain lists of bytes: blanks, comments, numbers, quoted texts, tokens.
-/
import Derived.Test.YtcelnnjjakiehaaGreatDoorRows
import Derived.Test.YtcelnnjjakiehaaGreatDoorFile
import Derived.Deep.QuietTactic
import Derived.BigQuiet
import Derived.LoopN
import Derived.Test.YtcelnnjjakiehaaGreatDoorShelf
namespace Go.Proofs.YtcelnnjjakiehaaGreatDoor
open Go.RowKit

/-- the byte at a place -/
def byteAt (l : List UInt8) (k : Nat) : Int := ((l.getD k 0).toNat : Int)
/-- whether a byte stands at a place -/
def isAt (l : List UInt8) (k : Nat) (c : Int) : Bool := match l[k]? with | some b => decide ((b.toNat : Int) = c) | none => false
/-- the bytes from a place up to another one, as far as there are -/
def sub (l : List UInt8) (i j : Nat) : List UInt8 := (l.take j).drop i
theorem byteAt_get (s : ByteArray) (k : Nat) (h : k < s.size) : (s[k].toNat : Int) = byteAt s.data.toList k := by
  have h2 : k < s.data.toList.length := by rw [ba_toList_length]; exact h
  simp only [byteAt, List.getD, List.getElem?_eq_getElem h2, Option.getD_some]; rfl
theorem byteAt_bd (l : List UInt8) (k : Nat) : 0 ≤ byteAt l k ∧ byteAt l k < 256 := by
  unfold byteAt
  have := UInt8.toNat_lt (l.getD k 0)
  omega
theorem isAt_in (l : List UInt8) (k : Nat) (c : Int) (h : k < l.length) : isAt l k c = decide (byteAt l k = c) := by
  simp only [isAt, byteAt, List.getD, List.getElem?_eq_getElem h, Option.getD_some]
theorem isAt_out (l : List UInt8) (k : Nat) (c : Int) (h : l.length ≤ k) : isAt l k c = false := by
  unfold isAt
  rw [List.getElem?_eq_none h]
theorem sub_data (s : ByteArray) (i j : Nat) : (s.extract i j).data.toList = sub s.data.toList i j := by
  rw [Lib.extract_data, sub, List.drop_take]

/-- the fields of a lexer -/
structure LexSt where
  kind : ByteArray
  coms : Value
  space : ByteArray
  raw : ByteArray
  text : ByteArray
  base : Int
  tpos : Int
  tend : Int
  pos : Nat
  last : ByteArray
  dot : Bool
def LexSt.cells (x : LexSt) (fb : Nat) : Array Value := #[.pointer (some ⟨fb, 0, none⟩), .string x.kind, x.coms, .string x.space, .string x.raw, .string x.text, .int .i64 x.base, .int .i64 x.tpos, .int .i64 x.tend, .int .i64 x.pos, .string x.last, .bool x.dot]
/-- block lb holds a lexer of the text s, block fb its file, no lines laid -/
structure LexAt (w : World) (lb fb : Nat) (s : ByteArray) (x : LexSt) : Prop where
  lex : w.heap[lb]? = some (.cells (x.cells fb) 64 (0, 0))
  file : w.heap[fb]? = some (.cells #[.string ⟨#[]⟩, .string s, .slice none 0 0] 71 (0, 0))
/-- what the small methods read -/
structure Rd (w : World) (lb fb : Nat) (s : ByteArray) (pos : Nat) : Prop where
  ptr : w.cell? ⟨lb, 0, none⟩ = some (.pointer (some ⟨fb, 0, none⟩))
  at_ : w.cell? ⟨lb, 9, none⟩ = some (.int .i64 pos)
  buf : w.cell? ⟨fb, 1, none⟩ = some (.string s)
theorem LexAt.rd {w : World} {lb fb : Nat} {s : ByteArray} {x : LexSt} (h : LexAt w lb fb s x) : Rd w lb fb s x.pos := by
  refine ⟨?_, ?_, ?_⟩
  · simp [World.cell?, h.lex, LexSt.cells]
  · simp [World.cell?, h.lex, LexSt.cells]
  · simp [World.cell?, h.file]
theorem LexAt.ne {w : World} {lb fb : Nat} {s : ByteArray} {x : LexSt} (h : LexAt w lb fb s x) : lb ≠ fb := by
  intro e
  subst e
  have h1 := h.lex
  rw [h.file] at h1
  simp at h1
theorem LexAt.cell {w : World} {lb fb : Nat} {s : ByteArray} {x : LexSt} (h : LexAt w lb fb s x) (k : Nat) : w.cell? ⟨lb, k, none⟩ = (x.cells fb)[k]? ∧ w.frozen? ⟨lb, k, none⟩ = false := by
  simp [World.cell?, World.frozen?, h.lex]
theorem LexAt.lt {w : World} {lb fb : Nat} {s : ByteArray} {x : LexSt} (h : LexAt w lb fb s x) : lb < w.heap.size ∧ fb < w.heap.size :=
  ⟨(Array.getElem?_eq_some_iff.1 h.lex).1, (Array.getElem?_eq_some_iff.1 h.file).1⟩
theorem LexAt.drewN {w : World} {lb fb : Nat} {s : ByteArray} {x : LexSt} (h : LexAt w lb fb s x) (n : Nat) : LexAt (w.drewN n) lb fb s x := ⟨h.lex, h.file⟩
theorem Rd.drewN {w : World} {lb fb : Nat} {s : ByteArray} {p : Nat} (h : Rd w lb fb s p) (n : Nat) : Rd (w.drewN n) lb fb s p := ⟨h.ptr, h.at_, h.buf⟩
/-- a store into one of the lexer's cells -/
theorem LexAt.set {w : World} {lb fb : Nat} {s : ByteArray} {x : LexSt} (h : LexAt w lb fb s x) (k : Nat) (v : Value) (y : LexSt) (hy : (x.cells fb).setIfInBounds k v = y.cells fb) : LexAt (w.setCell ⟨lb, k, none⟩ v) lb fb s y := by
  refine ⟨?_, ?_⟩
  · simp [World.setCell, Array.getElem?_modify, h.lex, hy]
  · rw [Below.heap_setCell _ _ _ _ (Ne.symm h.ne)]; exact h.file
theorem LexAt.grown {w w' : World} {lb fb : Nat} {s : ByteArray} {x : LexSt} (h : LexAt w lb fb s x) {r : Option Nat} (hg : w.grownBy w' r) (h1 : some lb ≠ r) (h2 : some fb ≠ r) : LexAt w' lb fb s x :=
  ⟨by rw [hg.block lb h.lt.1 h1]; exact h.lex, by rw [hg.block fb h.lt.2 h2]; exact h.file⟩

set_option maxRecDepth 20000
set_option maxHeartbeats 400000
set_option linter.unusedVariables false

theorem eof_any (lb fb pos : Nat) (s : ByteArray) (w : World) (h : Rd w lb fb s pos) :
    Calls Tryz.prog 57 #[.pointer (some ⟨lb, 0, none⟩)] w fun e w' => e = .returned (.bool (decide (s.size ≤ pos))) ∧ ∃ n, w' = w.drewN n := by
  obtain ⟨c0, c9, c1⟩ := h
  go_enter Tryz.func57, Tryz.ntmps57
  go_wp2_with fail
  go_quiet (fail)
  go_wp2_with fail
  go_ret
  exact ⟨rfl, _, rfl⟩
theorem peekOk_any (lb fb pos : Nat) (s : ByteArray) (i : Int) (w : World) (h : Rd w lb fb s pos) (h0 : 0 ≤ i) (h1 : i ≤ 9000000000) (hp : pos ≤ 4294967296) :
    Calls Tryz.prog 63 #[.pointer (some ⟨lb, 0, none⟩), .int .i64 i] w fun e w' => e = .returned (.bool (decide (pos + i.toNat < s.size))) ∧ ∃ n, w' = w.drewN n := by
  obtain ⟨c0, c9, c1⟩ := h
  obtain ⟨i, rfl⟩ := Int.eq_ofNat_of_zero_le h0
  rw [Int.toNat_natCast]
  have hw : IntKind.i64.wrap ((pos : Int) + (i : Int)) = (pos : Int) + (i : Int) := IntWalk.i64_in _ (by omega)
  go_enter Tryz.func63, Tryz.ntmps63
  go_wp2_with fail
  go_quiet (fail)
  clear hw
  go_wp2_with fail
  go_ret
  refine ⟨ret_bool ?_, _, rfl⟩
  apply decide_eq_decide.2
  omega
theorem peek_any (lb fb pos : Nat) (s : ByteArray) (i : Int) (w : World) (h : Rd w lb fb s pos) (h0 : 0 ≤ i) (hp : pos + i.toNat < s.size) (hs : s.size ≤ 4294967296) :
    Calls Tryz.prog 65 #[.pointer (some ⟨lb, 0, none⟩), .int .i64 i] w fun e w' => e = .returned (.int .u8 (byteAt s.data.toList (pos + i.toNat))) ∧ ∃ n, w' = w.drewN n := by
  obtain ⟨c0, c9, c1⟩ := h
  obtain ⟨i, rfl⟩ := Int.eq_ofNat_of_zero_le h0
  rw [Int.toNat_natCast] at *
  have hw : IntKind.i64.wrap ((pos : Int) + (i : Int)) = (pos : Int) + (i : Int) := IntWalk.i64_in _ (by omega)
  have hw2 : ((pos : Int) + (i : Int)).toNat = pos + i := by omega
  have hw3 : (0 : Int) ≤ (pos : Int) + (i : Int) := by omega
  have hw4 : ((pos : Int) + (i : Int)) < (s.size : Int) := by omega
  go_enter Tryz.func65, Tryz.ntmps65
  go_wp2_with fail
  go_quiet (fail)
  go_wp2_with fail
  go_ret
  refine ⟨ret_int ?_, _, rfl⟩
  rw [← byteAt_get s _ hp]

theorem peekIs_any (lb fb pos : Nat) (s : ByteArray) (i c : Int) (w : World) (h : Rd w lb fb s pos) (h0 : 0 ≤ i) (h1 : i ≤ 9000000000) (hp : pos ≤ 4294967296) (hs : s.size ≤ 4294967296) :
    Calls Tryz.prog 61 #[.pointer (some ⟨lb, 0, none⟩), .int .i64 i, .int .u8 c] w fun e w' => e = .returned (.bool (isAt s.data.toList (pos + i.toNat) c)) ∧ ∃ n, w' = w.drewN n := by
  obtain ⟨c0, c9, c1⟩ := h
  obtain ⟨i, rfl⟩ := Int.eq_ofNat_of_zero_le h0
  rw [Int.toNat_natCast] at *
  have hw : IntKind.i64.wrap ((pos : Int) + (i : Int)) = (pos : Int) + (i : Int) := IntWalk.i64_in _ (by omega)
  by_cases hlt : pos + i < s.size
  · have hw2 : ((pos : Int) + (i : Int)).toNat = pos + i := by omega
    have hw3 : (0 : Int) ≤ (pos : Int) + (i : Int) := by omega
    have hw4 : decide (((pos : Int) + (i : Int)) < (s.size : Int)) = true := by simp; omega
    have hw5 : ((pos : Int) + (i : Int)) < (s.size : Int) := by omega
    go_enter Tryz.func61, Tryz.ntmps61
    go_wp2_with fail
    go_quiet (fail)
    go_wp2_with fail
    go_ret
    refine ⟨ret_bool ?_, _, rfl⟩
    rw [isAt_in _ _ _ (by rw [ba_toList_length]; exact hlt), ← byteAt_get s _ hlt]
    rfl
  · have hw4 : decide (((pos : Int) + (i : Int)) < (s.size : Int)) = false := by simp; omega
    have hw5 : ¬ ((pos : Int) + (i : Int)) < (s.size : Int) := by omega
    go_enter Tryz.func61, Tryz.ntmps61
    go_wp2_with fail
    go_quiet (fail)
    go_wp2_with fail
    go_ret
    refine ⟨ret_bool ?_, _, rfl⟩
    rw [isAt_out _ _ _ (by rw [ba_toList_length]; omega)]
theorem slice_any (lb fb pos : Nat) (s : ByteArray) (i j : Int) (w : World) (h : Rd w lb fb s pos) (h0 : 0 ≤ i) (h1 : i ≤ j) (h2 : j ≤ 9000000000) (hp : pos + i.toNat ≤ s.size) (hs : s.size ≤ 4294967296) :
    Calls Tryz.prog 76 #[.pointer (some ⟨lb, 0, none⟩), .int .i64 i, .int .i64 j] w fun e w' => e = .returned (.string ⟨(sub s.data.toList (pos + i.toNat) (pos + j.toNat)).toArray⟩) ∧ ∃ n, w' = w.drewN n := by
  obtain ⟨c0, c9, c1⟩ := h
  obtain ⟨i, rfl⟩ := Int.eq_ofNat_of_zero_le h0
  obtain ⟨j, rfl⟩ := Int.eq_ofNat_of_zero_le (Int.le_trans h0 h1)
  rw [Int.toNat_natCast] at *
  rw [Int.toNat_natCast] at *
  have hw : IntKind.i64.wrap ((pos : Int) + (i : Int)) = (pos : Int) + (i : Int) := IntWalk.i64_in _ (by omega)
  have hv : IntKind.i64.wrap ((pos : Int) + (j : Int)) = (pos : Int) + (j : Int) := IntWalk.i64_in _ (by omega)
  by_cases hlt : s.size < pos + j
  · have hw4 : decide ((s.size : Int) < ((pos : Int) + (j : Int))) = true := by simp; omega
    have hq : IntKind.i64.wrap ((s.size : Int) - (pos : Int)) = (s.size : Int) - (pos : Int) := IntWalk.i64_in _ (by omega)
    have hv2 : IntKind.i64.wrap ((pos : Int) + ((s.size : Int) - (pos : Int))) = (s.size : Int) := by rw [show (pos : Int) + ((s.size : Int) - (pos : Int)) = s.size from by omega]; exact IntWalk.i64_in _ (by omega)
    have hw2 : ((pos : Int) + (i : Int)).toNat = pos + i := by omega
    have hw3 : (0 : Int) ≤ (pos : Int) + (i : Int) := by omega
    have hw5 : ((pos : Int) + (i : Int)) ≤ (s.size : Int) := by omega
    go_enter Tryz.func76, Tryz.ntmps76
    go_wp2_with fail
    go_quiet (fail)
    go_wp2_with fail
    go_quiet (fail)
    go_wp2_with fail
    go_quiet (fail)
    go_wp2_with fail
    go_ret
    refine ⟨ret_str ?_, _, (by rw [World.drewN_drewN, World.drewN_drewN])⟩
    apply ba_ext
    rw [sub_data]
    show _ = sub _ _ _
    unfold sub
    rw [List.take_of_length_le (by rw [ba_toList_length]; exact Nat.le_refl _), List.take_of_length_le (by rw [ba_toList_length]; omega)]
  · have hw4 : decide ((s.size : Int) < ((pos : Int) + (j : Int))) = false := by simp; omega
    have hw2 : ((pos : Int) + (i : Int)).toNat = pos + i := by omega
    have hv2 : ((pos : Int) + (j : Int)).toNat = pos + j := by omega
    have hw3 : (0 : Int) ≤ (pos : Int) + (i : Int) := by omega
    have hw5 : ((pos : Int) + (i : Int)) ≤ ((pos : Int) + (j : Int)) := by omega
    have hw6 : ((pos : Int) + (j : Int)) ≤ (s.size : Int) := by omega
    go_enter Tryz.func76, Tryz.ntmps76
    go_wp2_with fail
    go_quiet (fail)
    go_wp2_with fail
    go_quiet (fail)
    go_wp2_with fail
    go_ret
    refine ⟨ret_str ?_, _, (by rw [World.drewN_drewN])⟩
    apply ba_ext
    rw [sub_data]

/-- the post of a method that hands back v and turns the lexer to y -/
def Turned (w : World) (lb fb : Nat) (s : ByteArray) (v : Value) (y : LexSt) (e : Ending) (w' : World) : Prop :=
  e = .returned v ∧ LexAt w' lb fb s y ∧ w.grownBy w' (some lb)
theorem skip_any (lb fb : Nat) (s : ByteArray) (x : LexSt) (w : World) (h : LexAt w lb fb s x) (hp : x.pos < s.size) (hs : s.size ≤ 4294967296) :
    Calls Tryz.prog 66 #[.pointer (some ⟨lb, 0, none⟩)] w (Turned w lb fb s (.int .u8 (byteAt s.data.toList x.pos)) { x with pos := x.pos + 1 }) := by
  obtain ⟨c0, c9, c1⟩ := h.rd
  have f9 := (h.cell 9).2
  have H := Lib.hid h
  clear h
  have hw4 : ((x.pos : Int)) < (s.size : Int) := by omega
  go_enter Tryz.func66, Tryz.ntmps66
  go_wp2_with fail
  go_quiet (fail)
  go_wp2_with fail
  go_ret
  refine ⟨ret_int (byteAt_get s _ hp), ?_, ?_⟩
  · exact (H.out.set 9 _ { x with pos := x.pos + 1 } (by simp [LexSt.cells])).drewN _
  · exact grownBy_trans (grownBy_set w lb 9 _) (grownBy_drewN _ _ _)
theorem skipN_any (lb fb : Nat) (s : ByteArray) (x : LexSt) (n : Int) (w : World) (h : LexAt w lb fb s x) (hn : 0 ≤ n) (hn2 : n ≤ 9000000000) (hs : x.pos ≤ 4294967296) :
    Calls Tryz.prog 60 #[.pointer (some ⟨lb, 0, none⟩), .int .i64 n] w (Turned w lb fb s (.tuple #[]) { x with pos := x.pos + n.toNat }) := by
  obtain ⟨c0, c9, c1⟩ := h.rd
  obtain ⟨n, rfl⟩ := Int.eq_ofNat_of_zero_le hn
  rw [Int.toNat_natCast]
  have f9 := (h.cell 9).2
  have H := Lib.hid h
  clear h
  go_enter Tryz.func60, Tryz.ntmps60
  go_wp2_with fail
  go_end0
  refine ⟨rfl, ?_, ?_⟩
  · exact H.out.set 9 _ { x with pos := x.pos + n } (by simp [LexSt.cells])
  · exact grownBy_set w lb 9 _
end Go.Proofs.YtcelnnjjakiehaaGreatDoor
namespace Go.Proofs.YtcelnnjjakiehaaGreatDoor
open Go.RowKit
set_option maxRecDepth 20000
set_option maxHeartbeats 400000
set_option linter.unusedVariables false

def dig (c : Int) : Bool := decide (48 ≤ c ∧ c ≤ 57)
def oct (c : Int) : Bool := decide (48 ≤ c ∧ c ≤ 55)
def hexd (c : Int) : Bool := decide ((48 ≤ c ∧ c ≤ 57) ∨ (97 ≤ c ∧ c ≤ 102) ∨ (65 ≤ c ∧ c ≤ 70))
def idStart (c : Int) : Bool := decide ((97 ≤ c ∧ c ≤ 122) ∨ (65 ≤ c ∧ c ≤ 90) ∨ c = 95)
def idPart (c : Int) : Bool := decide ((48 ≤ c ∧ c ≤ 57) ∨ (97 ≤ c ∧ c ≤ 122) ∨ (65 ≤ c ∧ c ≤ 90) ∨ c = 95)
theorem isDigit_any (c : Int) (w : World) :
    Calls Tryz.prog 68 #[.int .u8 c] w fun e w' => e = .returned (.bool (dig c)) ∧ w = w' := by
  go_enter Tryz.func68, Tryz.ntmps68
  go_wp2
  all_goals
    go_ret
    refine ⟨ret_bool ?_, rfl⟩
    unfold dig
    rw [Bool.eq_iff_iff]
    simp
    omega
theorem isOctal_any (c : Int) (w : World) :
    Calls Tryz.prog 88 #[.int .u8 c] w fun e w' => e = .returned (.bool (oct c)) ∧ w = w' := by
  go_enter Tryz.func88, Tryz.ntmps88
  go_wp2
  all_goals
    go_ret
    refine ⟨ret_bool ?_, rfl⟩
    unfold oct
    rw [Bool.eq_iff_iff]
    simp
    omega
theorem isHex_any (c : Int) (w : World) :
    Calls Tryz.prog 84 #[.int .u8 c] w fun e w' => e = .returned (.bool (hexd c)) ∧ w = w' := by
  go_enter Tryz.func84, Tryz.ntmps84
  go_wp2
  all_goals
    go_ret
    refine ⟨ret_bool ?_, rfl⟩
    unfold hexd
    rw [Bool.eq_iff_iff]
    simp
    omega
theorem isIdentStart_any (c : Int) (w : World) :
    Calls Tryz.prog 70 #[.int .u8 c] w fun e w' => e = .returned (.bool (idStart c)) ∧ w = w' := by
  go_enter Tryz.func70, Tryz.ntmps70
  go_wp2
  all_goals
    go_ret
    refine ⟨ret_bool ?_, rfl⟩
    unfold idStart
    rw [Bool.eq_iff_iff]
    simp
    omega
theorem isIdentPart_any (c : Int) (w : World) :
    Calls Tryz.prog 64 #[.int .u8 c] w fun e w' => e = .returned (.bool (idPart c)) ∧ w = w' := by
  go_enter Tryz.func64, Tryz.ntmps64
  go_wp2
  all_goals
    go_ret
    refine ⟨ret_bool ?_, rfl⟩
    unfold idPart
    rw [Bool.eq_iff_iff]
    simp
    omega

/-- the kinds behind which a field's name may follow a point -/
def nextDot (k : List UInt8) : Bool := k == [60, 105, 100, 101, 110, 116, 62] || k == [60, 112, 97, 114, 97, 109, 62] || k == [41] || k == [93]
theorem nextDot_any (k : ByteArray) (w : World) :
    Calls Tryz.prog 67 #[.string k] w fun e w' => e = .returned (.bool (nextDot k.data.toList)) ∧ w = w' := by
  go_enter Tryz.func67, Tryz.ntmps67
  go_wp2
  all_goals
    go_ret
    refine ⟨ret_bool ?_, rfl⟩
    unfold nextDot
    simp only [← Lib.toList_data]
    simp [*] <;> simp_all

theorem run_string_one (w : World) (b : Nat) (c : UInt8) (hc : w.cell? ⟨b, 0, none⟩ = some (.int .u8 (c.toNat : Int))) :
    (convert 33 9 (.slice (some ⟨b, 0, none⟩) 1 1)).run Tryz.prog w = .ok (.string ⟨#[c]⟩) w := by
  rw [run_convert_bytes_arg w 33 5 Tryz.underlying33 Tryz.underlying5 b 0 1 1 [(c.toNat : Int)] rfl (fun i hi => by
    obtain rfl : i = 0 := by omega
    exact hc) 9 Tryz.underlying9]
  simp [strOfNums]
/-- the delimiter at a place: a quotation mark, or three of them -/
def delim (l : List UInt8) (p : Nat) : List UInt8 :=
  if isAt l (p + 1) (byteAt l p) && isAt l (p + 2) (byteAt l p) then [l.getD p 0, l.getD p 0, l.getD p 0] else [l.getD p 0]
set_option maxHeartbeats 1000000 in
theorem peekDelim_any (lb fb pos : Nat) (s : ByteArray) (w : World) (h : Rd w lb fb s pos) (hp : pos < s.size) (hs : s.size ≤ 4294967296) (hq : byteAt s.data.toList pos = 34 ∨ byteAt s.data.toList pos = 39) :
    Calls Tryz.prog 90 #[.pointer (some ⟨lb, 0, none⟩)] w fun e w' => e = .returned (.string ⟨(delim s.data.toList pos).toArray⟩) ∧ Below w.heap.size w w' := by
  have hc : ∀ W, Rd W lb fb s pos → Calls Tryz.prog 65 #[.pointer (some ⟨lb, 0, none⟩), .int .i64 0] W fun e w' => e = .returned (.int .u8 (byteAt s.data.toList pos)) ∧ ∃ n, w' = W.drewN n :=
    fun W hW => peek_any lb fb pos s 0 W hW (by omega) (by simpa using hp) hs
  have hi := fun W (hW : Rd W lb fb s pos) (i : Int) (h0 : 0 ≤ i) (h1 : i ≤ 3) => peekIs_any lb fb pos s i (byteAt s.data.toList pos) W hW h0 (by omega) (by omega) hs
  have HC := Lib.hid hc; have HI := Lib.hid hi; have HR := Lib.hid h
  clear hc hi h
  have hd : delim s.data.toList pos = if isAt s.data.toList (pos + 1) (byteAt s.data.toList pos) && isAt s.data.toList (pos + 2) (byteAt s.data.toList pos) then [s.data.toList.getD pos 0, s.data.toList.getD pos 0, s.data.toList.getD pos 0] else [s.data.toList.getD pos 0] := rfl
  have HD := Lib.hid hd; clear hd
  have hg : byteAt s.data.toList pos = ((s.data.toList.getD pos 0).toNat : Int) := rfl
  have HG := Lib.hid hg; clear hg
  generalize s.data.toList = l at *
  generalize hi1 : isAt l (pos + 1) (byteAt l pos) = i1 at *
  generalize hi2 : isAt l (pos + 2) (byteAt l pos) = i2 at *
  have HI1 := Lib.hid hi1; have HI2 := Lib.hid hi2; clear hi1 hi2
  generalize delim l pos = dl at *
  generalize byteAt l pos = c at *
  generalize l.getD pos 0 = b at *
  go_enter Tryz.func90, Tryz.ntmps90
  go_wp2_with fail
  refine (HC.out _ HR.out).mono ?_
  rintro e w1 ⟨rfl, n1, rfl⟩
  rcases hq with hq | hq
  · have hb : b = 34 := by
      have := HG.out
      apply UInt8.toNat_inj.1
      show b.toNat = 34
      omega
    subst hq hb
    have hcv := fun n => run_string_one ((w.drewN n).alloc (.cells #[Value.int .u8 34] 5)) w.heap.size 34 (World.cell?_alloc_new (w := w.drewN n) #[Value.int .u8 34] 5 0)
    go_wp2_with fail
    refine wp_loop_rounds 3 ?_
    rw [rounds_succ]
    go_wp2_with fail
    refine (HI.out _ (HR.out.drewN _) 1 (by omega) (by omega)).mono ?_
    rintro e w1 ⟨rfl, n2, rfl⟩
    rw [show pos + Int.toNat 1 = pos + 1 from rfl, HI1.out]
    cases i1
    · go_wp2_with fail
      go_ret
      exact ⟨ret_str (by rw [HD.out]; rfl), (below_drewN w _ _).alloc (Nat.le_refl _) _⟩
    · go_wp2_with fail
      rw [rounds_succ]
      go_wp2_with fail
      refine (HI.out _ (HR.out.drewN _) 2 (by omega) (by omega)).mono ?_
      rintro e w1 ⟨rfl, n3, rfl⟩
      rw [show pos + Int.toNat 2 = pos + 2 from rfl, HI2.out]
      cases i2
      · go_wp2_with fail
        go_ret
        exact ⟨ret_str (by rw [HD.out]; rfl), (below_drewN w _ _).alloc (Nat.le_refl _) _⟩
      · go_wp2_with fail
        rw [rounds_succ]
        go_wp2_with fail
        go_ret
        exact ⟨ret_str (by rw [HD.out]; rfl), below_drewN w _ _⟩
  · have hb : b = 39 := by
      have := HG.out
      apply UInt8.toNat_inj.1
      show b.toNat = 39
      omega
    subst hq hb
    have hcv := fun n => run_string_one ((w.drewN n).alloc (.cells #[Value.int .u8 39] 5)) w.heap.size 39 (World.cell?_alloc_new (w := w.drewN n) #[Value.int .u8 39] 5 0)
    go_wp2_with fail
    refine wp_loop_rounds 3 ?_
    rw [rounds_succ]
    go_wp2_with fail
    refine (HI.out _ (HR.out.drewN _) 1 (by omega) (by omega)).mono ?_
    rintro e w1 ⟨rfl, n2, rfl⟩
    rw [show pos + Int.toNat 1 = pos + 1 from rfl, HI1.out]
    cases i1
    · go_wp2_with fail
      go_ret
      exact ⟨ret_str (by rw [HD.out]; rfl), (below_drewN w _ _).alloc (Nat.le_refl _) _⟩
    · go_wp2_with fail
      rw [rounds_succ]
      go_wp2_with fail
      refine (HI.out _ (HR.out.drewN _) 2 (by omega) (by omega)).mono ?_
      rintro e w1 ⟨rfl, n3, rfl⟩
      rw [show pos + Int.toNat 2 = pos + 2 from rfl, HI2.out]
      cases i2
      · go_wp2_with fail
        go_ret
        exact ⟨ret_str (by rw [HD.out]; rfl), (below_drewN w _ _).alloc (Nat.le_refl _) _⟩
      · go_wp2_with fail
        rw [rounds_succ]
        go_wp2_with fail
        go_ret
        exact ⟨ret_str (by rw [HD.out]; rfl), below_drewN w _ _⟩
end Go.Proofs.YtcelnnjjakiehaaGreatDoor
namespace Go.Proofs.YtcelnnjjakiehaaGreatDoor
set_option linter.unusedVariables false

theorem isAt_drop (l : List UInt8) (p i : Nat) (c : Int) : isAt (l.drop p) i c = isAt l (p + i) c := by
  simp only [isAt, List.getElem?_drop]
theorem byteAt_drop (l : List UInt8) (p i : Nat) : byteAt (l.drop p) i = byteAt l (p + i) := by
  simp only [byteAt, List.getD_eq_getElem?_getD, List.getElem?_drop]
theorem sub_drop (l : List UInt8) (p i j : Nat) : sub l (p + i) (p + j) = sub (l.drop p) i j := by
  unfold sub
  rw [List.take_drop, List.drop_drop]

/-- the rune at the head, and its width -/
def dec (r : List UInt8) : Nat × Nat := Utf8.decode ⟨r.toArray⟩ 0
theorem dec_go (s : ByteArray) (h : s.size ≠ 0) : Lib.decodeGo s = dec s.data.toList := by
  unfold Lib.decodeGo dec
  rw [if_neg h]
theorem dec_pos (r : List UInt8) : 1 ≤ (dec r).2 := by
  unfold dec Utf8.decode
  simp only
  repeat' split
  all_goals simp
theorem dec_le (r : List UInt8) (h : r ≠ []) : (dec r).2 ≤ r.length := by
  have hp := List.length_pos_iff.2 h
  have hs : (⟨r.toArray⟩ : ByteArray).size = r.length := by show r.toArray.size = _; simp
  unfold dec Utf8.decode
  simp only [hs, Bool.and_eq_true, decide_eq_true_eq]
  repeat' split
  all_goals (simp only; omega)
/-- how wide a blank at the head is, 0 if there is none -/
def spOne (r : List UInt8) : Nat := if r = [] then 0 else if Lib.isSpaceR (dec r).1 then (dec r).2 else 0
/-- how many bytes of blanks stand at the head -/
def spLen (r : List UInt8) : Nat :=
  if h : spOne r = 0 then 0 else spOne r + spLen (r.drop (spOne r))
  termination_by r.length
  decreasing_by
    have h2 : r ≠ [] := by intro e; subst e; exact h rfl
    have : 0 < r.length := List.length_pos_iff.2 h2
    simp only [List.length_drop]; omega
theorem spOne_le (r : List UInt8) : spOne r ≤ r.length := by
  unfold spOne
  split
  · omega
  · next h => split
              · exact dec_le r h
              · omega
theorem spLen_le (r : List UInt8) : spLen r ≤ r.length := by
  induction hn : r.length using Nat.strongRecOn generalizing r with
  | ind n ih =>
    subst hn
    rw [spLen]
    split
    · omega
    · next h =>
      have h1 := spOne_le r
      have h2 := ih (r.drop (spOne r)).length (by simp only [List.length_drop]; omega) _ rfl
      simp only [List.length_drop] at h2
      omega

/-- where a text ends that stands in another one: how many bytes up to and with it -/
def findEnd (p : List UInt8) : List UInt8 → Option Nat
  | [] => none
  | c :: t => if p.isPrefixOf (c :: t) then some p.length else (findEnd p t).map (· + 1)
/-- a comment at the head: none; one of so many bytes; one that does not end -/
inductive Com where
  | no
  | closed (n : Nat)
  | open_
def lineCom (r : List UInt8) : Com := .closed ((findEnd [10] r).getD r.length)
def blockCom (r : List UInt8) : Com := match findEnd [42, 47] r with | some n => .closed n | none => .open_
def comment (r : List UInt8) : Com :=
  match r with
  | [] => .no
  | c :: _ => if c = 35 then lineCom r else if c = 45 ∧ isAt r 1 45 then lineCom r else if c = 47 ∧ isAt r 1 42 then blockCom r else .no
theorem findEnd_le (p : List UInt8) : ∀ r n, findEnd p r = some n → p.length ≤ n ∧ n ≤ r.length := by
  intro r
  induction r with
  | nil => intro n h; simp [findEnd] at h
  | cons c t ih =>
    intro n h
    unfold findEnd at h
    split at h
    · next hp =>
      cases h
      exact ⟨Nat.le_refl _, (List.isPrefixOf_iff_prefix.1 hp).length_le⟩
    · cases hf : findEnd p t with
      | none => rw [hf] at h; simp at h
      | some m =>
        rw [hf] at h
        have := ih m hf
        simp at h
        simp only [List.length_cons]; omega
theorem comment_le (r : List UInt8) (n : Nat) (h : comment r = .closed n) : 0 < n ∧ n ≤ r.length := by
  have hl : ∀ r', r' ≠ [] → ∀ n, lineCom r' = .closed n → 0 < n ∧ n ≤ r'.length := by
    intro r' hr' n h
    unfold lineCom at h
    have hp := List.length_pos_iff.2 hr'
    injection h with h
    cases hf : findEnd [10] r' with
    | none => rw [hf] at h; simp only [Option.getD_none] at h; omega
    | some m => have := findEnd_le _ _ _ hf; rw [hf] at h; simp only [Option.getD_some, List.length_cons, List.length_nil] at *; omega
  unfold comment at h
  split at h
  · cases h
  · next c t =>
    split at h
    · exact hl _ (by simp) _ h
    · split at h
      · exact hl _ (by simp) _ h
      · split at h
        · unfold blockCom at h
          cases hf : findEnd [42, 47] (c :: t) with
          | none => rw [hf] at h; cases h
          | some m => have := findEnd_le _ _ _ hf; rw [hf] at h; injection h with h; simp only [List.length_cons, List.length_nil] at *; omega
        · cases h
end Go.Proofs.YtcelnnjjakiehaaGreatDoor
