/-
  Quoted texts: the plain law of consumeQuotedContent, and the lexer next to the bytes that it gathers.
-/
import Derived.Test.YtcelnnjjakiehaaGreatDoorPu
namespace Go.Proofs.YtcelnnjjakiehaaGreatDoor
open Go.RowKit
set_option linter.unusedVariables false
set_option maxRecDepth 20000
set_option maxHeartbeats 1000000

/-- the byte of a simple escape -/
def simpleEsc (d : Int) : Option UInt8 :=
  if d = 97 then some 7 else if d = 98 then some 8 else if d = 102 then some 12 else if d = 110 then some 10 else if d = 114 then some 13 else if d = 116 then some 9 else if d = 118 then some 11
  else if d = 92 then some 92 else if d = 63 then some 63 else if d = 34 then some 34 else if d = 39 then some 39 else if d = 96 then some 96 else none
/-- the first of n places from i on that holds no byte of a class -/
def badAt (f : Int → Bool) (r : List UInt8) (i : Nat) : Nat → Nat → Option Nat
  | _, 0 => none
  | j, n + 1 => if i + j < r.length ∧ f (byteAt r (i + j)) = true then badAt f r i (j + 1) n else some j
/-- one step in a quoted text: its end; so many bytes on and what they stand for; a fault, its places, and how the loose reading goes on -/
inductive QS where
  | close
  | next (k : Nat) (out : List UInt8)
  | fault (p e k : Nat)
def qEsc (raw uni : Bool) (r : List UInt8) (i : Nat) (d : Int) : QS :=
  if raw then .next 1 [92, r.getD (i + 1) 0]
  else match simpleEsc d with
  | some v => .next 1 [v]
  | none =>
    if d = 120 ∨ d = 88 then
      match badAt hexd r (i + 2) 0 2 with
      | some j => .fault i (i + 2 + j + 1) 1
      | none => .next 3 [UInt8.ofNat (valL 16 (sub r (i + 2) (i + 4)))]
    else if d = 117 ∨ d = 85 then
      if !uni then .fault i (i + 2) 1
      else
        let n := if d = 85 then 8 else 4
        match badAt hexd r (i + 2) 0 n with
        | some j => .fault i (i + 2 + j + 1) 1
        | none =>
          let u := valL 16 (sub r (i + 2) (i + 2 + n))
          if (55296 ≤ u ∧ u ≤ 57343) ∨ 1114111 < u then .fault i (i + 2 + n) 1
          else .next (1 + n) ((Lib.encodeRuneZ (u : Int)).map fun z => UInt8.ofNat z.toNat)
    else if 48 ≤ d ∧ d ≤ 51 then
      match badAt oct r (i + 2) 0 2 with
      | some j => .fault i (i + 2 + j + 1) 1
      | none => .next 3 [UInt8.ofNat (valL 8 (sub r (i + 1) (i + 4)))]
    else .fault i (i + 2) 1
def qstep (q : List UInt8) (raw uni : Bool) (r : List UInt8) (i : Nat) : QS :=
  if q.isPrefixOf (r.drop i) then .close
  else if byteAt r i = 92 then
    if i + 1 < r.length then qEsc raw uni r i (byteAt r (i + 1)) else .fault i (i + 1) 0
  else if byteAt r i = 10 ∧ q.length ≠ 3 then .fault 0 i 0
  else .next 0 [r.getD i 0]
/-- how a quoted text ends: its value and its length with the quotes, or a fault -/
inductive QR where
  | ok (text : List UInt8) (len : Nat)
  | err (p e : Nat)
def qrun (q : List UInt8) (raw uni ident : Bool) (r : List UInt8) (i : Nat) (acc : List UInt8) : QR :=
  if h : i < r.length then
    match qstep q raw uni r i with
    | .close => if ident = true ∧ acc = [] then .err 0 (i + q.length) else .ok acc (i + q.length)
    | .next k out => qrun q raw uni ident r (i + k + 1) (acc ++ out)
    | .fault p e _ => .err p e
  else .err 0 i
  termination_by r.length - i
theorem qrun_in (q : List UInt8) (raw uni ident : Bool) (r : List UInt8) (i : Nat) (acc : List UInt8) (h : i < r.length) :
    qrun q raw uni ident r i acc = match qstep q raw uni r i with
      | .close => if ident = true ∧ acc = [] then .err 0 (i + q.length) else .ok acc (i + q.length)
      | .next k out => qrun q raw uni ident r (i + k + 1) (acc ++ out)
      | .fault p e _ => .err p e := by
  rw [qrun, dif_pos h]
theorem qrun_out (q : List UInt8) (raw uni ident : Bool) (r : List UInt8) (i : Nat) (acc : List UInt8) (h : ¬ i < r.length) : qrun q raw uni ident r i acc = .err 0 i := by
  rw [qrun, dif_neg h]

/-- the lexer, and next to it the bytes gathered so far -/
structure QAt (W w0 : World) (lb fb : Nat) (s : ByteArray) (x : LexSt) (B : Nat) (v : Value) (l : List UInt8) (w : World) : Prop where
  cur : Cur W w0 lb fb s x w
  own : Own w B 5 1 v l.length (bv l)
  lbB : lb < B
  fbB : fb < B
  hB : B ≤ w.heap.size
  w0B : w0.heap.size ≤ B
section
variable {W w0 w : World} {lb fb : Nat} {s : ByteArray} {x : LexSt} {B : Nat} {v : Value} {l : List UInt8}
theorem QAt.drewN (h : QAt W w0 lb fb s x B v l w) (n : Nat) : QAt W w0 lb fb s x B v l (w.drewN n) :=
  ⟨h.cur.drewN n, h.own.keptB fun _ _ => rfl, h.lbB, h.fbB, h.hB, h.w0B⟩
theorem QAt.keep (h : QAt W w0 lb fb s x B v l w) {w' : World} (hb : Below w.heap.size w w') : QAt W w0 lb fb s x B v l w' :=
  ⟨h.cur.keep hb, h.own.below hb (fun g hg => (h.own.lt g hg).2), h.lbB, h.fbB, Nat.le_trans h.hB hb.size, h.w0B⟩
theorem QAt.alloc (h : QAt W w0 lb fb s x B v l w) (o : Obj) : QAt W w0 lb fb s x B v l (w.alloc o) :=
  h.keep ((Below.refl _ _).alloc (Nat.le_refl _) _)
theorem peekOkQ (h : QAt W w0 lb fb s x B v l w) (k : Nat) (i : Int) (hi : i = k) (hk : k ≤ 2000000) : Calls Tryz.prog 63 #[.pointer (some ⟨lb, 0, none⟩), .int .i64 i] w fun e w' => e = .returned (.bool (decide (k < (s.data.toList.drop x.pos).length))) ∧ QAt W w0 lb fb s x B v l w' := by
  subst hi
  have hp := h.cur.pos; have hz := h.cur.sz
  refine (peekOk_any lb fb x.pos s _ w h.cur.lex.rd (by omega) (by omega) (by omega)).mono ?_
  rintro e w' ⟨rfl, n, rfl⟩
  refine ⟨ret_bool ?_, h.drewN n⟩
  rw [h.cur.len, Int.toNat_natCast]
  apply decide_eq_decide.2; omega
theorem peekQ (h : QAt W w0 lb fb s x B v l w) (k : Nat) (i : Int) (hi : i = k) (hk : k < (s.data.toList.drop x.pos).length) : Calls Tryz.prog 65 #[.pointer (some ⟨lb, 0, none⟩), .int .i64 i] w fun e w' => e = .returned (.int .u8 (byteAt (s.data.toList.drop x.pos) k)) ∧ QAt W w0 lb fb s x B v l w' := by
  subst hi
  rw [h.cur.len] at hk
  have hp := h.cur.pos; have hz := h.cur.sz
  refine (peek_any lb fb x.pos s _ w h.cur.lex.rd (by omega) (by rw [Int.toNat_natCast]; omega) (by omega)).mono ?_
  rintro e w' ⟨rfl, n, rfl⟩
  refine ⟨ret_int ?_, h.drewN n⟩
  rw [byteAt_drop, Int.toNat_natCast]
theorem sliceQ (h : QAt W w0 lb fb s x B v l w) (a b : Nat) (i j : Int) (hi : i = a) (hj : j = b) (hab : a ≤ b) (hb : b ≤ 2000000) (ha : a ≤ (s.data.toList.drop x.pos).length) : Calls Tryz.prog 76 #[.pointer (some ⟨lb, 0, none⟩), .int .i64 i, .int .i64 j] w fun e w' => e = .returned (.string ⟨(sub (s.data.toList.drop x.pos) a b).toArray⟩) ∧ QAt W w0 lb fb s x B v l w' := by
  subst hi hj
  rw [h.cur.len] at ha
  have hp := h.cur.pos; have hz := h.cur.sz
  refine (slice_any lb fb x.pos s _ _ w h.cur.lex.rd (by omega) (by omega) (by omega) (by rw [Int.toNat_natCast]; omega) (by omega)).mono ?_
  rintro e w' ⟨rfl, n, rfl⟩
  refine ⟨ret_str ?_, h.drewN n⟩
  rw [Int.toNat_natCast, Int.toNat_natCast, sub_drop]
theorem skipNQ (h : QAt W w0 lb fb s x B v l w) (k : Nat) (i : Int) (hi : i = k) (hk : x.pos + k ≤ s.size) : Calls Tryz.prog 60 #[.pointer (some ⟨lb, 0, none⟩), .int .i64 i] w fun e w' => e = .returned (.tuple #[]) ∧ QAt W w0 lb fb s { x with pos := x.pos + k } B v l w' := by
  subst hi
  have hz := h.cur.sz
  refine (skipN_any lb fb s x _ w h.cur.lex (by omega) (by omega) (by omega)).mono ?_
  rintro e w' ⟨rfl, hl, hg⟩
  rw [Int.toNat_natCast] at hl
  have hne : v.ownBlock = none ∨ v.ownBlock ≠ some lb := by
    right; intro e
    have := (h.own.lt lb e).1
    have := h.lbB
    omega
  obtain ⟨g1, g2, g3, g4, g5⟩ := hg
  exact ⟨rfl, h.cur.turn hl hk ⟨g1, g2, g3, g4, g5⟩, h.own.kept ⟨g1, g2, g3, g4, g5⟩ hne, h.lbB, h.fbB, Nat.le_trans h.hB g4, h.w0B⟩
/-- behind an append -/
theorem QAt.app (h : QAt W w0 lb fb s x B v l w) {w' : World} {v' : Value} {l' : List UInt8} (hg : w.grownBy w' v.ownBlock) (ho : Own w' B 5 1 v' l'.length (bv l')) : QAt W w0 lb fb s x B v' l' w' := by
  have hne : ∀ b, b < B → some b ≠ v.ownBlock := by
    intro b hb e
    have := (h.own.lt b e.symm).1
    omega
  obtain ⟨g1, g2, g3, g4, g5⟩ := hg
  have hbw : Below B w w' := ⟨g1, g2, g3, g4, fun k hk => g5 k (Nat.lt_of_lt_of_le hk h.hB) (hne k hk)⟩
  have hc := h.cur
  refine ⟨⟨hc.laid, hc.low.trans (hbw.mono (Nat.le_trans hc.hlb (Nat.le_of_lt h.lbB))), hc.hlb, hc.hfb, hc.sz, hc.pos, ⟨?_, ?_⟩, ?_⟩, ho, h.lbB, h.fbB, Nat.le_trans h.hB g4, h.w0B⟩
  · rw [g5 lb hc.lex.lt.1 (hne lb h.lbB)]; exact hc.lex.lex
  · rw [g5 fb hc.lex.lt.2 (hne fb h.fbB)]; exact hc.lex.file
  · obtain ⟨k1, k2, k3, k4, k5⟩ := hc.grow
    exact ⟨g1.trans k1, g2.trans k2, g3.trans k3, Nat.le_trans k4 g4, fun k hk hn => (g5 k (Nat.lt_of_lt_of_le hk k4) (hne k (Nat.lt_of_lt_of_le hk h.w0B))).trans (k5 k hk hn)⟩
end
end Go.Proofs.YtcelnnjjakiehaaGreatDoor
