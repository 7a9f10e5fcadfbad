/-
  Tokens in plain lists of bytes: what consumeToken and consumeFieldToken read; how these methods end.
-/
import Derived.Test.YtcelnnjjakiehaaGreatDoorQuo0
import Derived.Test.YtcelnnjjakiehaaGreatDoorLex2
import Derived.Test.YtcelnnjjakiehaaGreatDoorCase
namespace Go.Proofs.YtcelnnjjakiehaaGreatDoor
open Go.RowKit
set_option linter.unusedVariables false
set_option maxRecDepth 20000
set_option maxHeartbeats 1000000

/-- a byte that is a token by itself -/
def oneSym (c : Int) : Bool := [40, 41, 123, 125, 59, 44, 91, 93, 126, 42, 47, 38, 94, 37, 58, 63, 92, 36].contains c
def sym (k : List UInt8) : Rs := .ok ⟨k, [], 0, k.length, none⟩
/-- a token of one byte, or of two of them -/
def twoSym (r : List UInt8) (c : UInt8) : List UInt8 → Rs
  | [] => sym [c]
  | d :: t => if isAt r 1 (d.toNat : Int) then sym [c, d] else twoSym r c t
/-- the bytes that may follow a byte in one token -/
def seconds (c : Int) : List UInt8 :=
  if c = 60 then [60, 61, 62] else if c = 62 then [62, 61] else if c = 43 then [61] else if c = 45 then [61, 62]
  else if c = 61 then [62] else if c = 124 then [62, 124] else if c = 33 then [61] else []
/-- how many bytes of a name stand at the head -/
def wordLen (r : List UInt8) : Nat := (r.takeWhile fun b => idPart (b.toNat : Int)).length
theorem wordLen_le (r : List UInt8) : wordLen r ≤ r.length := by
  unfold wordLen
  exact (List.takeWhile_prefix _).length_le
/-- a quoted text as a token, behind off bytes -/
def qtok (q : List UInt8) (raw uni ident : Bool) (kind : List UInt8) (off : Nat) (r : List UInt8) : Rs :=
  match qrun q raw uni ident (r.drop off) q.length [] with
  | .ok t n => .ok ⟨kind, t, 0, off + n, none⟩
  | .err p e => .err (off + p) (off + e)
/-- the letters ahead of a quotation mark: where it stands, whether they say bytes, whether they say raw -/
def pfx (r : List UInt8) : Nat → Nat → Bool → Bool → Option (Nat × Bool × Bool)
  | 0, _, _, _ => none
  | n + 1, i, by_, raw =>
    if i < r.length then
      if !by_ && (isAt r i 66 || isAt r i 98) then pfx r n (i + 1) true raw
      else if !raw && (isAt r i 82 || isAt r i 114) then pfx r n (i + 1) by_ true
      else if isAt r i 34 || isAt r i 39 then some (i, by_, raw)
      else none
    else none
/-- the keywords -/
def kws : List (List UInt8) := [[65, 76, 76], [65, 78, 68], [65, 78, 89], [65, 82, 82, 65, 89], [65, 83], [65, 83, 67], [65, 83, 83, 69, 82, 84, 95, 82, 79, 87, 83, 95, 77, 79, 68, 73, 70, 73, 69, 68], [65, 84], [66, 69, 84, 87, 69, 69, 78], [66, 89], [67, 65, 83, 69], [67, 65, 83, 84], [67, 79, 76, 76, 65, 84, 69], [67, 79, 78, 84, 65, 73, 78, 83], [67, 82, 69, 65, 84, 69], [67, 82, 79, 83, 83], [67, 85, 66, 69], [67, 85, 82, 82, 69, 78, 84], [68, 69, 70, 65, 85, 76, 84], [68, 69, 70, 73, 78, 69], [68, 69, 83, 67], [68, 73, 83, 84, 73, 78, 67, 84], [69, 76, 83, 69], [69, 78, 68], [69, 78, 85, 77], [69, 83, 67, 65, 80, 69], [69, 88, 67, 69, 80, 84], [69, 88, 67, 76, 85, 68, 69], [69, 88, 73, 83, 84, 83], [69, 88, 84, 82, 65, 67, 84], [70, 65, 76, 83, 69], [70, 69, 84, 67, 72], [70, 79, 76, 76, 79, 87, 73, 78, 71], [70, 79, 82], [70, 82, 79, 77], [70, 85, 76, 76], [71, 82, 65, 80, 72, 95, 84, 65, 66, 76, 69], [71, 82, 79, 85, 80], [71, 82, 79, 85, 80, 73, 78, 71], [71, 82, 79, 85, 80, 83], [72, 65, 83, 72], [72, 65, 86, 73, 78, 71], [73, 71, 78, 79, 82, 69], [73, 70], [73, 78], [73, 78, 78, 69, 82], [73, 78, 84, 69, 82, 83, 69, 67, 84], [73, 78, 84, 69, 82, 86, 65, 76], [73, 78, 84, 79], [73, 83], [74, 79, 73, 78], [76, 65, 84, 69, 82, 65, 76], [76, 69, 70, 84], [76, 73, 75, 69], [76, 73, 77, 73, 84], [76, 79, 79, 75, 85, 80], [77, 69, 82, 71, 69], [78, 65, 84, 85, 82, 65, 76], [78, 69, 87], [78, 79], [78, 79, 84], [78, 85, 76, 76], [78, 85, 76, 76, 83], [79, 70], [79, 78], [79, 82], [79, 82, 68, 69, 82], [79, 85, 84, 69, 82], [79, 86, 69, 82], [80, 65, 82, 84, 73, 84, 73, 79, 78], [80, 82, 69, 67, 69, 68, 73, 78, 71], [80, 82, 79, 84, 79], [82, 65, 78, 71, 69], [82, 69, 67, 85, 82, 83, 73, 86, 69], [82, 69, 83, 80, 69, 67, 84], [82, 73, 71, 72, 84], [82, 79, 76, 76, 85, 80], [82, 79, 87, 83], [83, 69, 76, 69, 67, 84], [83, 69, 84], [83, 79, 77, 69], [83, 84, 82, 85, 67, 84], [84, 65, 66, 76, 69, 83, 65, 77, 80, 76, 69], [84, 72, 69, 78], [84, 79], [84, 82, 69, 65, 84], [84, 82, 85, 69], [85, 78, 66, 79, 85, 78, 68, 69, 68], [85, 78, 73, 79, 78], [85, 78, 78, 69, 83, 84], [85, 83, 73, 78, 71], [87, 72, 69, 78], [87, 72, 69, 82, 69], [87, 73, 78, 68, 79, 87], [87, 73, 84, 72], [87, 73, 84, 72, 73, 78]]
def kw (k : List UInt8) : Bool := kws.contains k
/-- a name, or a keyword -/
def wordTok (r : List UInt8) : Rs :=
  if kw (upL (r.take (wordLen r))) then .ok ⟨upL (r.take (wordLen r)), [], 0, wordLen r, none⟩
  else .ok ⟨kIdent, r.take (wordLen r), 0, wordLen r, none⟩
def atTok (r : List UInt8) : Rs :=
  if isAt r 1 64 then sym [64, 64]
  else if 1 < r.length ∧ idStart (byteAt r 1) = true then .ok ⟨kParam, (r.drop 1).take (wordLen (r.drop 1)), 0, 1 + wordLen (r.drop 1), none⟩
  else sym [64]
/-- a quoted text with its letters, a name, or a fault -/
def restTok (r : List UInt8) : Rs :=
  match pfx r 3 0 false false with
  | some (i, by_, raw) => qtok (delim r i) raw (!by_) false (if by_ then kBytes else kString) i r
  | none => if idStart (byteAt r 0) then wordTok r else .err 0 0
def dotTok (last r : List UInt8) : Rs :=
  if !nextDot last && (decide (1 < r.length) && dig (byteAt r 1)) then number false r else .ok ⟨[46], [], 0, 1, some (nextDot last)⟩
/-- the token at the head, behind a token of the kind last -/
def tok (last r : List UInt8) : Rs :=
  if r = [] then .ok ⟨kEof, [], 0, 0, none⟩
  else if oneSym (byteAt r 0) then sym [r.getD 0 0]
  else if byteAt r 0 = 46 then dotTok last r
  else if seconds (byteAt r 0) ≠ [] then twoSym r (r.getD 0 0) (seconds (byteAt r 0))
  else if byteAt r 0 = 64 then atTok r
  else if byteAt r 0 = 96 then qtok [96] false true true kIdent 0 r
  else if dig (byteAt r 0) then number false r
  else restTok r
/-- the same where a field's name may follow -/
def ftok (last r : List UInt8) : Rs :=
  if 0 < r.length ∧ idPart (byteAt r 0) = true then .ok ⟨kIdent, r.take (wordLen r), 0, wordLen r, none⟩ else tok last r
/-- the places of a fault lie in the text, and so does the token -/
def Rs.good (n : Nat) : Rs → Prop
  | .ok t => t.len ≤ n
  | .err p e => p ≤ e ∧ e ≤ n
/-- how a method that reads a token ends; read loosely, it has some token, the same one where there is no fault -/
def ReadN (W w0 : World) (lb fb : Nat) (s : ByteArray) (x : LexSt) (np : Bool) (rs : Rs) (e : Ending) (w' : World) : Prop :=
  if np then ∃ t : Tk, (∀ t', rs = .ok t' → t = t') ∧ x.pos + t.len ≤ s.size ∧ (x.pos < s.size → 0 < t.len) ∧ Did W w0 lb fb s (.tuple #[]) (x.took t) e w'
  else match rs with
    | .ok t => Did W w0 lb fb s (.tuple #[]) (x.took t) e w'
    | .err p _ => Fault W w0 lb fb (x.pos + p) e w'
theorem ReadN.of_ok {W w0 : World} {lb fb : Nat} {s : ByteArray} {x : LexSt} {np : Bool} {t : Tk} {e : Ending} {w' : World} (h1 : x.pos + t.len ≤ s.size) (h2 : x.pos < s.size → 0 < t.len) (h : Did W w0 lb fb s (.tuple #[]) (x.took t) e w') : ReadN W w0 lb fb s x np (.ok t) e w' := by
  unfold ReadN
  cases np with
  | true => exact ⟨t, (fun t' ht => by injection ht), h1, h2, h⟩
  | false => exact h
theorem number_len (r : List UInt8) (hr : 0 < r.length) (h0 : dig (byteAt r 0) = true ∨ (byteAt r 0 = 46)) : 0 < (numEnd r).1 ∧ (numEnd r).1 ≤ r.length := by
  have hle : ∀ n i it ex, i ≤ r.length → ∀ h, i ≤ (numRun r h n i it ex).1 ∧ (numRun r h n i it ex).1 ≤ r.length := by
    intro n
    induction n with
    | zero => intro i it ex hi h; exact ⟨Nat.le_refl _, hi⟩
    | succ n ih =>
      intro i it ex hi h
      rw [numRun]
      cases hs : numStep r h i it ex with
      | none => exact ⟨Nat.le_refl _, hi⟩
      | some p =>
        obtain ⟨j, it', ex'⟩ := p
        have h1 := numStep_lt _ _ _ _ _ _ _ _ hs
        have h2 := ih j it' ex' h1.2 h
        exact ⟨by simp only; omega, h2.2⟩
  unfold numEnd
  cases hx : numHex r with
  | true =>
    have h2 : 2 ≤ r.length := by
      unfold numHex at hx
      rcases Nat.lt_or_ge 1 r.length with h | h
      · exact h
      · rw [isAt_out r 1 _ h, isAt_out r 1 _ h] at hx; simp at hx
    have := hle (r.length + 1) 2 true false h2 true
    rw [if_pos rfl]
    exact ⟨by omega, this.2⟩
  | false =>
    rw [if_neg (by decide)]
    rw [numRun]
    have hs : numStep r false 0 true false = some (1, (if dig (byteAt r 0) then true else false), false) := by
      unfold numStep
      rw [if_pos hr]
      cases hd : dig (byteAt r 0) with
      | true => simp
      | false =>
        have h46 : byteAt r 0 = 46 := by
          rcases h0 with h | h
          · rw [hd] at h; cases h
          · exact h
        simp [h46]
    rw [hs]
    have := hle r.length 1 (if dig (byteAt r 0) then true else false) false hr false
    exact ⟨by simp only; omega, this.2⟩
theorem ReadN.of_number {W w0 : World} {lb fb : Nat} {s : ByteArray} {x : LexSt} {np : Bool} {r : List UInt8} (hr : s.data.toList.drop x.pos = r) (hpos : x.pos ≤ s.size) (hl : 0 < r.length) (h0 : dig (byteAt r 0) = true ∨ byteAt r 0 = 46) {e : Ending} {w' : World} (h : Read W w0 lb fb s x (number np r) e w') : ReadN W w0 lb fb s x np (number false r) e w' := by
  have hn := number_len r hl h0
  have hlen : r.length = s.size - x.pos := by rw [← hr, List.length_drop, ba_toList_length]
  unfold number at h ⊢
  simp only at h ⊢
  generalize numEnd r = R at *
  by_cases hb : R.1 < r.length ∧ idPart (byteAt r R.1) = true
  · rw [if_pos hb] at h ⊢
    cases np with
    | true =>
      have h : Did W w0 lb fb s (.tuple #[]) (x.took _) e w' := h (by simp only; omega)
      exact ⟨_, (fun t' ht => by cases ht), by simp only; omega, (fun _ => hn.1), h⟩
    | false =>
      have h : Fault W w0 lb fb (x.pos + R.1) e w' := h (Nat.le_refl _) (by omega)
      exact h
  · rw [if_neg hb] at h ⊢
    exact ReadN.of_ok (by simp only; omega) (fun _ => hn.1) (h (by simp only; omega))
end Go.Proofs.YtcelnnjjakiehaaGreatDoor
