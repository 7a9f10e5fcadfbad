/-
  The contracts of the laws' helpers that read tokens: lexes, whole.
-/
import Derived.Test.YtcelnnjjakiehaaGreatDoorLexI
import Derived.Test.YtcelnnjjakiehaaGreatDoorLoc
import Derived.Test.YtcelnnjjakiehaaGreatDoorHelp
namespace Go.Proofs.YtcelnnjjakiehaaGreatDoor
open Go.RowKit
set_option linter.unusedVariables false
set_option maxRecDepth 1000000
set_option maxHeartbeats 4000000

theorem Toks.at {w : World} {B : Nat} {v : Value} {l : List (TkF × Value)} (h : Toks w B v l) (k : Nat) (hk : k < l.length) : ∃ g cap, v = .slice (some ⟨g, 0, none⟩) l.length cap ∧ B ≤ g ∧ l.length ≤ cap ∧ ∀ j, j < 8 → w.cell? ⟨g, k * 8 + j, none⟩ = (tkCells l[k].1 l[k].2)[j]? := by
  rcases h.own.shape with ⟨_, h2, _⟩ | ⟨g, cap, rfl, hB, _, hc, _⟩
  · omega
  · refine ⟨g, cap, rfl, hB, hc, fun j hj => ?_⟩
    rw [h.own.cellAt (k * 8 + j) (by omega)]
    exact tksCells_at l k l[k] (List.getElem?_eq_getElem hk) j hj
theorem next_a : lexAll [97] = ([⟨kIdent, [], [], [97], [97], 0, 0, 1⟩, ⟨kEof, [], [], [], [], 0, 1, 1⟩], none) := by
  have s1 : spLen [97] = 0 := spLen_stop _ (spOne_byte _ (by decide) (by decide) (by decide))
  have s0 : spLen [] = 0 := spLen_stop [] rfl
  have l1 : lead 0 [97] [] = .ok [] [] 0 := by rw [lead_no 0 [97] [] (by rw [s1]; rfl), s1]; rfl
  have l2 : lead 1 [] [] = .ok [] [] 1 := by rw [lead_no 1 [] [] (by rw [s0]; rfl), s0]; rfl
  have t1 : anyTok false [] [97] = .ok ⟨kIdent, [97], 0, 1, none⟩ := by rfl
  have t2 : anyTok false kIdent [] = .ok ⟨kEof, [], 0, 0, none⟩ := anyTok_nil _ _
  have n1 : next [97] [] false 0 = .ok ⟨kIdent, [], [], [97], [97], 0, 0, 1⟩ false := by
    unfold next
    rw [show ([97] : List UInt8).drop 0 = [97] from rfl, l1]
    simp only
    rw [show ([97] : List UInt8).drop 0 = [97] from rfl, t1]
    rfl
  have n2 : next [97] kIdent false 1 = .ok ⟨kEof, [], [], [], [], 0, 1, 1⟩ false := by
    unfold next
    rw [show ([97] : List UInt8).drop 1 = [] from rfl, l2]
    simp only
    rw [show ([97] : List UInt8).drop 1 = [] from rfl, t2]
    rfl
  show lexRun [97] 2 [] false 0 = _
  rw [lexRun, n1]
  simp only
  rw [if_neg (by decide), lexRun, n2]
  rfl
theorem two_of {l : List (TkF × Value)} {x y : TkF} (h : l.map (·.1) = [x, y]) : ∃ a b, l = [a, b] ∧ a.1 = x ∧ b.1 = y := by
  rcases l with _ | ⟨a, _ | ⟨b, _ | ⟨c, t⟩⟩⟩
  · cases h
  · cases h
  · simp at h
    exact ⟨a, b, rfl, h.1, h.2⟩
  · simp at h
theorem lexes_any {W w : World} (hL : LaidE W) (hb : Below W.heap.size W w) :
    Calls Tryz.prog 12 #[] w fun e w' => e = .returned (.bool true) ∧ Below w.heap.size w w' := by
  have hX := Lex_any ⟨#[97]⟩ hL hb (by decide) (lexGood_done _ _ _ _ _ (Nat.zero_le _) (congrArg (·.2) next_a))
  have HX := Lib.hid hX; clear hX
  go_enter Tryz.func12, Tryz.ntmps12
  go_wp2_with fail
  refine HX.out.mono ?_
  rintro e w1 ⟨v, l, at_, rfl, hl, hT, hb1⟩
  have hl' : l.map (·.1) = (lexAll [97]).1 := hl
  rw [next_a] at hl'
  have hok : (lexAll (⟨#[97]⟩ : ByteArray).data.toList).2.isNone = true := by
    show (lexAll [97]).2.isNone = true
    rw [next_a]; rfl
  rw [hok]
  obtain ⟨a, b, rfl, ha, _⟩ := two_of hl'
  obtain ⟨g, cap, rfl, _, hcap, hcell⟩ := hT.at 0 (by simp)
  have c3 := hcell 3 (by omega)
  rw [show ([a, b] : List (TkF × Value))[0] = a from rfl, ha] at c3
  simp only [tkCells, List.getElem?_cons_zero, List.getElem?_cons_succ] at c3
  have c3 : w1.cell? ⟨g, 3, none⟩ = some (.string ⟨#[97]⟩) := c3
  have HB1 := Lib.hid hb1
  clear hb1 hT hl hl' hcell hok ha HX
  go_wp2_with fail
  go_ret
  exact ⟨rfl, HB1.out⟩
theorem cmText_take (l : List Cm) (k : Nat) (h : k < l.length) : cmText (l.take (k + 1)) = cmText (l.take k) ++ (l[k].space ++ l[k].raw) := by
  rw [List.take_succ_eq_append_getElem h, cmText_append]
  simp [cmText]
theorem wholeT_append (a b : List TkF) : wholeT (a ++ b) = wholeT a ++ wholeT b := by
  induction a with
  | nil => rfl
  | cons t r ih => show tkText t ++ wholeT (r ++ b) = _; rw [ih]; simp [wholeT]
theorem wholeT_take (l : List TkF) (k : Nat) (h : k < l.length) : wholeT (l.take (k + 1)) = wholeT (l.take k) ++ tkText l[k] := by
  rw [List.take_succ_eq_append_getElem h, wholeT_append]
  simp [wholeT]
theorem wholeT_le (l : List TkF) (k : Nat) : (wholeT (l.take k)).length ≤ (wholeT l).length := by
  have h : wholeT l = wholeT (l.take k) ++ wholeT (l.drop k) := by rw [← wholeT_append, List.take_append_drop]
  rw [h, List.length_append]
  omega
theorem cmText_le (l : List Cm) (k : Nat) : (cmText (l.take k)).length ≤ (cmText l).length := by
  have h : cmText l = cmText (l.take k) ++ cmText (l.drop k) := by rw [← cmText_append, List.take_append_drop]
  rw [h, List.length_append]
  omega
theorem ba_size (l : List UInt8) : (⟨l.toArray⟩ : ByteArray).size = l.length := by
  show l.toArray.size = _
  simp
end Go.Proofs.YtcelnnjjakiehaaGreatDoor
