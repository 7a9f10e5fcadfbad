/-
  Plain laws of lines: a text cut at its line feeds, where the pieces begin, and the line and column of a place.
-/
import Derived.Test.YtcelnnjjakiehaaGreatDoorMem
namespace Go.Proofs.YtcelnnjjakiehaaGreatDoor

/-- where the first line feed stands behind k letters, or -1 -/
def nlFrom (l : List UInt8) (k : Nat) : Int := match l with | [] => -1 | c :: r => if c = 10 then (k : Int) else nlFrom r (k + 1)
/-- the pieces between line feeds -/
def pieces : List UInt8 → List (List UInt8)
  | [] => [[]]
  | c :: r => if c = 10 then [] :: pieces r else (c :: (pieces r).headD []) :: (pieces r).tail
theorem pieces_ne (l : List UInt8) : pieces l ≠ [] := by
  cases l with
  | nil => simp [pieces]
  | cons c r => unfold pieces; split <;> simp
theorem pieces_cons (c : UInt8) (r : List UInt8) (h : c ≠ 10) : ∃ p q, pieces r = p :: q ∧ pieces (c :: r) = (c :: p) :: q := by
  cases e : pieces r with
  | nil => exact absurd e (pieces_ne r)
  | cons p q => exact ⟨p, q, rfl, by simp [pieces, h, e]⟩
theorem pieces_length (l : List UInt8) : (pieces l).length ≤ l.length + 1 := by
  induction l with
  | nil => simp [pieces]
  | cons c r ih =>
    unfold pieces
    split
    · simp; exact ih
    · simp; omega
theorem nlFrom_spec (l : List UInt8) : ∀ k : Nat, (nlFrom l k = -1 ∧ pieces l = [l]) ∨ ∃ i : Nat, nlFrom l k = ((k + i : Nat) : Int) ∧ i < l.length ∧ pieces l = l.take i :: pieces (l.drop (i + 1)) := by
  induction l with
  | nil => intro k; exact .inl ⟨rfl, rfl⟩
  | cons c r ih =>
    intro k
    by_cases hc : c = 10
    · right; exact ⟨0, by simp [nlFrom, hc], by simp, by simp [pieces, hc]⟩
    · obtain ⟨p, q, e1, e2⟩ := pieces_cons c r hc
      rcases ih (k + 1) with ⟨h1, h2⟩ | ⟨i, h1, h2, h3⟩
      · left
        refine ⟨by simp [nlFrom, hc, h1], ?_⟩
        rw [e2]; rw [e1] at h2; injection h2 with h2 h4; rw [h2, h4]
      · right
        refine ⟨i + 1, by simp only [nlFrom, hc, if_false, h1]; congr 1; omega, by simp; omega, ?_⟩
        rw [e2]; rw [e1] at h3; injection h3 with h3 h4
        rw [h3, h4]; simp

/-- where piece j begins -/
def stAt (ps : List (List UInt8)) (j : Nat) : Nat := ((ps.take j).map fun p => p.length + 1).sum
theorem stAt_zero (ps : List (List UInt8)) : stAt ps 0 = 0 := by simp [stAt]
theorem stAt_succ (ps : List (List UInt8)) (j : Nat) (h : j < ps.length) : stAt ps (j + 1) = stAt ps j + (ps[j].length + 1) := by
  unfold stAt
  rw [List.take_succ_eq_append_getElem h, List.map_append, List.sum_append]; rfl
theorem stAt_cons (p : List UInt8) (ps : List (List UInt8)) (j : Nat) : stAt (p :: ps) (j + 1) = p.length + 1 + stAt ps j := by
  simp [stAt]
theorem stAt_end (l : List UInt8) : stAt (pieces l) (pieces l).length = l.length + 1 := by
  induction l with
  | nil => simp [pieces, stAt]
  | cons c r ih =>
    by_cases hc : c = 10
    · simp only [pieces, hc, if_true, List.length_cons, stAt_cons, ih, List.length_nil]; omega
    · obtain ⟨p, q, e1, e2⟩ := pieces_cons c r hc
      rw [e1] at ih; rw [e2]
      simp only [List.length_cons, stAt_cons] at ih ⊢; omega
theorem stAt_mono (ps : List (List UInt8)) (i j : Nat) (h : i ≤ j) : stAt ps i ≤ stAt ps j := by
  induction j with
  | zero => have : i = 0 := by omega
            subst this; exact Nat.le_refl _
  | succ j ih =>
    by_cases e : i = j + 1
    · subst e; exact Nat.le_refl _
    · refine Nat.le_trans (ih (by omega)) ?_
      by_cases hj : j < ps.length
      · rw [stAt_succ ps j hj]; omega
      · unfold stAt; rw [List.take_of_length_le (by omega), List.take_of_length_le (by omega)]; exact Nat.le_refl _

/-- line and column behind a text, from a line and a column on -/
def lcFrom (a b : Nat) : List UInt8 → Nat × Nat
  | [] => (a, b)
  | c :: r => if c = 10 then lcFrom (a + 1) 0 r else lcFrom a (b + 1) r
def lc (l : List UInt8) : Nat × Nat := lcFrom 0 0 l
theorem lcFrom_snoc (a b : Nat) (l : List UInt8) (c : UInt8) : lcFrom a b (l ++ [c]) = if c = 10 then ((lcFrom a b l).1 + 1, 0) else ((lcFrom a b l).1, (lcFrom a b l).2 + 1) := by
  induction l generalizing a b with
  | nil => simp [lcFrom]
  | cons d r ih => simp only [List.cons_append, lcFrom]; split <;> exact ih _ _
theorem lcFrom_eq (l : List UInt8) : ∀ a b : Nat, lcFrom a b l = (a + (lc l).1, if (lc l).1 = 0 then b + (lc l).2 else (lc l).2) := by
  induction l with
  | nil => intro a b; simp [lcFrom, lc]
  | cons c r ih =>
    intro a b
    unfold lc
    by_cases hc : c = 10
    · simp only [lcFrom, hc, if_true]
      rw [ih (a + 1) 0, ih (0 + 1) 0]
      refine Prod.ext ?_ ?_
      · simp only; omega
      · simp only; rw [if_neg (by omega : ¬ 0 + 1 + (lc r).1 = 0)]
    · simp only [lcFrom, hc, if_false]
      rw [ih a (b + 1), ih 0 (0 + 1)]
      by_cases h0 : (lc r).1 = 0
      · simp [h0]; omega
      · simp [h0]
/-- the line of a place begins at or before it, the next ones behind it -/
theorem lc_spec (l : List UInt8) : ∀ pos : Nat, pos ≤ l.length →
    (lc (l.take pos)).1 < (pieces l).length ∧ stAt (pieces l) (lc (l.take pos)).1 + (lc (l.take pos)).2 = pos ∧ ∀ j, (lc (l.take pos)).1 < j → j ≤ (pieces l).length → pos < stAt (pieces l) j := by
  induction l with
  | nil =>
    intro pos hp
    have : pos = 0 := by simpa using hp
    subst this
    refine ⟨by simp [lc, lcFrom, pieces], by simp [lc, lcFrom, stAt], ?_⟩
    intro j h1 h2
    simp [pieces] at h2
    have : j = 1 := by simp [lc, lcFrom] at h1; omega
    subst this; simp [pieces, stAt]
  | cons c r ih =>
    intro pos hp
    cases pos with
    | zero =>
      have e0 : lc (List.take 0 (c :: r)) = (0, 0) := rfl
      rw [e0]
      refine ⟨List.length_pos_iff.2 (pieces_ne _), by simp [stAt], ?_⟩
      intro j h1 h2
      refine Nat.lt_of_lt_of_le ?_ (stAt_mono _ 1 j h1)
      cases e : pieces (c :: r) with
      | nil => exact absurd e (pieces_ne _)
      | cons p q => simp [stAt]
    | succ p =>
      obtain ⟨i1, i2, i3⟩ := ih p (by simpa using hp)
      have e0 : List.take (p + 1) (c :: r) = c :: List.take p r := rfl
      by_cases hc : c = 10
      · have e1 : lc (c :: List.take p r) = ((lc (List.take p r)).1 + 1, (lc (List.take p r)).2) := by
          show lcFrom 0 0 _ = _
          simp only [lcFrom, hc, if_true]
          rw [lcFrom_eq]
          refine Prod.ext ?_ ?_
          · simp only; omega
          · simp only; split <;> omega
        have e2 : pieces (c :: r) = [] :: pieces r := by simp [pieces, hc]
        rw [e0, e1, e2]
        refine ⟨by simp; exact i1, by simp only [stAt_cons, List.length_nil]; omega, ?_⟩
        intro j h1 h2
        obtain ⟨j, rfl⟩ : ∃ j', j = j' + 1 := ⟨j - 1, by simp only at h1; omega⟩
        rw [stAt_cons]
        have := i3 j (by simp only at h1; omega) (by simpa using h2)
        simp; omega
      · obtain ⟨p', q, e2, e3⟩ := pieces_cons c r hc
        have e1 : lc (c :: List.take p r) = ((lc (List.take p r)).1, if (lc (List.take p r)).1 = 0 then (lc (List.take p r)).2 + 1 else (lc (List.take p r)).2) := by
          show lcFrom 0 0 _ = _
          simp only [lcFrom, hc, if_false]
          rw [lcFrom_eq]
          refine Prod.ext ?_ ?_
          · simp only; omega
          · simp only; split <;> omega
        rw [e0, e1, e3]
        rw [e2] at i1 i2 i3
        refine ⟨by simpa using i1, ?_, ?_⟩
        · cases hn : (lc (List.take p r)).1 with
          | zero => rw [hn] at i2; simp [stAt_zero] at i2 ⊢; omega
          | succ n => rw [hn] at i2; simp only [stAt_cons, List.length_cons] at i2 ⊢; simp; omega
        · intro j h1 h2
          have h3 := i3 j (by simpa using h1) (by simpa using h2)
          cases j with
          | zero => simp at h1
          | succ j => rw [stAt_cons] at h3 ⊢; simp; omega

/-- the numbers of the lines' beginnings, as cells -/
def posv (ps : List (List UInt8)) (n : Nat) : List Value := (List.range n).map fun j => .int .i64 (stAt ps j : Int)
theorem posv_length (ps : List (List UInt8)) (n : Nat) : (posv ps n).length = n := by simp [posv]
theorem posv_get (ps : List (List UInt8)) (n j : Nat) (h : j < n) : (posv ps n)[j]? = some (.int .i64 (stAt ps j : Int)) := by simp [posv, h]
theorem posv_succ (ps : List (List UInt8)) (n : Nat) : posv ps (n + 1) = posv ps n ++ [.int .i64 (stAt ps n : Int)] := by simp [posv, List.range_succ]
/-- texts as cells -/
def sv (l : List (List UInt8)) : List Value := l.map fun p => .string ⟨p.toArray⟩
theorem sv_length (l : List (List UInt8)) : (sv l).length = l.length := by simp [sv]
theorem sv_get (l : List (List UInt8)) (j : Nat) (h : j < l.length) : (sv l)[j]? = some (.string ⟨l[j].toArray⟩) := by simp [sv, h]

end Go.Proofs.YtcelnnjjakiehaaGreatDoor
