/-
  The contract of impl.Source, and the plain laws of the lines of a text around a span.
-/
import Derived.Test.YtcelnnjjakiehaaDoorPos
import Derived.Test.YtcelnnjjakiehaaDoorWithin
namespace Go.Proofs.YtcelnnjjakiehaaDoor
open Go.RowKit
set_option linter.unusedVariables false
set_option maxRecDepth 20000
set_option maxHeartbeats 1000000

theorem implSource_any (pos fin : Nat) (s : ByteArray) (W w : World) (hW : Tab W) (hB : Below W.heap.size W w) (hs : s.size ≤ 1048576) (hpf : pos ≤ fin) (hf : fin ≤ s.size) :
    Calls Tryd.prog 6 #[.string s, .int .i64 pos, .int .i64 fin] w fun e w' => e = .returned (.string ⟨(srcText s.data.toList pos fin).toArray⟩) ∧ Below w.heap.size w w' := by
  have hc : ∀ w1 b, Below W.heap.size W w1 → W.heap.size ≤ b → FileAt w1 b ⟨#[]⟩ s (.slice none 0 0) → Calls _ _ _ w1 _ := fun w1 b h1 h2 h3 => position_any b pos fin ⟨#[]⟩ s W w1 hW h1 h2 hs hpf hf (.inl h3)
  unfold PosMade at hc
  generalize srcText s.data.toList pos fin = src at *
  generalize lc (s.data.toList.take pos) = A at *
  generalize lc (s.data.toList.take fin) = Z at *
  have HC := Lib.hid hc; have HB := Lib.hid hB
  clear hc hB
  have hwa : Below W.heap.size W (w.alloc (.cells #[.string ⟨#[]⟩, .string s, .slice none 0 0] 34)) := (HB.out.alloc HB.out.size _)
  have hfa : FileAt (w.alloc (.cells #[.string ⟨#[]⟩, .string s, .slice none 0 0] 34)) w.heap.size ⟨#[]⟩ s (.slice none 0 0) := heap_alloc_new w _
  have hbw : Below w.heap.size w (w.alloc (.cells #[.string ⟨#[]⟩, .string s, .slice none 0 0] 34)) := ((Below.refl _ _).alloc (Nat.le_refl _) _)
  have HFA := Lib.hid hfa; have HWA := Lib.hid hwa; have HBW := Lib.hid hbw
  clear hfa hwa hbw
  go_enter Tryd.func6, Tryd.ntmps6
  go_wp2_with fail
  refine (HC.out _ _ HWA.out HB.out.size HFA.out).mono ?_
  rintro e w1 ⟨N, rfl, hN, hcell, _, hg⟩
  have HBW1 : Hid (Below w.heap.size w w1) := Lib.hid (HBW.out.grown hg (by simp) (fun k hk => by injection hk with hk; omega))
  have n7 : w1.cell? ⟨N, 7, none⟩ = some (.string ⟨src.toArray⟩) := by simp [World.cell?, hcell]
  clear hcell hg
  go_wp2_with fail
  go_ret
  exact ⟨rfl, HBW1.out⟩

/-- a byte of a piece is no line feed -/
theorem in_piece (l : List UInt8) : ∀ j m, (h : j < (pieces l).length) → stAt (pieces l) j ≤ m → m + 1 < stAt (pieces l) (j + 1) → l[m]? ≠ some 10 := by
  intro j m h h1 h2
  have hp := sub_piece l j h
  have hs := stAt_succ (pieces l) j h
  have hno : ∀ q ∈ pieces l, ∀ c ∈ q, c ≠ 10 := by
    clear hp hs h h1 h2
    induction l with
    | nil => intro q hq c hc; simp [pieces] at hq; subst hq; simp at hc
    | cons d r ih =>
      by_cases hd : d = 10
      · intro q hq c hc
        simp only [pieces, hd, if_true, List.mem_cons] at hq
        rcases hq with rfl | hq
        · simp at hc
        · exact ih q hq c hc
      · obtain ⟨p, t, e1, e2⟩ := pieces_cons d r hd
        intro q hq c hc
        rw [e2] at hq
        rcases List.mem_cons.1 hq with rfl | hq
        · rcases List.mem_cons.1 hc with rfl | hc
          · exact hd
          · exact ih p (by rw [e1]; simp) c hc
        · exact ih q (by rw [e1]; simp [hq]) c hc
  intro hm
  refine hno _ (List.getElem_mem h) 10 ?_ rfl
  rw [← hp]
  unfold sub2
  have e : ((l.take (stAt (pieces l) (j + 1) - 1)).drop (stAt (pieces l) j))[m - stAt (pieces l) j]? = some 10 := by
    rw [List.getElem?_drop, List.getElem?_take, if_pos (by omega), show stAt (pieces l) j + (m - stAt (pieces l) j) = m from by omega]
    exact hm
  exact List.mem_of_getElem? e
/-- behind a piece that is not the last one stands a line feed -/
theorem at_feed (l : List UInt8) : ∀ j, j + 1 < (pieces l).length → l[stAt (pieces l) (j + 1) - 1]? = some 10 := by
  induction l with
  | nil => intro j h; simp [pieces] at h
  | cons d r ih =>
    intro j h
    by_cases hd : d = 10
    · have e2 : pieces (d :: r) = [] :: pieces r := by simp [pieces, hd]
      rw [e2] at h ⊢
      cases j with
      | zero => simp [stAt, hd]
      | succ j =>
        have h1 : j + 1 < (pieces r).length := by simpa using h
        have := ih j h1
        have hs := stAt_succ (pieces r) j (by omega)
        rw [stAt_cons, show ([] : List UInt8).length + 1 + stAt (pieces r) (j + 1) - 1 = (stAt (pieces r) (j + 1) - 1) + 1 from by simp; omega]
        simpa using this
    · obtain ⟨p, t, e1, e2⟩ := pieces_cons d r hd
      rw [e2] at h ⊢
      have h1 : j + 1 < (pieces r).length := by rw [e1]; simpa using h
      have := ih j h1
      rw [e1] at this
      have hs : 0 < stAt (p :: t) (j + 1) := by rw [stAt_cons]; omega
      rw [show stAt ((d :: p) :: t) (j + 1) - 1 = (stAt (p :: t) (j + 1) - 1) + 1 from by rw [stAt_cons, stAt_cons]; simp only [List.length_cons]; omega]
      simpa using this
theorem srcLine_has (ps : List (List UInt8)) (j : Nat) : has (ps.getD j []) (srcLine ps j) = true := by
  have := has_of (ps.getD j []) (padN (j + 1) ++ [124, 32, 32]) []
  simpa [srcLine] using this
theorem has_in (p a x b : List UInt8) (h : has p x = true) : has p (a ++ x ++ b) = true := by
  have key : ∀ x : List UInt8, has p x = true → ∃ u v, x = u ++ p ++ v := by
    intro x
    induction x with
    | nil => intro h; have := List.isPrefixOf_iff_prefix.1 (show p.isPrefixOf [] = true from h); obtain ⟨v, hv⟩ := this; exact ⟨[], v, by simp [hv]⟩
    | cons c r ih =>
      intro h
      simp only [has, Bool.or_eq_true] at h
      rcases h with h | h
      · obtain ⟨v, hv⟩ := List.isPrefixOf_iff_prefix.1 h
        exact ⟨[], v, by simp [hv]⟩
      · obtain ⟨u, v, huv⟩ := ih h
        exact ⟨c :: u, v, by simp [huv]⟩
  obtain ⟨u, v, rfl⟩ := key x h
  have := has_of p (a ++ u) (v ++ b)
  simpa [List.append_assoc] using this
theorem srcMany_has (ps : List (List UInt8)) (a : Nat) : ∀ k j, a ≤ j → j < a + k → has (ps.getD j []) (srcMany ps a k) = true := by
  intro k
  induction k with
  | zero => intro j h1 h2; omega
  | succ k ih =>
    intro j h1 h2
    rw [srcMany]
    by_cases e : j = a + k
    · subst e
      have := has_in _ (srcMany ps a k ++ (if 0 < a + k then [10] else [])) _ [] (srcLine_has ps (a + k))
      simpa using this
    · have := has_in _ [] _ ((if 0 < a + k then [10] else []) ++ srcLine ps (a + k)) (ih j h1 (by omega))
      simpa [List.append_assoc] using this
/-- the source of a span has all the lines in which the span stands -/
theorem src_has (l : List UInt8) (pos fin j : Nat) (h1 : (lc (l.take pos)).1 ≤ j) (h2 : j ≤ (lc (l.take fin)).1) : has ((pieces l).getD j []) (srcText l pos fin) = true := by
  unfold srcText
  split
  · rename_i h
    obtain rfl : j = (lc (l.take pos)).1 := by omega
    have := has_in _ [] _ ([10] ++ ([32, 32, 32, 124, 32, 32] ++ Lib.repeatL [32] (lc (l.take pos)).2 ++ [94] ++ Lib.repeatL [126] ((lc (l.take fin)).2 - (lc (l.take pos)).2 - 1))) (srcLine_has (pieces l) (lc (l.take pos)).1)
    simpa [List.append_assoc] using this
  · exact srcMany_has _ _ _ _ h1 (by omega)
end Go.Proofs.YtcelnnjjakiehaaDoor
