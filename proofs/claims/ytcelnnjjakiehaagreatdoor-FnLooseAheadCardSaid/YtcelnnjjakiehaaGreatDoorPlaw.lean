/-
  The plain laws behind the statements on tokens: which texts are calm; how long runs are; blanks and comments between tokens; words.
-/
import Derived.Test.YtcelnnjjakiehaaGreatDoorLoc
import Derived.Test.YtcelnnjjakiehaaGreatDoorHelp
import Derived.Test.YtcelnnjjakiehaaGreatDoorWithin
namespace Go.Proofs.YtcelnnjjakiehaaGreatDoor
set_option linter.unusedVariables false
set_option maxRecDepth 20000
set_option maxHeartbeats 1000000

theorem calm_of_brit (l : List UInt8) (h : brit l = false) : calm l := by
  intro i hi hn e
  unfold brit at h
  rw [List.any_eq_false] at h
  have hm : l[i] ∈ l.drop (l.length - 9) := by
    rw [List.mem_iff_getElem]
    refine ⟨i - (l.length - 9), by rw [List.length_drop]; omega, ?_⟩
    rw [List.getElem_drop]
    congr 1
    omega
  apply h _ hm
  unfold byteAt at e
  rw [List.getD_eq_getElem?_getD, List.getElem?_eq_getElem hi, Option.getD_some] at e
  simp only [decide_eq_true_eq]
  omega
theorem lexRun_len (l : List UInt8) : ∀ k last dot p, (lexRun l k last dot p).1.length ≤ k := by
  intro k
  induction k with
  | zero => intro last dot p; exact Nat.le_refl _
  | succ k ih =>
    intro last dot p
    unfold lexRun
    split
    · exact Nat.zero_le _
    · next t d _ =>
      split
      · exact Nat.succ_le_succ (Nat.zero_le _)
      · exact Nat.succ_le_succ (ih _ _ _)
/-- how long the reading goes on does not matter, if it is long enough -/
theorem lexRun_fuel (l : List UInt8) : ∀ k k' last dot p, p ≤ l.length → l.length - p < k → l.length - p < k' → lexRun l k last dot p = lexRun l k' last dot p := by
  intro k
  induction k with
  | zero => intro k' last dot p _ h; omega
  | succ k ih =>
    intro k' last dot p hp h h'
    obtain ⟨k', rfl⟩ : ∃ j, k' = j + 1 := ⟨k' - 1, by omega⟩
    unfold lexRun
    cases hn : next l last dot p with
    | err q e => rfl
    | ok t d =>
      have h1 := next_text l last dot p t d hp hn
      have h2 := next_real l last dot p t d hp hn
      simp only
      by_cases hk : t.kind = kEof
      · rw [if_pos hk, if_pos hk]
      · have h3 := h2.2 hk
        rw [if_neg hk, if_neg hk, ih k' t.kind d t.fin h1.2.2.1 (by omega) (by omega)]
/-- a text from a place on, and that rest by itself -/
theorem lexRun_shift (l : List UInt8) (d : Nat) (hd : d ≤ l.length) : ∀ k last dot p, lexRun l k last dot (p + d) = ((lexRun (l.drop d) k last dot p).1.map (TkF.shift d), (lexRun (l.drop d) k last dot p).2.map (· + d)) := by
  intro k
  induction k with
  | zero => intro last dot p; rfl
  | succ k ih =>
    intro last dot p
    unfold lexRun
    rw [next_shift l last dot d p hd]
    cases hn : next (l.drop d) last dot p with
    | err q e => rfl
    | ok t d2 =>
      show (if t.kind = kEof then ([t.shift d], none) else (t.shift d :: (lexRun l k t.kind d2 (t.fin + d)).1, (lexRun l k t.kind d2 (t.fin + d)).2)) = _
      simp only
      by_cases hk : t.kind = kEof
      · rw [if_pos hk, if_pos hk]; rfl
      · rw [if_neg hk, if_neg hk, ih]; rfl
/-- a reading that comes to its end has the last token at its end, and no such one ahead of it -/
theorem lexRun_last (l : List UInt8) : ∀ k last dot p, p ≤ l.length → l.length - p < k → (lexRun l k last dot p).2 = none → ∃ T e, (lexRun l k last dot p).1 = T ++ [e] ∧ e.kind = kEof ∧ e.raw = [] ∧ e.pos = l.length ∧ ∀ t ∈ T, t.kind ≠ kEof := by
  intro k
  induction k with
  | zero => intro last dot p _ h; omega
  | succ k ih =>
    intro last dot p hp h hnone
    unfold lexRun at hnone ⊢
    cases hn : next l last dot p with
    | err q e => rw [hn] at hnone; cases hnone
    | ok t d =>
      have h1 := next_text l last dot p t d hp hn
      have h2 := next_real l last dot p t d hp hn
      rw [hn] at hnone
      simp only at hnone ⊢
      by_cases hk : t.kind = kEof
      · rw [if_pos hk]
        exact ⟨[], t, rfl, hk, (h2.1 hk).2.2, (h2.1 hk).2.1, fun t ht => by cases ht⟩
      · have h3 := h2.2 hk
        rw [if_neg hk] at hnone ⊢
        obtain ⟨T, e, e1, e2, e3, e4, e5⟩ := ih t.kind d t.fin h1.2.2.1 (by omega) hnone
        refine ⟨t :: T, e, by simp only [e1, List.cons_append], e2, e3, e4, fun x hx => ?_⟩
        rcases List.mem_cons.1 hx with rfl | hx
        · exact hk
        · exact e5 x hx
theorem blank_sp (r : List UInt8) : blankL (r.take (spLen r)) = true := by
  have hl := spLen_le r
  have h1 := spLen_agree r.length r (r.take (spLen r)) (Nat.le_refl _) (by rw [List.take_take, Nat.min_self]) (by rw [List.length_take]; omega)
  have h2 : (r.take (spLen r)).drop (spLen r) = [] := List.drop_eq_nil_of_le (by rw [List.length_take]; omega)
  rw [h2, spLen_stop [] rfl] at h1
  unfold blankL
  rw [h1, List.length_take]
  exact decide_eq_true (by omega)
theorem findEnd_at (p : List UInt8) : ∀ r n, findEnd p r = some n → ∃ a, r.take n = a ++ p := by
  intro r
  induction r with
  | nil => intro n h; simp [findEnd] at h
  | cons c t ih =>
    intro n h
    unfold findEnd at h
    split at h
    · next hp =>
      cases h
      refine ⟨[], ?_⟩
      rw [List.nil_append]
      exact (List.prefix_iff_eq_take.1 (List.isPrefixOf_iff_prefix.1 hp)).symm
    · cases hf : findEnd p t with
      | none => rw [hf] at h; simp at h
      | some m =>
        rw [hf] at h
        simp at h
        subst h
        obtain ⟨a, e⟩ := ih m hf
        exact ⟨c :: a, by rw [List.take_succ_cons, e]; rfl⟩
/-- the form of a comment, with the blanks ahead of it, in a text of n bytes -/
structure CmOk (n : Nat) (c : Cm) : Prop where
  sp : blankL c.space = true
  form : ([47, 42].isPrefixOf c.raw = true ∧ 4 ≤ c.raw.length ∧ [42, 47].isSuffixOf c.raw = true) ∨
    ([47, 42].isPrefixOf c.raw = false ∧ ([35].isPrefixOf c.raw = true ∨ [45, 45].isPrefixOf c.raw = true) ∧ ([10].isSuffixOf c.raw = true ∨ c.pos + c.raw.length = n))
theorem has_le (p l : List UInt8) (k : Nat) (hk : k ≤ l.length) (h : has p l = false) : has p (l.drop k) = false := by
  induction k with
  | zero => exact h
  | succ k ih =>
    have h1 := ih (by omega)
    rw [has_drop p l k (by omega)] at h1
    exact (Bool.or_eq_false_iff.1 h1).2
theorem comment_form (r : List UInt8) (n : Nat) (h : comment r = .closed n) (hs : has [47, 42, 47] r = false) :
    ([47, 42].isPrefixOf (r.take n) = true ∧ 4 ≤ n ∧ [42, 47].isSuffixOf (r.take n) = true) ∨
    ([47, 42].isPrefixOf (r.take n) = false ∧ ([35].isPrefixOf (r.take n) = true ∨ [45, 45].isPrefixOf (r.take n) = true) ∧ ([10].isSuffixOf (r.take n) = true ∨ n = r.length)) := by
  have hp := comment_le r n h
  have hline : lineCom r = .closed n → ([10].isSuffixOf (r.take n) = true ∨ n = r.length) := by
    intro h
    unfold lineCom at h
    injection h with h
    cases hf : findEnd [10] r with
    | none => rw [hf] at h; simp at h; exact .inr h.symm
    | some m =>
      rw [hf] at h
      simp at h
      subst h
      obtain ⟨a, e⟩ := findEnd_at _ _ _ hf
      left
      rw [e, List.isSuffixOf_iff_suffix]
      exact List.suffix_append _ _
  unfold comment at h
  split at h
  · cases h
  · next c t =>
    split at h
    · next h1 =>
      subst h1
      right
      obtain ⟨n, rfl⟩ : ∃ m, n = m + 1 := ⟨n - 1, by omega⟩
      refine ⟨by rw [List.take_succ_cons]; simp [List.isPrefixOf], .inl (by rw [List.take_succ_cons]; simp [List.isPrefixOf]), hline h⟩
    · next h1 =>
      split at h
      · next h3 =>
        right
        obtain ⟨rfl, h4⟩ := h3
        cases t with
        | nil => rw [isAt_out _ 1 _ (by simp)] at h4; cases h4
        | cons d t =>
          have hd : d = 45 := by
            unfold isAt at h4
            simp at h4
            rw [← UInt8.toNat_inj]
            show _ = 45
            omega
          subst hd
          have hn2 : 2 ≤ n := by
            have := h
            unfold lineCom at this
            injection this with this
            cases hf : findEnd [10] (45 :: 45 :: t) with
            | none => rw [hf] at this; simp at this; omega
            | some m =>
              rw [hf] at this
              simp at this
              subst this
              obtain ⟨a, e⟩ := findEnd_at _ _ _ hf
              have hm := findEnd_le _ _ _ hf
              rcases Nat.lt_or_ge m 2 with hm2 | hm2
              · exfalso
                have hm1 : m = 1 := by simp at hm; omega
                subst hm1
                have := congrArg List.reverse e
                simp at this
              · exact hm2
          obtain ⟨n, rfl⟩ : ∃ m, n = m + 2 := ⟨n - 2, by omega⟩
          refine ⟨by rw [List.take_succ_cons, List.take_succ_cons]; simp [List.isPrefixOf], .inr (by rw [List.take_succ_cons, List.take_succ_cons]; simp [List.isPrefixOf]), hline h⟩
      · next h3 =>
        split at h
        · next h5 =>
          left
          obtain ⟨rfl, h4⟩ := h5
          cases t with
          | nil => rw [isAt_out _ 1 _ (by simp)] at h4; cases h4
          | cons d t =>
            have hd : d = 42 := by
              unfold isAt at h4
              simp at h4
              rw [← UInt8.toNat_inj]
              show _ = 42
              omega
            subst hd
            unfold blockCom at h
            cases hf : findEnd [42, 47] (47 :: 42 :: t) with
            | none => rw [hf] at h; cases h
            | some m =>
              rw [hf] at h
              injection h with h
              subst h
              obtain ⟨a, e⟩ := findEnd_at _ _ _ hf
              have hm := findEnd_le _ _ _ hf
              have hm4 : 4 ≤ m := by
                unfold findEnd at hf
                rw [if_neg (by simp [List.isPrefixOf])] at hf
                cases hf2 : findEnd [42, 47] (42 :: t) with
                | none => rw [hf2] at hf; simp at hf
                | some m2 =>
                  rw [hf2] at hf
                  simp at hf
                  unfold findEnd at hf2
                  split at hf2
                  · next hq =>
                    exfalso
                    simp only [has] at hs
                    rw [Bool.or_eq_false_iff] at hs
                    have h9 := hs.1
                    rw [Bool.eq_false_iff] at h9
                    apply h9
                    rw [List.isPrefixOf_iff_prefix] at hq ⊢
                    exact (List.prefix_cons_inj 47).2 hq
                  · cases hf3 : findEnd [42, 47] t with
                    | none => rw [hf3] at hf2; simp at hf2
                    | some m3 =>
                      have := findEnd_le _ _ _ hf3
                      rw [hf3] at hf2
                      simp at hf2 this
                      omega
              refine ⟨?_, hm4, ?_⟩
              · obtain ⟨m, rfl⟩ : ∃ k, m = k + 2 := ⟨m - 2, by omega⟩
                rw [List.take_succ_cons, List.take_succ_cons]
                simp [List.isPrefixOf]
              · rw [e, List.isSuffixOf_iff_suffix]
                exact List.suffix_append _ _
        · cases h
/-- what stands ahead of a token is blanks and comments of their forms -/
theorem lead_form (N : Nat) : ∀ (k p : Nat) (r : List UInt8) (acc cs : List Cm) (sp : List UInt8) (n : Nat), r.length ≤ k → has [47, 42, 47] r = false → p + r.length = N → (∀ c ∈ acc, CmOk N c) → lead p r acc = .ok cs sp n → (∀ c ∈ cs, CmOk N c) ∧ blankL sp = true := by
  intro k
  induction k with
  | zero =>
    intro p r acc cs sp n hk _ _ hacc h
    have hr : r = [] := List.eq_nil_of_length_eq_zero (by omega)
    subst hr
    have hs : spLen [] = 0 := spLen_stop [] rfl
    rw [lead_no p [] acc (by rw [hs]; rfl)] at h
    cases h
    exact ⟨hacc, blank_sp []⟩
  | succ k ih =>
    intro p r acc cs sp n hk hh hN hacc h
    have hs := spLen_le r
    cases hcm : comment (r.drop (spLen r)) with
    | no =>
      rw [lead_no p r acc hcm] at h
      cases h
      exact ⟨hacc, blank_sp r⟩
    | open_ => rw [lead_open p r acc hcm] at h; cases h
    | closed m =>
      have hm := comment_le _ _ hcm
      have hf := comment_form _ _ hcm (has_le _ _ _ hs hh)
      rw [List.length_drop] at hm
      rw [lead_closed p r acc m hcm] at h
      refine ih _ _ _ _ _ _ (by rw [List.length_drop]; omega) (has_le _ _ _ (by omega) hh) (by rw [List.length_drop]; omega) ?_ h
      intro c hc
      rcases List.mem_append.1 hc with hc | hc
      · exact hacc c hc
      · obtain rfl := List.mem_singleton.1 hc
        have hl : ((r.drop (spLen r)).take m).length = m := by rw [List.length_take, List.length_drop]; omega
        refine ⟨blank_sp r, ?_⟩
        rcases hf with hf | hf
        · left
          refine ⟨hf.1, by rw [hl]; exact hf.2.1, hf.2.2⟩
        · right
          refine ⟨hf.1, hf.2.1, ?_⟩
          rcases hf.2.2 with h9 | h9
          · exact .inl h9
          · right
            rw [hl]
            rw [List.length_drop] at h9
            show p + spLen r + m = N
            omega
/-- the law of FnLexBetween -/
theorem lexRun_between (l : List UInt8) (hh : has [47, 42, 47] l = false) : ∀ k last dot p, p ≤ l.length → ∀ t ∈ (lexRun l k last dot p).1, blankL t.space = true ∧ ∀ c ∈ t.coms, CmOk l.length c := by
  intro k
  induction k with
  | zero => intro last dot p _ t ht; cases ht
  | succ k ih =>
    intro last dot p hp t ht
    unfold lexRun at ht
    cases hn : next l last dot p with
    | err q e => rw [hn] at ht; cases ht
    | ok u d =>
      have h1 := next_text l last dot p u d hp hn
      rw [hn] at ht
      simp only at ht
      have hu : blankL u.space = true ∧ ∀ c ∈ u.coms, CmOk l.length c := by
        unfold next at hn
        cases hl : lead p (l.drop p) [] with
        | err cs q => rw [hl] at hn; cases hn
        | ok cs sp n =>
          rw [hl] at hn
          have h9 := lead_form l.length (l.drop p).length p (l.drop p) [] cs sp n (Nat.le_refl _) (has_le _ _ _ hp hh) (by rw [List.length_drop]; omega) (fun c hc => by cases hc) hl
          cases ha : anyTok dot last (l.drop n) with
          | err a b => simp only [ha] at hn; cases hn
          | ok t2 =>
            simp only [ha] at hn
            cases hn
            exact ⟨h9.2, h9.1⟩
      split at ht
      · obtain rfl := List.mem_singleton.1 ht
        exact hu
      · rcases List.mem_cons.1 ht with rfl | ht
        · exact hu
        · exact ih _ _ _ h1.2.2.1 t ht
end Go.Proofs.YtcelnnjjakiehaaGreatDoor
