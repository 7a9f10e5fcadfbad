/-
  What the law FnSplitTokens asks: the plain law whole; rows of tokens that are compared, whatever their comments.
-/
import Derived.Test.YtcelnnjjakiehaaGreatDoorSpl2
import Derived.Test.YtcelnnjjakiehaaGreatDoorLaw1
namespace Go.Proofs.YtcelnnjjakiehaaGreatDoor
open Go.RowKit
set_option linter.unusedVariables false
set_option maxRecDepth 1000000
set_option maxHeartbeats 4000000

theorem split_law (l : List UInt8) (hbr : brit l = false) (h : (lexAll l).2 = none) :
    splitAll l ≠ [] ∧ (∀ x ∈ splitAll l, StOk l x) ∧ ((preK l (splitAll l)).tail = (lexAll l).1.dropLast.map TkF.key ∨ (preK l (splitAll l)).tail ++ [semiK] = (lexAll l).1.dropLast.map TkF.key) := by
  have hrun : lexRun l (l.length + 1) [] false 0 = ((lexAll l).1, none) := Prod.ext rfl h
  obtain ⟨h1, h2⟩ := split_main l hbr (lexAll l).1.length (lexAll l).1 (Nat.le_refl _) (l.length + 1) [] 0 (Nat.zero_le _) (by omega) rfl hrun
  by_cases h0 : splitT (lexAll l).1 0 = []
  · have hS : splitAll l = [(0, 0)] := by unfold splitAll; rw [if_pos h0]
    rw [h0] at h2
    have hk : (lexAll l).1.dropLast = [] := by
      rcases h2 with h2 | h2
      · cases h2
      · have h3 : [semiK] = semiK :: (lexAll l).1.dropLast.map TkF.key := h2
        injection h3 with _ h3
        exact List.map_eq_nil_iff.1 h3.symm
    obtain ⟨Ta, e, e1, e2, e3, e4, e5⟩ := lexRun_last l (l.length + 1) [] false 0 (Nat.zero_le _) (by omega) (by rw [hrun])
    change (lexAll l).1 = Ta ++ [e] at e1
    rw [e1, List.dropLast_concat] at hk
    subst hk
    rw [e1, List.nil_append, splitT, if_neg (by rw [e2]; decide), if_pos e2] at h0
    have hp : e.pos = 0 := by
      by_cases hp : e.pos = 0
      · exact hp
      · rw [if_neg hp] at h0; cases h0
    have hl : l = [] := List.eq_nil_of_length_eq_zero (by omega)
    subst hl
    have hst : stText [] (0, 0) = [] := rfl
    rw [hS]
    refine ⟨by simp, fun x hx => ?_, .inl ?_⟩
    · obtain rfl := List.mem_singleton.1 hx
      refine ⟨Nat.le_refl _, Nat.le_refl _, [], e, ?_⟩
      rw [hst]
      exact Prod.ext (by rw [e1]) h
    · unfold preK stKeys
      simp only [List.flatMap_cons, List.flatMap_nil, List.append_nil, List.tail_cons, hst]
  · have hS : splitAll l = splitT (lexAll l).1 0 := by unfold splitAll; rw [if_neg h0]
    rw [hS]
    refine ⟨h0, h1, ?_⟩
    have hne : preK l (splitT (lexAll l).1 0) ≠ [] := by
      cases hx : splitT (lexAll l).1 0 with
      | nil => exact absurd hx h0
      | cons x r => unfold preK; simp
    rcases h2 with h2 | h2
    · left; rw [h2]; rfl
    · right
      cases hx : preK l (splitT (lexAll l).1 0) with
      | nil => exact absurd hx hne
      | cons k r =>
        rw [hx] at h2
        injection h2
theorem preK_take (l : List UInt8) (S : List (Nat × Nat)) (k : Nat) (h : k < S.length) : preK l (S.take (k + 1)) = preK l (S.take k) ++ (semiK :: stKeys l S[k]) := by
  rw [List.take_succ_eq_append_getElem h]
  unfold preK
  rw [List.flatMap_append]
  simp
/-- the first elements of a row -/
theorem Own.takes {w : World} {B e z n m cap : Nat} {p : Option Addr} {xs : List Value} (h : Own w B e z (.slice p n cap) n xs) (hm : m ≤ n) (h0 : 0 < n) : Own w B e z (.slice p m cap) m (xs.take (m * z)) := by
  have hmz : m * z ≤ n * z := Nat.mul_le_mul_right _ hm
  refine ⟨by rw [List.length_take, h.1]; omega, ?_⟩
  rcases h.2 with ⟨_, h2⟩ | ⟨g, c, cur, fz, h2, h3, h4, h5, h6, h7, h8, h9⟩
  · omega
  · injection h2 with a1 a2 a3
    subst a1 a3
    refine .inr ⟨g, cap, cur, fz, rfl, h3, h4, h5, by omega, h7, h8, ?_⟩
    rw [← h9, List.take_take, Nat.min_eq_left hmz]
theorem tksCells_take : ∀ (l : List (TkF × Value)) (m : Nat), (tksCells l).take (m * 8) = tksCells (l.take m) := by
  intro l
  induction l with
  | nil => intro m; simp [tksCells]
  | cons p r ih =>
    intro m
    cases m with
    | zero => simp [tksCells]
    | succ m =>
      show (tkCells p.1 p.2 ++ tksCells r).take ((m + 1) * 8) = tkCells p.1 p.2 ++ tksCells (r.take m)
      have ha : (tkCells p.1 p.2).length = 8 := rfl
      rw [show (m + 1) * 8 = (tkCells p.1 p.2).length + m * 8 from by omega, List.take_length_add_append, ih]
theorem tail_app {α : Type} {a : List α} {x : α} {b : List α} (h : a ≠ []) : a.tail ++ [x] ++ b = (a ++ x :: b).tail := by
  cases a with
  | nil => exact absurd rfl h
  | cons y r => simp
theorem tksCells_length (l : List (TkF × Value)) : (tksCells l).length = l.length * 8 := by
  induction l with
  | nil => rfl
  | cons p r ih => show (tkCells p.1 p.2 ++ tksCells r).length = _; rw [List.length_append, ih]; simp [tkCells]; omega
theorem tksCells_one (l : List (TkF × Value)) (h : ∀ p ∈ l, p.2.oneCell' = true) : ∀ u ∈ tksCells l, u.oneCell' = true := by
  induction l with
  | nil => intro u hu; cases hu
  | cons p r ih =>
    intro u hu
    rcases List.mem_append.1 (show u ∈ tkCells p.1 p.2 ++ tksCells r from hu) with hu | hu
    · have h1 := h p (by simp)
      simp only [tkCells, List.mem_cons, List.not_mem_nil, or_false] at hu
      rcases hu with rfl | rfl | rfl | rfl | rfl | rfl | rfl | rfl
      all_goals first | rfl | exact h1
    · exact ih (fun q hq => h q (by simp [hq])) u hu
theorem Toks.one {w : World} {B : Nat} {v : Value} {l : List (TkF × Value)} (h : Toks w B v l) : ∀ p ∈ l, p.2.oneCell' = true := by
  intro p hp
  obtain ⟨pv, cv, e⟩ := own_shape2 (h.coms p hp)
  rw [e]; rfl
theorem tok_at {w : World} {B : Nat} {v : Value} {l : List (TkF × Value)} (h : Own w B 30 8 v l.length (tksCells l)) (k : Nat) (hk : k < l.length) : ∃ g cap, v = .slice (some ⟨g, 0, none⟩) l.length cap ∧ B ≤ g ∧ l.length ≤ cap ∧ ∀ j, j < 8 → w.cell? ⟨g, k * 8 + j, none⟩ = (tkCells l[k].1 l[k].2)[j]? := by
  rcases h.shape with ⟨_, h2, _⟩ | ⟨g, cap, rfl, hB, _, hc, _⟩
  · omega
  · refine ⟨g, cap, rfl, hB, hc, fun j hj => ?_⟩
    rw [h.cellAt (k * 8 + j) (by omega)]
    exact tksCells_at l k l[k] (List.getElem?_eq_getElem hk) j hj
theorem allAlikeO_any {w : World} {B C : Nat} {v u : Value} {l m : List (TkF × Value)} (hT : Own w B 30 8 v l.length (tksCells l)) (hU : Own w C 30 8 u m.length (tksCells m)) (hlen : l.length ≤ 1073741824) (hlen2 : m.length ≤ 1073741824) :
    Calls Tryz.prog 19 #[v, u] w fun e w' => e = .returned (.bool (decide (l.map (fun p => p.1.key) = m.map (fun p => p.1.key)))) ∧ Below w.heap.size w w' := by
  obtain ⟨pv, cap, rfl⟩ := own_shape2 hT
  obtain ⟨pu, cup, rfl⟩ := own_shape2 hU
  by_cases hne : l.length = m.length
  · have hnb : ((l.length : Int) != (m.length : Int)) = false := by rw [hne]; simp
    have hdr := fun k h1 h2 => map_drop (fun p : TkF × Value => p.1.key) l m k h1 h2
    have HT := Lib.hid hT; have HU := Lib.hid hU; have HD := Lib.hid hdr; have HNE := Lib.hid hne
    clear hT hU hdr hne
    go_enter Tryz.func19, Tryz.ntmps19
    go_wp2_with fail
    go_loopw [13] (fun i wr => ∃ k : Nat, i = .int .i64 k ∧ k ≤ l.length ∧ decide (l.map (fun p => p.1.key) = m.map (fun p => p.1.key)) = decide ((l.drop k).map (fun p => p.1.key) = (m.drop k).map (fun p => p.1.key)) ∧ Below w.heap.size w wr) (fun i _ => l.length - (intOf i).toNat)
    case atStart => exact ⟨0, rfl, Nat.zero_le _, rfl, Below.refl _ _⟩
    case round =>
      obtain ⟨k, rfl, hk, hA, hb⟩ := hrel
      by_cases hlt : k < l.length
      · have hTr := HT.out.below hb (fun g hg => (HT.out.lt g hg).2)
        have hUr := HU.out.below hb (fun g hg => (HU.out.lt g hg).2)
        have hlt2 : k < m.length := by have := HNE.out; omega
        obtain ⟨g, cap2, he, hBg, hcap, hcell⟩ := tok_at hTr k hlt
        obtain ⟨g', cap2', he', hBg', hcap', hcell'⟩ := tok_at hUr k hlt2
        injection he with he1 he2 he3
        injection he' with he1' he2' he3'
        subst he1 he3 he1' he3'
        rw [HD.out k hlt hlt2] at hA
        generalize l[k] = p at *
        generalize m[k] = p' at *
        obtain ⟨t, cv⟩ := p
        obtain ⟨t', cv'⟩ := p'
        have hlk := alike_any t t' cv cv'
        obtain ⟨a0, a1, a2, a3, a4, a5, a6, a7⟩ := eight hcell
        obtain ⟨b0, b1, b2, b3, b4, b5, b6, b7⟩ := eight hcell'
        simp only at hA
        generalize decide (t.key = t'.key) = bb at *
        have HA := Lib.hid hA; have HB := Lib.hid hb; have HG := Lib.hid hlk
        clear hA hb hlk hTr hUr hcell hcell'
        go_wp2_with fail
        go_still_tail 8, (by kernel_rfl)
        clear a0 a1 a2 a3 a4 a5 a6 a7 b0 b1 b2 b3 b4 b5 b6 b7
        change wpList _ _ _ _ _ (wr.drewN 1)
        have HB2 := Lib.hid (HB.out.trans (below_drewN wr 1 w.heap.size))
        generalize wr.drewN 1 = w2 at *
        go_wp2_with fail
        refine (HG.out _).mono ?_
        rintro e w3 ⟨rfl, hb3⟩
        have HB3 := Lib.hid (HB2.out.trans (hb3.mono HB2.out.size)); clear hb3
        cases bb with
        | false =>
          go_wp2_with fail
          go_ret
          exact ⟨ret_bool (by rw [HA.out]; rfl), HB3.out⟩
        | true =>
          go_wp2_with fail
          exact ⟨⟨k + 1, by go_num, by omega, by rw [HA.out]; rfl, HB3.out⟩, by simp [intOf]; omega⟩
      · go_wp2_with fail
        go_ret
        have e : k = l.length := by omega
        exact ⟨ret_bool (by rw [hA, e, List.drop_length, HNE.out, List.drop_length]; rfl), hb⟩
  · have hnb : ((l.length : Int) != (m.length : Int)) = true := by rw [bne_iff_ne]; omega
    have hd : decide (l.map (fun p => p.1.key) = m.map (fun p => p.1.key)) = false := by
      apply decide_eq_false
      intro e
      have := congrArg List.length e
      rw [List.length_map, List.length_map] at this
      exact hne this
    rw [hd]
    clear hd hT hU
    go_enter Tryz.func19, Tryz.ntmps19
    go_wp2_with fail
    go_ret
    exact ⟨rfl, Below.refl _ _⟩
end Go.Proofs.YtcelnnjjakiehaaGreatDoor
