/-
  The plain law of FnKeywordTokens: a word is one token.
-/
import Derived.Test.YtcelnnjjakiehaaGreatDoorPlaw2
namespace Go.Proofs.YtcelnnjjakiehaaGreatDoor
set_option linter.unusedVariables false
set_option maxRecDepth 20000
set_option maxHeartbeats 1000000

theorem lexRun_size (l : List UInt8) : ∀ k last dot p, p ≤ l.length → ∀ t ∈ (lexRun l k last dot p).1, (tkText t).length ≤ l.length := by
  intro k
  induction k with
  | zero => intro last dot p _ t ht; cases ht
  | succ k ih =>
    intro last dot p hp t ht
    unfold lexRun at ht
    cases hn : next l last dot p with
    | err q e => rw [hn] at ht; cases ht
    | ok u d =>
      have h1 := next_text l last dot p u d hp hn
      rw [hn] at ht
      simp only at ht
      have hu : (tkText u).length ≤ l.length := by rw [h1.2.2.2, List.length_take, List.length_drop]; omega
      split at ht
      · obtain rfl := List.mem_singleton.1 ht
        exact hu
      · rcases List.mem_cons.1 ht with rfl | ht
        · exact hu
        · exact ih _ _ _ h1.2.2.1 t ht
theorem cm_le : ∀ (cs : List Cm) (c : Cm), c ∈ cs → c.space.length + c.raw.length ≤ (cmText cs).length := by
  intro cs
  induction cs with
  | nil => intro c hc; cases hc
  | cons d cs ih =>
    intro c hc
    have e : (cmText (d :: cs)).length = d.space.length + d.raw.length + (cmText cs).length := by
      show (d.space ++ d.raw ++ cmText cs).length = _
      simp only [List.length_append]
    rcases List.mem_cons.1 hc with rfl | hc
    · omega
    · have := ih c hc
      omega
theorem idPart_start {c : Int} (h : idStart c = true) : idPart c = true := by
  unfold idStart at h
  unfold idPart
  simp at h ⊢
  omega
theorem wordL_all (l : List UInt8) (h : wordL l = true) : l ≠ [] ∧ idStart (byteAt l 0) = true ∧ ∀ x ∈ l, idPart (x.toNat : Int) = true := by
  cases l with
  | nil => cases h
  | cons c t =>
    unfold wordL at h
    rw [Bool.and_eq_true, List.all_eq_true] at h
    refine ⟨by simp, h.1, fun x hx => ?_⟩
    rcases List.mem_cons.1 hx with rfl | hx
    · exact idPart_start h.1
    · exact h.2 x hx
theorem no_quote (l : List UInt8) (h : ∀ x ∈ l, idPart (x.toNat : Int) = true) (i : Nat) (c : Int) (hc : c = 34 ∨ c = 39) : isAt l i c = false := by
  unfold isAt
  cases hx : l[i]? with
  | none => rfl
  | some b =>
    have := h b (List.mem_of_getElem? hx)
    simp only
    apply decide_eq_false
    intro e
    unfold idPart at this
    simp at this
    omega
theorem pfx_word (l : List UInt8) (h : ∀ x ∈ l, idPart (x.toNat : Int) = true) : ∀ m i a b, pfx l m i a b = none := by
  intro m
  induction m with
  | zero => intro i a b; rfl
  | succ m ih =>
    intro i a b
    unfold pfx
    split
    · split
      · exact ih _ _ _
      · split
        · exact ih _ _ _
        · rw [no_quote l h i 34 (.inl rfl), no_quote l h i 39 (.inr rfl)]
          rfl
    · rfl
theorem wordLen_all (l : List UInt8) (h : ∀ x ∈ l, idPart (x.toNat : Int) = true) : wordLen l = l.length := by
  have := wordLen_app l [] h (fun h0 => by simp at h0)
  rw [List.append_nil] at this
  exact this
/-- the token of a word -/
def wordT (l : List UInt8) : TkF := if kw (upL l) then ⟨upL l, [], [], l, [], 0, 0, l.length⟩ else ⟨kIdent, [], [], l, l, 0, 0, l.length⟩
theorem up_eof (l : List UInt8) (h : kw (upL l) = true) : upL l ≠ kEof := by
  intro e
  rw [e] at h
  exact absurd h (by decide)
/-- THE LAW OF FnKeywordTokens -/
theorem word_lex (l : List UInt8) (h : wordL l = true) : lexAll l = ([wordT l, ⟨kEof, [], [], [], [], 0, l.length, l.length⟩], none) := by
  obtain ⟨hne, hst, hall⟩ := wordL_all l h
  have hl : 0 < l.length := List.length_pos_iff.2 hne
  have hb : byteAt l 0 < 128 ∧ ¬ ((9 ≤ byteAt l 0 ∧ byteAt l 0 ≤ 13) ∨ byteAt l 0 = 32) ∧ byteAt l 0 ≠ 35 ∧ byteAt l 0 ≠ 45 ∧ byteAt l 0 ≠ 47 := by
    unfold idStart at hst
    simp at hst
    omega
  have hs0 : spLen l = 0 := spLen_stop _ (spOne_byte _ hl hb.1 hb.2.1)
  have hcm : comment l = .no := by
    cases l with
    | nil => rfl
    | cons c t =>
      have e : byteAt (c :: t) 0 = (c.toNat : Int) := rfl
      rw [e] at hb
      unfold comment
      simp only
      rw [if_neg (by intro e; rw [e] at hb; exact absurd rfl hb.2.2.1), if_neg (by intro e; rw [e.1] at hb; exact absurd rfl hb.2.2.2.1), if_neg (by intro e; rw [e.1] at hb; exact absurd rfl hb.2.2.2.2)]
  have hlead : lead 0 (l.drop 0) [] = .ok [] [] 0 := by
    rw [List.drop_zero, lead_no 0 l [] (by rw [hs0, List.drop_zero]; exact hcm), hs0]; rfl
  have hw := wordLen_all l hall
  have htok : ∃ tk : Tk, anyTok false [] (l.drop 0) = .ok tk ∧ tk.len = l.length ∧ tk.dot = none ∧ tk.base = 0 ∧ ((kw (upL l) = true ∧ tk.kind = upL l ∧ tk.text = []) ∨ (kw (upL l) = false ∧ tk.kind = kIdent ∧ tk.text = l)) := by
    rw [List.drop_zero]
    unfold anyTok
    rw [if_neg (by decide)]
    unfold tok
    have hq : 65 ≤ byteAt l 0 ∧ byteAt l 0 ≤ 90 ∨ 97 ≤ byteAt l 0 ∧ byteAt l 0 ≤ 122 ∨ byteAt l 0 = 95 := by
      unfold idStart at hst
      simp at hst
      omega
    rw [if_neg hne, if_neg (by
      unfold oneSym
      intro hc
      rw [List.contains_iff_mem] at hc
      simp only [List.mem_cons, List.not_mem_nil, or_false] at hc
      omega), if_neg (by omega), if_neg (by
      intro hc
      apply hc
      unfold seconds
      repeat rw [if_neg (by omega)]), if_neg (by omega), if_neg (by omega), if_neg (by unfold dig; simp; omega)]
    unfold restTok
    rw [pfx_word l hall]
    simp only
    rw [if_pos hst]
    unfold wordTok
    rw [hw, List.take_length]
    cases hk : kw (upL l) with
    | true => exact ⟨_, by rw [if_pos rfl], rfl, rfl, rfl, .inl ⟨rfl, rfl, rfl⟩⟩
    | false => exact ⟨_, by rw [if_neg (by decide)], rfl, rfl, rfl, .inr ⟨rfl, rfl, rfl⟩⟩
  obtain ⟨tk, ht1, ht2, ht3, ht4, ht5⟩ := htok
  have hn1 : next l [] false 0 = .ok (wordT l) false := by
    have := next_mk hlead ht1
    rw [this, ht2, ht3, ht4, List.drop_zero, List.take_length, Nat.zero_add]
    unfold wordT
    rcases ht5 with ⟨a, b, c⟩ | ⟨a, b, c⟩
    · rw [if_pos a, b, c]; rfl
    · rw [if_neg (by rw [a]; decide), b, c]; rfl
  have hkind : (wordT l).kind ≠ kEof := by
    unfold wordT
    cases hk : kw (upL l) with
    | true => rw [if_pos rfl]; exact up_eof l hk
    | false => rw [if_neg (by decide)]; show kIdent ≠ kEof; decide
  have hfin : (wordT l).fin = l.length := by
    unfold wordT
    split <;> rfl
  have hn2 : next l (wordT l).kind false l.length = .ok ⟨kEof, [], [], [], [], 0, l.length, l.length⟩ false := by
    have hz : spLen [] = 0 := spLen_stop [] rfl
    have hl2 : lead l.length (l.drop l.length) [] = .ok [] [] l.length := by
      rw [List.drop_length, lead_no _ [] [] (by rw [hz]; rfl), hz]; rfl
    have := next_mk (last := (wordT l).kind) (dot := false) hl2 (tk := ⟨kEof, [], 0, 0, none⟩) (by rw [List.drop_length]; exact anyTok_nil _ _)
    rw [this, List.drop_length]
    rfl
  unfold lexAll
  obtain ⟨m, hm⟩ : ∃ m, l.length = m + 1 := ⟨l.length - 1, by omega⟩
  rw [hm, lexRun, hn1]
  simp only
  rw [if_neg hkind, hfin, lexRun, hn2]
  simp [hm]
end Go.Proofs.YtcelnnjjakiehaaGreatDoor
