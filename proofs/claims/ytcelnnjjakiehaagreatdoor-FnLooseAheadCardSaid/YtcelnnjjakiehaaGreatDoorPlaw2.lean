/-
  The plain laws of FnLexGaps, FnLexSettles and FnSplitTokens: a token's reading by itself, with other blanks and comments around it, and in a part of the text.
-/
import Derived.Test.YtcelnnjjakiehaaGreatDoorPlaw
namespace Go.Proofs.YtcelnnjjakiehaaGreatDoor
set_option linter.unusedVariables false
set_option maxRecDepth 20000
set_option maxHeartbeats 1000000

theorem spOne_of_spLen (r : List UInt8) (h : spLen r = 0) : spOne r = 0 := by
  rcases Nat.eq_zero_or_pos (spOne r) with h0 | h0
  · exact h0
  · have := spLen_step r (by omega)
    omega
theorem seconds_high (c : Int) (h : 128 ≤ c) : seconds c = [] := by
  unfold seconds
  repeat rw [if_neg (by omega)]
theorem pfx_low (r : List UInt8) (x : Nat × Bool × Bool) (h : pfx r 3 0 false false = some x) : byteAt r 0 < 128 := by
  unfold pfx at h
  split at h
  · next hl =>
    simp only [isAt_in r 0 _ hl] at h
    split at h
    · next c => simp at c; omega
    · split at h
      · next c => simp at c; omega
      · split at h
        · next c => simp at c; omega
        · cases h
  · cases h
/-- a token begins with a byte below 128 -/
theorem tok_low (last r : List UInt8) {t : Tk} (h : tok last r = .ok t) (hr : r ≠ []) : byteAt r 0 < 128 := by
  unfold tok at h
  rw [if_neg hr] at h
  split at h
  · next c =>
    unfold oneSym at c
    rw [List.contains_iff_mem] at c
    simp only [List.mem_cons, List.not_mem_nil, or_false] at c
    omega
  · split at h
    · omega
    · split at h
      · next c =>
        rcases Int.lt_or_le (byteAt r 0) 128 with h9 | h9
        · exact h9
        · exact absurd (seconds_high _ h9) c
      · split at h
        · omega
        · split at h
          · omega
          · split at h
            · next c => unfold dig at c; simp at c; omega
            · unfold restTok at h
              split at h
              · next hp => exact pfx_low r _ hp
              · split at h
                · next c => unfold idStart at c; simp at c; omega
                · cases h
theorem anyTok_low (dot : Bool) (last r : List UInt8) {t : Tk} (h : anyTok dot last r = .ok t) (hr : r ≠ []) : byteAt r 0 < 128 := by
  unfold anyTok at h
  split at h
  · unfold ftok at h
    split at h
    · next c => have c := c.2; unfold idPart at c; simp at c; omega
    · exact tok_low last r h hr
  · exact tok_low last r h hr
theorem tok_last (a b r : List UInt8) (h : nextDot a = nextDot b ∨ byteAt r 0 ≠ 46) : tok a r = tok b r := by
  unfold tok
  by_cases c0 : r = []
  · rw [if_pos c0, if_pos c0]
  rw [if_neg c0, if_neg c0]
  by_cases c1 : oneSym (byteAt r 0) = true
  · rw [if_pos c1, if_pos c1]
  rw [if_neg c1, if_neg c1]
  by_cases c2 : byteAt r 0 = 46
  · rw [if_pos c2, if_pos c2]
    rcases h with h | h
    · unfold dotTok; rw [h]
    · exact absurd c2 h
  rw [if_neg c2, if_neg c2]
theorem anyTok_last (dot : Bool) (a b r : List UInt8) (h : nextDot a = nextDot b ∨ byteAt r 0 ≠ 46) : anyTok dot a r = anyTok dot b r := by
  unfold anyTok ftok
  rw [tok_last a b r h]
theorem twoSym_dot (r : List UInt8) (c : UInt8) {t : Tk} : ∀ l : List UInt8, twoSym r c l = .ok t → t.dot = none := by
  intro l
  induction l with
  | nil => intro h; cases h; rfl
  | cons d l ih =>
    intro h
    unfold twoSym at h
    split at h
    · cases h; rfl
    · exact ih h
theorem qtok_dot (q : List UInt8) (raw uni ident : Bool) (kind : List UInt8) (off : Nat) (r : List UInt8) {t : Tk} (h : qtok q raw uni ident kind off r = .ok t) : t.dot = none := by
  unfold qtok at h
  split at h
  · cases h; rfl
  · cases h
theorem number_dot (r : List UInt8) {t : Tk} (h : number false r = .ok t) : t.dot = none := by
  unfold number at h
  simp only at h
  split at h
  · cases h
  · cases h; rfl
/-- behind a token that begins with no point, no field's name may follow -/
theorem tok_dot (last r : List UInt8) {t : Tk} (h : tok last r = .ok t) (h46 : byteAt r 0 ≠ 46) : t.dot = none := by
  unfold tok at h
  split at h
  · cases h; rfl
  · split at h
    · cases h; rfl
    · split at h
      · exact twoSym_dot _ _ _ h
      · split at h
        · unfold atTok at h
          split at h
          · cases h; rfl
          · split at h
            · cases h; rfl
            · cases h; rfl
        · split at h
          · exact qtok_dot _ _ _ _ _ _ _ h
          · split at h
            · exact number_dot _ h
            · unfold restTok at h
              split at h
              · exact qtok_dot _ _ _ _ _ _ _ h
              · split at h
                · unfold wordTok at h
                  split at h
                  · cases h; rfl
                  · cases h; rfl
                · cases h
/-- what a token is, but for its place and what stands ahead of it -/
def TkF.key (t : TkF) : List UInt8 × List UInt8 × List UInt8 × Int := (t.kind, t.raw, t.text, t.base)
/-- a token that is a point or begins with one -/
def fieldT (t : TkF) : Bool := decide (t.kind = [46]) || [46].isPrefixOf t.raw
theorem next_ok {l last : List UInt8} {dot : Bool} {p : Nat} {t : TkF} {d : Bool} (h : next l last dot p = .ok t d) :
    ∃ cs sp n tk, lead p (l.drop p) [] = .ok cs sp n ∧ anyTok dot last (l.drop n) = .ok tk ∧ t = ⟨tk.kind, cs, sp, (l.drop n).take tk.len, tk.text, tk.base, n, n + tk.len⟩ ∧ d = (!dot && tk.dot.getD false) := by
  unfold next at h
  cases hl : lead p (l.drop p) [] with
  | err cs q => rw [hl] at h; cases h
  | ok cs sp n =>
    rw [hl] at h
    cases ht : anyTok dot last (l.drop n) with
    | err a b => simp only [ht] at h; cases h
    | ok tk =>
      simp only [ht] at h
      cases h
      exact ⟨cs, sp, n, tk, rfl, ht, rfl, rfl⟩
theorem next_mk {l last : List UInt8} {dot : Bool} {p : Nat} {cs : List Cm} {sp : List UInt8} {n : Nat} {tk : Tk} (h1 : lead p (l.drop p) [] = .ok cs sp n) (h2 : anyTok dot last (l.drop n) = .ok tk) :
    next l last dot p = .ok ⟨tk.kind, cs, sp, (l.drop n).take tk.len, tk.text, tk.base, n, n + tk.len⟩ (!dot && tk.dot.getD false) := by
  unfold next
  rw [h1]
  simp only [h2]
theorem not_blank (r : List UInt8) (hr : r ≠ []) (h : spOne r = 0) (h1 : byteAt r 0 < 128) : ¬ ((9 ≤ byteAt r 0 ∧ byteAt r 0 ≤ 13) ∨ byteAt r 0 = 32) := by
  cases r with
  | nil => exact absurd rfl hr
  | cons c t =>
    have e : byteAt (c :: t) 0 = (c.toNat : Int) := rfl
    rw [e] at h1 ⊢
    rw [spOne_low c t (by omega)] at h
    intro hh
    rw [if_pos (by omega)] at h
    cases h
/-- no comment begins where a token begins, in the other text neither -/
theorem comment_no {n : Nat} {r r' : List UInt8} (hA : Agree n r r') (h0 : 0 < n) (h : comment r = .no) : comment r' = .no := by
  have h1 := hA.le; have h2 := hA.le'
  have hx : ∀ k : Int, ¬ endB k → isAt r' 1 k = true → isAt r 1 k = true := by
    intro k hk hi
    rcases Nat.lt_or_ge 1 n with hn | hn
    · rw [← hA.is 1 hn]; exact hi
    · have e : n = 1 := by omega
      subst e
      rcases hA.isEnd with hf | hf
      · rw [hf k hk] at hi; cases hi
      · rw [← hf]; exact hi
  cases r with
  | nil => simp at h1; omega
  | cons c t =>
    cases r' with
    | nil => rfl
    | cons c' t' =>
      have e : c' = c := by
        have := hA.get 0 h0
        simp at this
        exact this.symm
      subst e
      unfold comment at h ⊢
      simp only at h ⊢
      by_cases c1 : c' = 35
      · rw [if_pos c1] at h; cases h
      rw [if_neg c1] at h ⊢
      by_cases c2 : c' = 45 ∧ isAt (c' :: t') 1 45 = true
      · rw [if_pos ⟨c2.1, hx 45 (by unfold endB; omega) c2.2⟩] at h; cases h
      rw [if_neg c2]
      by_cases c2' : c' = 45 ∧ isAt (c' :: t) 1 45 = true
      · rw [if_pos c2'] at h; cases h
      rw [if_neg c2'] at h
      by_cases c3 : c' = 47 ∧ isAt (c' :: t') 1 42 = true
      · rw [if_pos ⟨c3.1, hx 42 (by unfold endB; omega) c3.2⟩] at h
        unfold blockCom at h
        split at h <;> cases h
      rw [if_neg c3]
/-- where a token begins in one text, it begins in the other one too -/
theorem head_agree {dot : Bool} {last r r' : List UInt8} {tk : Tk} (hA : Agree tk.len r r') (h0 : 0 < tk.len) (ht : anyTok dot last r = .ok tk) (h1 : spLen r = 0) (h2 : comment r = .no) : spLen r' = 0 ∧ comment r' = .no := by
  have hl := hA.le; have hl' := hA.le'
  have hr : r ≠ [] := fun e => by subst e; simp at hl; omega
  have hlow := anyTok_low dot last r ht hr
  have hnb := not_blank r hr (spOne_of_spLen r h1) hlow
  have hb := hA.byte 0 h0
  exact ⟨spLen_stop _ (spOne_byte _ (by omega) (by omega) (by omega)), comment_no hA h0 h2⟩
theorem anyTok_eof {dot : Bool} {last r : List UInt8} {tk : Tk} (h : anyTok dot last r = .ok tk) (hk : tk.kind ≠ kEof) : r ≠ [] ∧ 0 < tk.len := by
  have hr : r ≠ [] := by
    intro e
    subst e
    rw [anyTok_nil] at h
    cases h
    exact hk rfl
  have := anyTok_real dot last r hr
  rw [h] at this
  exact ⟨hr, this.2⟩
theorem anyTok_isEof {dot : Bool} {last r : List UInt8} {tk : Tk} (h : anyTok dot last r = .ok tk) (hk : tk.kind = kEof) : r = [] := by
  by_cases hr : r = []
  · exact hr
  · have := anyTok_real dot last r hr
    rw [h] at this
    exact absurd hk this.1

/-- blanks and comments between tokens: they end where they end, whatever token follows -/
structure Gap (g : List UInt8) : Prop where
  ends : 0 < g.length → endB (byteAt g 0)
  over : ∀ (x : List UInt8) (p : Nat), spLen x = 0 → comment x = .no → ∃ cs sp, lead p (g ++ x) [] = .ok cs sp (p + g.length)
theorem Gap.nil : Gap [] := ⟨fun h => by simp at h, fun x p h1 h2 => ⟨[], [], by rw [List.nil_append, lead_no p x [] (by rw [h1]; exact h2), h1]; rfl⟩⟩
/-- a blank -/
def blk (c : UInt8) : Prop := (9 ≤ c.toNat ∧ c.toNat ≤ 13) ∨ c.toNat = 32
theorem spLen_blks (b x : List UInt8) (hb : ∀ c ∈ b, blk c) : spLen (b ++ x) = b.length + spLen x := by
  induction b with
  | nil => simp
  | cons c b ih =>
    have h1 := hb c (by simp)
    have h2 : spOne (c :: (b ++ x)) = 1 := by
      unfold blk at h1
      rw [spOne_low c (b ++ x) (by omega), if_pos h1]
    have h3 := spLen_step (c :: (b ++ x)) (by omega)
    rw [h2] at h3
    rw [List.cons_append, h3, List.length_cons]
    have := ih (fun c hc => hb c (by simp [hc]))
    show 1 + spLen (b ++ x) = _
    omega
end Go.Proofs.YtcelnnjjakiehaaGreatDoor
