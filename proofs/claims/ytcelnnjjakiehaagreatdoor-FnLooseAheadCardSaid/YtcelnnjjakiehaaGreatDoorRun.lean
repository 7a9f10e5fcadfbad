/-
  Where no backslash stands among the last nine bytes, the places of every fault lie in the text.
  All tokens of a text, in plain lists of bytes: what impl.Lex reads; its tokens have all of the bytes.
-/
import Derived.Test.YtcelnnjjakiehaaGreatDoorLead
namespace Go.Proofs.YtcelnnjjakiehaaGreatDoor
set_option linter.unusedVariables false
set_option maxRecDepth 20000
set_option maxHeartbeats 1000000

theorem badAt_lt (f : Int → Bool) (r : List UInt8) (i : Nat) : ∀ n j m, badAt f r i j n = some m → m < j + n := by
  intro n
  induction n with
  | zero => intro j m h; cases h
  | succ n ih =>
    intro j m h
    by_cases hg : i + j < r.length ∧ f (byteAt r (i + j)) = true
    · rw [badAt_go f r i j n hg.1 hg.2] at h
      have := ih (j + 1) m h
      omega
    · rw [badAt_stop f r i j n hg] at h
      cases h; omega
theorem qEsc_good (raw uni : Bool) (r : List UInt8) (i : Nat) (d : Int) (p e k : Nat) (h : qEsc raw uni r i d = .fault p e k) (hl : i + 10 ≤ r.length) : p ≤ e ∧ e ≤ r.length := by
  unfold qEsc at h
  split at h
  · cases h
  · split at h
    · cases h
    · split at h
      · split at h
        · next hb => have := badAt_lt _ _ _ _ _ _ hb; cases h; omega
        · cases h
      · split at h
        · split at h
          · cases h; omega
          · simp only at h
            have hn : (if d = 85 then 8 else 4) ≤ 8 := by split <;> omega
            generalize (if d = 85 then 8 else 4) = n at *
            split at h
            · next hb => have := badAt_lt _ _ _ _ _ _ hb; cases h; omega
            · split at h
              · cases h; omega
              · cases h
        · split at h
          · split at h
            · next hb => have := badAt_lt _ _ _ _ _ _ hb; cases h; omega
            · cases h
          · cases h; omega
theorem qstep_good (q : List UInt8) (raw uni : Bool) (r : List UInt8) (i p e k : Nat) (hi : i < r.length) (hc : calm r) (h : qstep q raw uni r i = .fault p e k) : p ≤ e ∧ e ≤ r.length := by
  unfold qstep at h
  split at h
  · cases h
  · split at h
    · next h92 =>
      have h10 : i + 10 ≤ r.length := by
        rcases Nat.lt_or_ge (i + 9) r.length with h' | h'
        · exact h'
        · exact absurd h92 (hc i hi h')
      split at h
      · exact qEsc_good _ _ _ _ _ _ _ _ h h10
      · cases h; omega
    · split at h
      · cases h; omega
      · cases h
theorem qrun_good (q : List UInt8) (raw uni ident : Bool) (r : List UInt8) (hc : calm r) : ∀ d i acc, r.length - i ≤ d → i ≤ r.length → (qrun q raw uni ident r i acc).good r.length := by
  intro d
  induction d with
  | zero =>
    intro i acc hd hi
    rw [qrun_out _ _ _ _ _ _ _ (by omega)]
    exact ⟨Nat.zero_le _, hi⟩
  | succ d ih =>
    intro i acc hd hi
    by_cases hlt : i < r.length
    · rw [qrun_in _ _ _ _ _ _ _ hlt]
      cases hs : qstep q raw uni r i with
      | close =>
        have hp : i + q.length ≤ r.length := by
          by_cases hid : ident = true ∧ acc = []
          · have h2 := qrun_len q raw uni false r r.length i acc acc (i + q.length) (by omega) (by rw [qrun_in _ _ _ _ _ _ _ hlt, hs]; simp only; rw [if_neg (by simp)])
            exact h2.2
          · have h2 := qrun_len q raw uni ident r r.length i acc acc (i + q.length) (by omega) (by rw [qrun_in _ _ _ _ _ _ _ hlt, hs]; simp only; rw [if_neg hid])
            exact h2.2
        show (if ident = true ∧ acc = [] then QR.err 0 (i + q.length) else QR.ok acc (i + q.length)).good r.length
        split
        · exact ⟨Nat.zero_le _, hp⟩
        · exact hp
      | next k out =>
        have := qstep_len q raw uni r i k out hlt hs
        exact ih (i + k + 1) (acc ++ out) (by omega) (by omega)
      | fault p e k => exact qstep_good q raw uni r i p e k hlt hc hs
    · rw [qrun_out _ _ _ _ _ _ _ hlt]
      exact ⟨Nat.zero_le _, hi⟩
theorem qtok_good (q : List UInt8) (raw uni ident : Bool) (kind : List UInt8) (off : Nat) (r : List UInt8) (hc : calm r) (ho : off ≤ r.length) (hq : q.length ≤ r.length - off) : (qtok q raw uni ident kind off r).good r.length := by
  have h := qrun_good q raw uni ident (r.drop off) (hc.drop off) (r.drop off).length q.length [] (by omega) (by rw [List.length_drop]; exact hq)
  unfold qtok
  rw [List.length_drop] at h
  cases hh : qrun q raw uni ident (r.drop off) q.length [] with
  | ok t n => rw [hh] at h; have h : n ≤ r.length - off := h; show off + n ≤ r.length; omega
  | err p e => rw [hh] at h; have h : p ≤ e ∧ e ≤ r.length - off := h; show off + p ≤ off + e ∧ off + e ≤ r.length; omega
theorem number_good (r : List UInt8) (hl : 0 < r.length) (h0 : dig (byteAt r 0) = true ∨ byteAt r 0 = 46) : (number false r).good r.length := by
  have h := number_len r hl h0
  unfold number
  simp only
  split
  · exact ⟨Nat.le_refl _, h.2⟩
  · exact h.2
theorem tok_good (last r : List UInt8) (hc : calm r) : (tok last r).good r.length := by
  unfold tok
  split
  · exact Nat.zero_le _
  · next hr0 =>
    have hl : 0 < r.length := List.length_pos_iff.2 hr0
    split
    · exact hl
    · split
      · next h46 =>
        unfold dotTok
        split
        · exact number_good r hl (.inr h46)
        · exact hl
      · split
        · have two : ∀ (l : List UInt8) (c : UInt8), (twoSym r c l).good r.length := by
            intro l c
            induction l with
            | nil => exact hl
            | cons d t ih =>
              unfold twoSym
              split
              · next hd => exact len_two hd
              · exact ih
          exact two _ _
        · split
          · unfold atTok
            split
            · next hd => exact len_two hd
            · split
              · next h1 =>
                have := wordLen_le (r.drop 1)
                rw [List.length_drop] at this
                show 1 + wordLen (r.drop 1) ≤ r.length
                omega
              · exact hl
          · split
            · exact qtok_good _ _ _ _ _ 0 r hc (Nat.zero_le _) hl
            · split
              · next hd => exact number_good r hl (.inl hd)
              · unfold restTok
                split
                · next i by_ raw hp =>
                  have h := pfx_at r 3 0 false false i by_ raw hp
                  have hd := delim_le (r.drop i) (by rw [List.length_drop]; omega)
                  rw [delim_drop0, List.length_drop] at hd
                  exact qtok_good _ _ _ _ _ i r hc (by omega) hd
                · split
                  · unfold wordTok
                    split
                    · exact wordLen_le r
                    · exact wordLen_le r
                  · exact ⟨Nat.le_refl _, Nat.zero_le _⟩
theorem ftok_good (last r : List UInt8) (hc : calm r) : (ftok last r).good r.length := by
  unfold ftok
  split
  · exact wordLen_le r
  · exact tok_good last r hc
theorem anyTok_good (dot : Bool) (last r : List UInt8) (hc : calm r) : (anyTok dot last r).good r.length := by
  unfold anyTok
  split
  · exact ftok_good last r hc
  · exact tok_good last r hc
/-- what stands ahead of a token lies in the text -/
def Lead.within (N : Nat) : Lead → Prop
  | .ok _ _ n => n ≤ N
  | .err _ p => p ≤ N
theorem lead_within : ∀ (k p : Nat) (r : List UInt8) (acc : List Cm), r.length ≤ k → (lead p r acc).within (p + r.length) := by
  intro k
  induction k with
  | zero =>
    intro p r acc hk
    have hr : r = [] := List.eq_nil_of_length_eq_zero (by omega)
    subst hr
    have hs : spLen [] = 0 := spLen_stop [] rfl
    rw [lead_no p [] acc (by rw [hs]; rfl), hs]
    exact Nat.le_refl _
  | succ k ih =>
    intro p r acc hk
    have hs := spLen_le r
    cases hcm : comment (r.drop (spLen r)) with
    | no =>
      rw [lead_no p r acc hcm]
      show p + spLen r ≤ p + r.length
      omega
    | open_ =>
      rw [lead_open p r acc hcm]
      show p + spLen r ≤ p + r.length
      omega
    | closed n =>
      have hc := comment_le _ _ hcm
      rw [List.length_drop] at hc
      rw [lead_closed p r acc n hcm]
      have h := ih (p + spLen r + n) (r.drop (spLen r + n)) (acc ++ [⟨r.take (spLen r), (r.drop (spLen r)).take n, p + spLen r⟩]) (by rw [List.length_drop]; omega)
      rw [List.length_drop, show p + spLen r + n + (r.length - (spLen r + n)) = p + r.length from by omega] at h
      exact h
theorem next_good (l last : List UInt8) (dot : Bool) (p : Nat) (hp : p ≤ l.length) (hc : calm l) : (next l last dot p).good l.length := by
  have hw := lead_within (l.drop p).length p (l.drop p) [] (Nat.le_refl _)
  rw [List.length_drop, show p + (l.length - p) = l.length from by omega] at hw
  unfold next
  cases hl : lead p (l.drop p) [] with
  | err cs q => rw [hl] at hw; exact ⟨hw, Nat.le_refl _⟩
  | ok cs sp n =>
    rw [hl] at hw
    have hw : n ≤ l.length := hw
    have h := anyTok_good dot last (l.drop n) (hc.drop n)
    rw [List.length_drop] at h
    cases ht : anyTok dot last (l.drop n) with
    | ok t =>
      rw [ht] at h
      have h : t.len ≤ l.length - n := h
      simp only [ht]
      show n + t.len ≤ l.length
      omega
    | err a b =>
      rw [ht] at h
      have h : a ≤ b ∧ b ≤ l.length - n := h
      simp only [ht]
      show n + a ≤ n + b ∧ n + b ≤ l.length
      omega
end Go.Proofs.YtcelnnjjakiehaaGreatDoor
namespace Go.Proofs.YtcelnnjjakiehaaGreatDoor
set_option linter.unusedVariables false
set_option maxRecDepth 20000
set_option maxHeartbeats 1000000

/-- a token that was read lies in the text -/
def Rs.fits (n : Nat) : Rs → Prop
  | .ok t => t.len ≤ n
  | .err _ _ => True
theorem Rs.good.fits {n : Nat} {rs : Rs} (h : rs.good n) : rs.fits n := by
  cases rs with
  | ok t => exact h
  | err p e => trivial
theorem qtok_fits (q : List UInt8) (raw uni ident : Bool) (kind : List UInt8) (off : Nat) (r : List UInt8) (ho : off ≤ r.length) : (qtok q raw uni ident kind off r).fits r.length := by
  unfold qtok
  cases hh : qrun q raw uni ident (r.drop off) q.length [] with
  | ok t n =>
    have h := qrun_len q raw uni ident (r.drop off) (r.drop off).length q.length [] t n (by omega) hh
    rw [List.length_drop] at h
    show off + n ≤ r.length
    omega
  | err p e => trivial
theorem tok_fits (last r : List UInt8) : (tok last r).fits r.length := by
  unfold tok
  split
  · exact Nat.zero_le _
  · next hr0 =>
    have hl : 0 < r.length := List.length_pos_iff.2 hr0
    split
    · exact hl
    · split
      · next h46 =>
        unfold dotTok
        split
        · exact (number_good r hl (.inr h46)).fits
        · exact hl
      · split
        · have two : ∀ (l : List UInt8) (c : UInt8), (twoSym r c l).fits r.length := by
            intro l c
            induction l with
            | nil => exact hl
            | cons d t ih =>
              unfold twoSym
              split
              · next hd => exact len_two hd
              · exact ih
          exact two _ _
        · split
          · unfold atTok
            split
            · next hd => exact len_two hd
            · split
              · next h1 =>
                have := wordLen_le (r.drop 1)
                rw [List.length_drop] at this
                show 1 + wordLen (r.drop 1) ≤ r.length
                omega
              · exact hl
          · split
            · exact qtok_fits _ _ _ _ _ 0 r (Nat.zero_le _)
            · split
              · next hd => exact (number_good r hl (.inl hd)).fits
              · unfold restTok
                split
                · next i by_ raw hp =>
                  have h := pfx_at r 3 0 false false i by_ raw hp
                  exact qtok_fits _ _ _ _ _ i r (by omega)
                · split
                  · unfold wordTok
                    split
                    · exact wordLen_le r
                    · exact wordLen_le r
                  · trivial
theorem anyTok_fits (dot : Bool) (last r : List UInt8) : (anyTok dot last r).fits r.length := by
  unfold anyTok
  split
  · unfold ftok
    split
    · exact wordLen_le r
    · exact tok_fits last r
  · exact tok_fits last r
/-- the bytes of comments and of the blanks ahead of them -/
def cmText : List Cm → List UInt8
  | [] => []
  | c :: t => c.space ++ c.raw ++ cmText t
theorem cmText_append (a b : List Cm) : cmText (a ++ b) = cmText a ++ cmText b := by
  induction a with
  | nil => rfl
  | cons c t ih => show c.space ++ c.raw ++ cmText (t ++ b) = _; rw [ih]; simp [cmText]
def tkText (t : TkF) : List UInt8 := cmText t.coms ++ t.space ++ t.raw
theorem lead_text : ∀ (k p : Nat) (r : List UInt8) (acc cs : List Cm) (sp : List UInt8) (n : Nat), r.length ≤ k → lead p r acc = .ok cs sp n → p ≤ n ∧ n ≤ p + r.length ∧ cmText cs ++ sp = cmText acc ++ r.take (n - p) := by
  intro k
  induction k with
  | zero =>
    intro p r acc cs sp n hk h
    have hr : r = [] := List.eq_nil_of_length_eq_zero (by omega)
    subst hr
    have hs : spLen [] = 0 := spLen_stop [] rfl
    rw [lead_no p [] acc (by rw [hs]; rfl), hs] at h
    cases h
    exact ⟨by omega, by simp, by simp⟩
  | succ k ih =>
    intro p r acc cs sp n hk h
    have hs := spLen_le r
    cases hcm : comment (r.drop (spLen r)) with
    | no =>
      rw [lead_no p r acc hcm] at h
      cases h
      exact ⟨by omega, by omega, by rw [show p + spLen r - p = spLen r from by omega]⟩
    | open_ => rw [lead_open p r acc hcm] at h; cases h
    | closed m =>
      have hc := comment_le _ _ hcm
      rw [List.length_drop] at hc
      rw [lead_closed p r acc m hcm] at h
      obtain ⟨h1, h2, h3⟩ := ih _ _ _ _ _ _ (by rw [List.length_drop]; omega) h
      rw [List.length_drop] at h2
      refine ⟨by omega, by omega, ?_⟩
      rw [h3, cmText_append, List.append_assoc]
      congr 1
      show (r.take (spLen r) ++ (r.drop (spLen r)).take m ++ []) ++ (r.drop (spLen r + m)).take (n - (p + spLen r + m)) = r.take (n - p)
      rw [List.append_nil]
      have e1 : n - p = spLen r + m + (n - (p + spLen r + m)) := by omega
      rw [e1, List.take_add, List.take_add]
theorem next_text (l last : List UInt8) (dot : Bool) (p : Nat) (t : TkF) (d : Bool) (hp : p ≤ l.length) (h : next l last dot p = .ok t d) :
    p ≤ t.pos ∧ t.pos + t.raw.length = t.fin ∧ t.fin ≤ l.length ∧ tkText t = (l.drop p).take (t.fin - p) := by
  unfold next at h
  cases hl : lead p (l.drop p) [] with
  | err cs q => rw [hl] at h; cases h
  | ok cs sp n =>
    rw [hl] at h
    obtain ⟨h1, h2, h3⟩ := lead_text (l.drop p).length p (l.drop p) [] cs sp n (Nat.le_refl _) hl
    rw [List.length_drop] at h2
    have hf := anyTok_fits dot last (l.drop n)
    cases ht : anyTok dot last (l.drop n) with
    | err a b => simp only [ht] at h; cases h
    | ok t2 =>
      simp only [ht] at h
      rw [ht] at hf
      have hf : t2.len ≤ (l.drop n).length := hf
      cases h
      have hlen : ((l.drop n).take t2.len).length = t2.len := by rw [List.length_take]; omega
      rw [List.length_drop] at hf
      refine ⟨h1, ?_, ?_, ?_⟩
      · show n + ((l.drop n).take t2.len).length = n + t2.len
        rw [hlen]
      · show n + t2.len ≤ l.length
        omega
      · show cmText cs ++ sp ++ (l.drop n).take t2.len = (l.drop p).take (n + t2.len - p)
        rw [h3]
        show [] ++ (l.drop p).take (n - p) ++ (l.drop n).take t2.len = _
        rw [List.nil_append, show n + t2.len - p = (n - p) + t2.len from by omega, List.take_add, List.drop_drop, show p + (n - p) = n from by omega]
/-- the tokens of a text from a place on, up to the last one; or those ahead of the first fault, and where it is -/
def lexRun (l : List UInt8) : Nat → List UInt8 → Bool → Nat → List TkF × Option Nat
  | 0, _, _, _ => ([], none)
  | k + 1, last, dot, p => match next l last dot p with
    | .err q _ => ([], some q)
    | .ok t d => if t.kind = kEof then ([t], none) else (t :: (lexRun l k t.kind d t.fin).1, (lexRun l k t.kind d t.fin).2)
def wholeT : List TkF → List UInt8
  | [] => []
  | t :: r => tkText t ++ wholeT r
/-- a token that is none of the end -/
def Rs.real : Rs → Prop
  | .ok t => t.kind ≠ kEof ∧ 0 < t.len
  | .err _ _ => True
theorem qtok_real (q : List UInt8) (raw uni ident : Bool) (kind : List UInt8) (off : Nat) (r : List UInt8) (hk : kind ≠ kEof) (hq : 0 < q.length) : (qtok q raw uni ident kind off r).real := by
  unfold qtok
  cases hh : qrun q raw uni ident (r.drop off) q.length [] with
  | ok t n =>
    have h := qrun_len q raw uni ident (r.drop off) (r.drop off).length q.length [] t n (by omega) hh
    exact ⟨hk, by show 0 < off + n; omega⟩
  | err p e => trivial
theorem number_real (r : List UInt8) (hl : 0 < r.length) (h0 : dig (byteAt r 0) = true ∨ byteAt r 0 = 46) : (number false r).real := by
  have h := number_len r hl h0
  unfold number
  simp only
  split
  · trivial
  · refine ⟨?_, h.1⟩
    show (if (numEnd r).2 then kInt else kFloat) ≠ kEof
    split <;> decide
theorem short_real (c : List UInt8) (hc : c.length = 1 ∨ c.length = 2) : c ≠ kEof := by
  intro e
  rw [e] at hc
  rcases hc with h | h <;> exact absurd h (by decide)
theorem tok_real (last r : List UInt8) (hr0 : r ≠ []) : (tok last r).real := by
  have hl : 0 < r.length := List.length_pos_iff.2 hr0
  unfold tok
  rw [if_neg hr0]
  split
  · exact ⟨short_real _ (.inl rfl), by show 0 < 1; omega⟩
  · split
    · next h46 =>
      unfold dotTok
      split
      · exact number_real r hl (.inr h46)
      · exact ⟨by show ([46] : List UInt8) ≠ kEof; decide, by show 0 < 1; omega⟩
    · split
      · have two : ∀ (l : List UInt8) (c : UInt8), (twoSym r c l).real := by
          intro l c
          induction l with
          | nil => exact ⟨short_real _ (.inl rfl), by show 0 < 1; omega⟩
          | cons d t ih =>
            unfold twoSym
            split
            · exact ⟨short_real _ (.inr rfl), by show 0 < 2; omega⟩
            · exact ih
        exact two _ _
      · split
        · unfold atTok
          split
          · exact ⟨short_real _ (.inr rfl), by show 0 < 2; omega⟩
          · split
            · exact ⟨by show kParam ≠ kEof; decide, by show 0 < 1 + wordLen (r.drop 1); omega⟩
            · exact ⟨short_real _ (.inl rfl), by show 0 < 1; omega⟩
        · split
          · exact qtok_real _ _ _ _ _ 0 r (by decide) (by decide)
          · split
            · next hd => exact number_real r hl (.inl hd)
            · unfold restTok
              split
              · next i by_ raw hp =>
                have hd := delim_len (r.drop i)
                rw [delim_drop0] at hd
                refine qtok_real _ _ _ _ _ i r ?_ (by omega)
                split <;> decide
              · split
                · next hst =>
                  have hw := wordLen_pos r hl hst
                  unfold wordTok
                  split
                  · next hk =>
                    refine ⟨?_, hw⟩
                    intro e
                    have e : upL (r.take (wordLen r)) = kEof := e
                    rw [e] at hk
                    exact absurd hk (by decide)
                  · exact ⟨by show kIdent ≠ kEof; decide, hw⟩
                · trivial
theorem anyTok_real (dot : Bool) (last r : List UInt8) (hr0 : r ≠ []) : (anyTok dot last r).real := by
  unfold anyTok
  split
  · unfold ftok
    split
    · next h =>
      refine ⟨by show kIdent ≠ kEof; decide, ?_⟩
      cases r with
      | nil => exact absurd rfl hr0
      | cons c t =>
        show 0 < wordLen (c :: t)
        unfold wordLen
        rw [List.takeWhile_cons, if_pos (by exact h.2)]
        simp
    · exact tok_real last r hr0
  · exact tok_real last r hr0
theorem anyTok_nil (dot : Bool) (last : List UInt8) : anyTok dot last [] = .ok ⟨kEof, [], 0, 0, none⟩ := by
  have h : tok last [] = .ok ⟨kEof, [], 0, 0, none⟩ := by unfold tok; rw [if_pos rfl]
  unfold anyTok ftok
  rw [h]
  split
  · rw [if_neg (by simp)]
  · rfl
/-- a token is the last one exactly if it stands at the text's end; any other has bytes -/
theorem next_real (l last : List UInt8) (dot : Bool) (p : Nat) (t : TkF) (d : Bool) (hp : p ≤ l.length) (h : next l last dot p = .ok t d) :
    (t.kind = kEof → t.fin = l.length ∧ t.pos = l.length ∧ t.raw = []) ∧ (t.kind ≠ kEof → p < t.fin) := by
  have h0 := next_text l last dot p t d hp h
  unfold next at h
  cases hl : lead p (l.drop p) [] with
  | err cs q => rw [hl] at h; cases h
  | ok cs sp n =>
    rw [hl] at h
    have h2 := lead_text (l.drop p).length p (l.drop p) [] cs sp n (Nat.le_refl _) hl
    rw [List.length_drop] at h2
    by_cases hr : l.drop n = []
    · have hn : n = l.length := by
        have := congrArg List.length hr
        rw [List.length_drop] at this
        simp at this
        omega
      simp only [hr, anyTok_nil] at h
      cases h
      exact ⟨fun _ => ⟨by show n + 0 = l.length; omega, hn, rfl⟩, fun hk => absurd rfl hk⟩
    · have hre := anyTok_real dot last (l.drop n) hr
      cases ht : anyTok dot last (l.drop n) with
      | err a b => simp only [ht] at h; cases h
      | ok t2 =>
        simp only [ht] at h
        rw [ht] at hre
        cases h
        refine ⟨fun hk => absurd hk hre.1, fun _ => ?_⟩
        have := hre.2
        show p < n + t2.len
        omega
/-- the law of FnLexKeeps: the tokens have all bytes of the text; ahead of a fault they have those of its beginning -/
theorem lexRun_whole (l : List UInt8) : ∀ (k : Nat) (last : List UInt8) (dot : Bool) (p : Nat), p ≤ l.length → l.length - p < k →
    ∃ e, p ≤ e ∧ e ≤ l.length ∧ wholeT (lexRun l k last dot p).1 = (l.drop p).take (e - p) ∧ ((lexRun l k last dot p).2 = none → e = l.length) := by
  intro k
  induction k with
  | zero => intro last dot p hp hk; omega
  | succ k ih =>
    intro last dot p hp hk
    unfold lexRun
    cases hn : next l last dot p with
    | err q e => exact ⟨p, Nat.le_refl _, hp, by simp [wholeT], fun h => by cases h⟩
    | ok t d =>
      have h1 := next_text l last dot p t d hp hn
      have h2 := next_real l last dot p t d hp hn
      simp only
      split
      · next hk2 =>
        refine ⟨t.fin, by omega, h1.2.2.1, ?_, fun _ => (h2.1 hk2).1⟩
        show tkText t ++ [] = _
        rw [List.append_nil]; exact h1.2.2.2
      · next hk2 =>
        have h3 := h2.2 hk2
        obtain ⟨e, e1, e2, e3, e4⟩ := ih t.kind d t.fin h1.2.2.1 (by omega)
        refine ⟨e, by omega, e2, ?_, e4⟩
        show tkText t ++ wholeT (lexRun l k t.kind d t.fin).1 = _
        rw [e3, h1.2.2.2, show e - p = (t.fin - p) + (e - t.fin) from by omega, List.take_add, List.drop_drop, show p + (t.fin - p) = t.fin from by omega]
/-- all tokens of a text, and where the first fault is -/
def lexAll (l : List UInt8) : List TkF × Option Nat := lexRun l (l.length + 1) [] false 0
end Go.Proofs.YtcelnnjjakiehaaGreatDoor
