/-
  The plain laws of FnLexGaps, FnLexSettles and FnSplitTokens: a token's reading by itself, with other blanks and comments around it, and in a part of the text.
-/
import Derived.Test.YtcelnnjjakiehaaGreatDoorPlaw
namespace Go.Proofs.YtcelnnjjakiehaaGreatDoor
set_option linter.unusedVariables false
set_option maxRecDepth 20000
set_option maxHeartbeats 1000000

theorem spOne_of_spLen (r : List UInt8) (h : spLen r = 0) : spOne r = 0 := by
  rcases Nat.eq_zero_or_pos (spOne r) with h0 | h0
  · exact h0
  · have := spLen_step r (by omega)
    omega
theorem seconds_high (c : Int) (h : 128 ≤ c) : seconds c = [] := by
  unfold seconds
  repeat rw [if_neg (by omega)]
theorem pfx_low (r : List UInt8) (x : Nat × Bool × Bool) (h : pfx r 3 0 false false = some x) : byteAt r 0 < 128 := by
  unfold pfx at h
  split at h
  · next hl =>
    simp only [isAt_in r 0 _ hl] at h
    split at h
    · next c => simp at c; omega
    · split at h
      · next c => simp at c; omega
      · split at h
        · next c => simp at c; omega
        · cases h
  · cases h
/-- a token begins with a byte below 128 -/
theorem tok_low (last r : List UInt8) {t : Tk} (h : tok last r = .ok t) (hr : r ≠ []) : byteAt r 0 < 128 := by
  unfold tok at h
  rw [if_neg hr] at h
  split at h
  · next c =>
    unfold oneSym at c
    rw [List.contains_iff_mem] at c
    simp only [List.mem_cons, List.not_mem_nil, or_false] at c
    omega
  · split at h
    · omega
    · split at h
      · next c =>
        rcases Int.lt_or_le (byteAt r 0) 128 with h9 | h9
        · exact h9
        · exact absurd (seconds_high _ h9) c
      · split at h
        · omega
        · split at h
          · omega
          · split at h
            · next c => unfold dig at c; simp at c; omega
            · unfold restTok at h
              split at h
              · next hp => exact pfx_low r _ hp
              · split at h
                · next c => unfold idStart at c; simp at c; omega
                · cases h
theorem anyTok_low (dot : Bool) (last r : List UInt8) {t : Tk} (h : anyTok dot last r = .ok t) (hr : r ≠ []) : byteAt r 0 < 128 := by
  unfold anyTok at h
  split at h
  · unfold ftok at h
    split at h
    · next c => have c := c.2; unfold idPart at c; simp at c; omega
    · exact tok_low last r h hr
  · exact tok_low last r h hr
theorem tok_last (a b r : List UInt8) (h : nextDot a = nextDot b ∨ byteAt r 0 ≠ 46) : tok a r = tok b r := by
  unfold tok
  by_cases c0 : r = []
  · rw [if_pos c0, if_pos c0]
  rw [if_neg c0, if_neg c0]
  by_cases c1 : oneSym (byteAt r 0) = true
  · rw [if_pos c1, if_pos c1]
  rw [if_neg c1, if_neg c1]
  by_cases c2 : byteAt r 0 = 46
  · rw [if_pos c2, if_pos c2]
    rcases h with h | h
    · unfold dotTok; rw [h]
    · exact absurd c2 h
  rw [if_neg c2, if_neg c2]
theorem anyTok_last (dot : Bool) (a b r : List UInt8) (h : nextDot a = nextDot b ∨ byteAt r 0 ≠ 46) : anyTok dot a r = anyTok dot b r := by
  unfold anyTok ftok
  rw [tok_last a b r h]
theorem twoSym_dot (r : List UInt8) (c : UInt8) {t : Tk} : ∀ l : List UInt8, twoSym r c l = .ok t → t.dot = none := by
  intro l
  induction l with
  | nil => intro h; cases h; rfl
  | cons d l ih =>
    intro h
    unfold twoSym at h
    split at h
    · cases h; rfl
    · exact ih h
theorem qtok_dot (q : List UInt8) (raw uni ident : Bool) (kind : List UInt8) (off : Nat) (r : List UInt8) {t : Tk} (h : qtok q raw uni ident kind off r = .ok t) : t.dot = none := by
  unfold qtok at h
  split at h
  · cases h; rfl
  · cases h
theorem number_dot (r : List UInt8) {t : Tk} (h : number false r = .ok t) : t.dot = none := by
  unfold number at h
  simp only at h
  split at h
  · cases h
  · cases h; rfl
/-- behind a token that begins with no point, no field's name may follow -/
theorem tok_dot (last r : List UInt8) {t : Tk} (h : tok last r = .ok t) (h46 : byteAt r 0 ≠ 46) : t.dot = none := by
  unfold tok at h
  split at h
  · cases h; rfl
  · split at h
    · cases h; rfl
    · split at h
      · exact twoSym_dot _ _ _ h
      · split at h
        · unfold atTok at h
          split at h
          · cases h; rfl
          · split at h
            · cases h; rfl
            · cases h; rfl
        · split at h
          · exact qtok_dot _ _ _ _ _ _ _ h
          · split at h
            · exact number_dot _ h
            · unfold restTok at h
              split at h
              · exact qtok_dot _ _ _ _ _ _ _ h
              · split at h
                · unfold wordTok at h
                  split at h
                  · cases h; rfl
                  · cases h; rfl
                · cases h
/-- what a token is, but for its place and what stands ahead of it -/
def TkF.key (t : TkF) : List UInt8 × List UInt8 × List UInt8 × Int := (t.kind, t.raw, t.text, t.base)
/-- a token that is a point or begins with one -/
def fieldT (t : TkF) : Bool := decide (t.kind = [46]) || [46].isPrefixOf t.raw
theorem next_ok {l last : List UInt8} {dot : Bool} {p : Nat} {t : TkF} {d : Bool} (h : next l last dot p = .ok t d) :
    ∃ cs sp n tk, lead p (l.drop p) [] = .ok cs sp n ∧ anyTok dot last (l.drop n) = .ok tk ∧ t = ⟨tk.kind, cs, sp, (l.drop n).take tk.len, tk.text, tk.base, n, n + tk.len⟩ ∧ d = (!dot && tk.dot.getD false) := by
  unfold next at h
  cases hl : lead p (l.drop p) [] with
  | err cs q => rw [hl] at h; cases h
  | ok cs sp n =>
    rw [hl] at h
    cases ht : anyTok dot last (l.drop n) with
    | err a b => simp only [ht] at h; cases h
    | ok tk =>
      simp only [ht] at h
      cases h
      exact ⟨cs, sp, n, tk, rfl, ht, rfl, rfl⟩
theorem next_mk {l last : List UInt8} {dot : Bool} {p : Nat} {cs : List Cm} {sp : List UInt8} {n : Nat} {tk : Tk} (h1 : lead p (l.drop p) [] = .ok cs sp n) (h2 : anyTok dot last (l.drop n) = .ok tk) :
    next l last dot p = .ok ⟨tk.kind, cs, sp, (l.drop n).take tk.len, tk.text, tk.base, n, n + tk.len⟩ (!dot && tk.dot.getD false) := by
  unfold next
  rw [h1]
  simp only [h2]
theorem not_blank (r : List UInt8) (hr : r ≠ []) (h : spOne r = 0) (h1 : byteAt r 0 < 128) : ¬ ((9 ≤ byteAt r 0 ∧ byteAt r 0 ≤ 13) ∨ byteAt r 0 = 32) := by
  cases r with
  | nil => exact absurd rfl hr
  | cons c t =>
    have e : byteAt (c :: t) 0 = (c.toNat : Int) := rfl
    rw [e] at h1 ⊢
    rw [spOne_low c t (by omega)] at h
    intro hh
    rw [if_pos (by omega)] at h
    cases h
/-- no comment begins where a token begins, in the other text neither -/
theorem comment_no {n : Nat} {r r' : List UInt8} (hA : Agree n r r') (h0 : 0 < n) (h : comment r = .no) : comment r' = .no := by
  have h1 := hA.le; have h2 := hA.le'
  have hx : ∀ k : Int, ¬ endB k → isAt r' 1 k = true → isAt r 1 k = true := by
    intro k hk hi
    rcases Nat.lt_or_ge 1 n with hn | hn
    · rw [← hA.is 1 hn]; exact hi
    · have e : n = 1 := by omega
      subst e
      rcases hA.isEnd with hf | hf
      · rw [hf k hk] at hi; cases hi
      · rw [← hf]; exact hi
  cases r with
  | nil => simp at h1; omega
  | cons c t =>
    cases r' with
    | nil => rfl
    | cons c' t' =>
      have e : c' = c := by
        have := hA.get 0 h0
        simp at this
        exact this.symm
      subst e
      unfold comment at h ⊢
      simp only at h ⊢
      by_cases c1 : c' = 35
      · rw [if_pos c1] at h; cases h
      rw [if_neg c1] at h ⊢
      by_cases c2 : c' = 45 ∧ isAt (c' :: t') 1 45 = true
      · rw [if_pos ⟨c2.1, hx 45 (by unfold endB; omega) c2.2⟩] at h; cases h
      rw [if_neg c2]
      by_cases c2' : c' = 45 ∧ isAt (c' :: t) 1 45 = true
      · rw [if_pos c2'] at h; cases h
      rw [if_neg c2'] at h
      by_cases c3 : c' = 47 ∧ isAt (c' :: t') 1 42 = true
      · rw [if_pos ⟨c3.1, hx 42 (by unfold endB; omega) c3.2⟩] at h
        unfold blockCom at h
        split at h <;> cases h
      rw [if_neg c3]
/-- where a token begins in one text, it begins in the other one too -/
theorem head_agree {dot : Bool} {last r r' : List UInt8} {tk : Tk} (hA : Agree tk.len r r') (h0 : 0 < tk.len) (ht : anyTok dot last r = .ok tk) (h1 : spLen r = 0) (h2 : comment r = .no) : spLen r' = 0 ∧ comment r' = .no := by
  have hl := hA.le; have hl' := hA.le'
  have hr : r ≠ [] := fun e => by subst e; simp at hl; omega
  have hlow := anyTok_low dot last r ht hr
  have hnb := not_blank r hr (spOne_of_spLen r h1) hlow
  have hb := hA.byte 0 h0
  exact ⟨spLen_stop _ (spOne_byte _ (by omega) (by omega) (by omega)), comment_no hA h0 h2⟩
theorem anyTok_eof {dot : Bool} {last r : List UInt8} {tk : Tk} (h : anyTok dot last r = .ok tk) (hk : tk.kind ≠ kEof) : r ≠ [] ∧ 0 < tk.len := by
  have hr : r ≠ [] := by
    intro e
    subst e
    rw [anyTok_nil] at h
    cases h
    exact hk rfl
  have := anyTok_real dot last r hr
  rw [h] at this
  exact ⟨hr, this.2⟩
theorem anyTok_isEof {dot : Bool} {last r : List UInt8} {tk : Tk} (h : anyTok dot last r = .ok tk) (hk : tk.kind = kEof) : r = [] := by
  by_cases hr : r = []
  · exact hr
  · have := anyTok_real dot last r hr
    rw [h] at this
    exact absurd hk this.1

/-- blanks and comments between tokens: they end where they end, whatever token follows -/
structure Gap (g : List UInt8) : Prop where
  ends : 0 < g.length → endB (byteAt g 0)
  over : ∀ (x : List UInt8) (p : Nat), spLen x = 0 → comment x = .no → ∃ cs sp, lead p (g ++ x) [] = .ok cs sp (p + g.length)
theorem Gap.nil : Gap [] := ⟨fun h => by simp at h, fun x p h1 h2 => ⟨[], [], by rw [List.nil_append, lead_no p x [] (by rw [h1]; exact h2), h1]; rfl⟩⟩
/-- a blank -/
def blk (c : UInt8) : Prop := (9 ≤ c.toNat ∧ c.toNat ≤ 13) ∨ c.toNat = 32
theorem spLen_blks (b x : List UInt8) (hb : ∀ c ∈ b, blk c) : spLen (b ++ x) = b.length + spLen x := by
  induction b with
  | nil => simp
  | cons c b ih =>
    have h1 := hb c (by simp)
    have h2 : spOne (c :: (b ++ x)) = 1 := by
      unfold blk at h1
      rw [spOne_low c (b ++ x) (by omega), if_pos h1]
    have h3 := spLen_step (c :: (b ++ x)) (by omega)
    rw [h2] at h3
    rw [List.cons_append, h3, List.length_cons]
    have := ih (fun c hc => hb c (by simp [hc]))
    show 1 + spLen (b ++ x) = _
    omega
theorem lead_blks (b x : List UInt8) (hb : ∀ c ∈ b, blk c) (p : Nat) (acc : List Cm) (h1 : spLen x = 0) (h2 : comment x = .no) : lead p (b ++ x) acc = .ok acc ((b ++ x).take b.length) (p + b.length) := by
  have h := spLen_blks b x hb
  rw [h1, Nat.add_zero] at h
  rw [lead_no p _ acc (by rw [h, List.drop_left]; exact h2), h]
theorem Gap.blks (b : List UInt8) (hb : ∀ c ∈ b, blk c) (he : 0 < b.length → endB (byteAt b 0)) : Gap b :=
  ⟨he, fun x p h1 h2 => ⟨_, _, lead_blks b x hb p [] h1 h2⟩⟩
theorem Gap.com (a c b : List UInt8) (ha : ∀ y ∈ a, blk y) (hb : ∀ y ∈ b, blk y) (hc : ∀ x, spLen (c ++ x) = 0 ∧ comment (c ++ x) = .closed c.length) (he : 0 < (a ++ c ++ b).length → endB (byteAt (a ++ c ++ b) 0)) : Gap (a ++ c ++ b) := by
  refine ⟨he, fun x p h1 h2 => ?_⟩
  have hs := spLen_blks a (c ++ (b ++ x)) ha
  rw [(hc _).1, Nat.add_zero] at hs
  have hcm : comment ((a ++ (c ++ (b ++ x))).drop (spLen (a ++ (c ++ (b ++ x))))) = .closed c.length := by rw [hs, List.drop_left]; exact (hc _).2
  have hd : (a ++ (c ++ (b ++ x))).drop (a.length + c.length) = b ++ x := by rw [← List.drop_drop, List.drop_left, List.drop_left]
  have h9 := lead_closed p _ [] _ hcm
  rw [hs, hd, lead_blks b x hb _ _ h1 h2, show p + a.length + c.length + b.length = p + (a ++ c ++ b).length from by simp only [List.length_append]; omega] at h9
  rw [show a ++ c ++ b ++ x = a ++ (c ++ (b ++ x)) from by simp]
  exact ⟨_, _, h9⟩
/-- the raw texts of tokens with gaps ahead of them -/
def apartG (g : Nat → List UInt8) : Nat → List TkF → List UInt8
  | _, [] => []
  | i, t :: r => g i ++ (t.raw ++ apartG g (i + 1) r)
/-- THE LAW OF FnLexGaps -/
theorem gaps_law (l : List UInt8) (g : Nat → List UInt8) (hg : ∀ i, Gap (g i)) (hgn : ∀ i, 0 < i → 0 < (g i).length) : ∀ (k : Nat) (last : List UInt8) (p : Nat) (T : List TkF) (i : Nat) (l' last' : List UInt8) (k' p' : Nat),
    p ≤ l.length → l.length - p < k → lexRun l k last false p = (T, none) → T.any fieldT = false → p' ≤ l'.length → l'.drop p' = apartG g i T → l'.length - p' < k' →
    ∃ T', lexRun l' k' last' false p' = (T', none) ∧ T'.map TkF.key = T.map TkF.key := by
  intro k
  induction k with
  | zero => intro last p T i l' last' k' p' _ h; omega
  | succ k ih =>
    intro last p T i l' last' k' p' hp hk hrun hf hp' hl' hk'
    obtain ⟨k', rfl⟩ : ∃ j, k' = j + 1 := ⟨k' - 1, by omega⟩
    have hlen' := congrArg List.length hl'
    rw [List.length_drop] at hlen'
    unfold lexRun at hrun
    cases hn : next l last false p with
    | err q e => rw [hn] at hrun; cases hrun
    | ok t d =>
      have h1 := next_text l last false p t d hp hn
      have h2 := next_real l last false p t d hp hn
      rw [hn] at hrun
      simp only at hrun
      obtain ⟨cs, sp, n, tk, hlead, htok, ht, hd⟩ := next_ok hn
      obtain ⟨hh1, hh2⟩ := lead_head (l.drop p).length _ _ _ _ _ _ (Nat.le_refl _) hlead
      have htx := lead_text (l.drop p).length _ _ _ _ _ _ (Nat.le_refl _) hlead
      rw [List.drop_drop, show p + (n - p) = n from by omega] at hh1 hh2
      by_cases hke : t.kind = kEof
      · rw [if_pos hke] at hrun
        obtain rfl : [t] = T := congrArg Prod.fst hrun
        have hraw := (h2.1 hke).2.2
        have hx : l'.drop p' = g i := by rw [hl']; simp [apartG, hraw]
        obtain ⟨cs', sp', hl2⟩ := (hg i).over [] p' (spLen_stop [] rfl) rfl
        rw [List.append_nil, ← hx, List.length_drop, show p' + (l'.length - p') = l'.length from by omega] at hl2
        have hnx := next_mk (last := last') (dot := false) hl2 (tk := ⟨kEof, [], 0, 0, none⟩) (by rw [List.drop_length]; exact anyTok_nil _ _)
        refine ⟨[⟨kEof, cs', sp', [], [], 0, l'.length, l'.length⟩], ?_, ?_⟩
        · unfold lexRun
          rw [hnx]
          simp
        · have hr := anyTok_isEof htok (by rw [ht] at hke; exact hke)
          rw [hr, anyTok_nil] at htok
          cases htok
          rw [ht]
          simp [TkF.key]
      · have h3 := h2.2 hke
        rw [if_neg hke] at hrun
        obtain ⟨T2, hT2⟩ : ∃ T2, (lexRun l k t.kind d t.fin).1 = T2 := ⟨_, rfl⟩
        have hnone : (lexRun l k t.kind d t.fin).2 = none := congrArg Prod.snd hrun
        rw [hT2] at hrun
        obtain rfl : t :: T2 = T := congrArg Prod.fst hrun
        rw [List.any_cons, Bool.or_eq_false_iff] at hf
        have hreal := anyTok_eof htok (by rw [ht] at hke; exact hke)
        have hfits := anyTok_fits false last (l.drop n)
        rw [htok] at hfits
        have hfits : tk.len ≤ (l.drop n).length := hfits
        have hraw : t.raw = (l.drop n).take tk.len := by rw [ht]
        have hrl : t.raw.length = tk.len := by rw [hraw, List.length_take]; omega
        have h46 : byteAt (l.drop n) 0 ≠ 46 := by
          intro e
          have h9 := hf.1
          unfold fieldT at h9
          rw [Bool.or_eq_false_iff, hraw] at h9
          cases hx : l.drop n with
          | nil => exact hreal.1 hx
          | cons c r =>
            rw [hx] at e h9
            have hc : c = 46 := by
              rw [← UInt8.toNat_inj]
              have e : (c.toNat : Int) = 46 := e
              show _ = 46
              omega
            obtain ⟨m, hm⟩ : ∃ m, tk.len = m + 1 := ⟨tk.len - 1, by omega⟩
            rw [hm, hc] at h9
            simp [List.isPrefixOf] at h9
        have hdn : d = false := by
          have : tk.dot = none := tok_dot last (l.drop n) (by unfold anyTok at htok; rw [if_neg (by decide)] at htok; exact htok) h46
          rw [hd, this]; rfl
        subst hdn
        obtain ⟨Ta, e, hTa, _⟩ := lexRun_last l k t.kind false t.fin h1.2.2.1 (by omega) hnone
        rw [hT2] at hTa
        obtain ⟨u, R, hu⟩ : ∃ u R, T2 = u :: R := by
          cases T2 with
          | nil => have := congrArg List.length hTa; simp at this
          | cons u R => exact ⟨u, R, rfl⟩
        have hgp := hgn (i + 1) (by omega)
        have hA0 : apartG g (i + 1) T2 = g (i + 1) ++ (u.raw ++ apartG g (i + 2) R) := by rw [hu]; rfl
        have hend : endB (byteAt (apartG g (i + 1) T2) 0) := by
          have := (hg (i + 1)).ends hgp
          rw [hA0]
          unfold byteAt at this ⊢
          rw [List.getD_eq_getElem?_getD, List.getElem?_append_left hgp, ← List.getD_eq_getElem?_getD]
          exact this
        have hlA : l'.drop p' = g i ++ (t.raw ++ apartG g (i + 1) T2) := hl'
        generalize hAA : apartG g (i + 1) T2 = A at *
        have hagree : Agree tk.len (l.drop n) (t.raw ++ A) := by
          refine ⟨hfits, by rw [List.length_append]; omega, ?_, ?_⟩
          · rw [← hrl, List.take_left, hrl, hraw]
          · intro _
            left
            unfold byteAt at hend ⊢
            rw [List.getD_eq_getElem?_getD, List.getElem?_append_right (by omega), hrl, Nat.sub_self, ← List.getD_eq_getElem?_getD]
            exact hend
        have htok2 := anyTok_agree hagree hreal.2 false last htok rfl
        have h46' : byteAt (t.raw ++ A) 0 ≠ 46 := by rw [hagree.byte 0 hreal.2]; exact h46
        rw [anyTok_last false last last' _ (.inr h46')] at htok2
        obtain ⟨g1, g2⟩ := head_agree hagree hreal.2 htok hh1 hh2
        obtain ⟨cs', sp', hl2⟩ := (hg i).over _ p' g1 g2
        rw [← hlA] at hl2
        have hdr : l'.drop (p' + (g i).length) = t.raw ++ A := by rw [← List.drop_drop, hlA, List.drop_left]
        have hnx := next_mk (last := last') (dot := false) hl2 (tk := tk) (by rw [hdr]; exact htok2)
        have hdot : (!false && tk.dot.getD false) = false := hd.symm
        rw [hdr, hdot, ← hrl, List.take_left] at hnx
        have hdr2 : l'.drop (p' + (g i).length + t.raw.length) = A := by rw [← List.drop_drop, hdr, List.drop_left]
        have hlenA := congrArg List.length hdr2
        rw [List.length_drop] at hlenA
        have hlen3 := congrArg List.length hlA
        rw [List.length_drop, List.length_append, List.length_append] at hlen3
        have hkk : tk.kind = t.kind := by rw [ht]
        obtain ⟨T', e1, e2⟩ := ih t.kind t.fin T2 (i + 1) l' tk.kind k' (p' + (g i).length + t.raw.length) h1.2.2.1 (by omega) (Prod.ext hT2 hnone) hf.2 (by omega) (by rw [hdr2]; exact hAA.symm) (by omega)
        refine ⟨⟨tk.kind, cs', sp', t.raw, tk.text, tk.base, p' + (g i).length, p' + (g i).length + t.raw.length⟩ :: T', ?_, ?_⟩
        · unfold lexRun
          rw [hnx]
          simp only
          rw [if_neg (by rw [hkk]; exact hke), e1]
        · rw [List.map_cons, List.map_cons, e2]
          congr 1
          rw [ht]
          simp [TkF.key]
theorem raw_no46 {dot : Bool} {last r : List UInt8} {tk : Tk} (htok : anyTok dot last r = .ok tk) (hr : r ≠ []) (h0 : 0 < tk.len) {cs : List Cm} {sp : List UInt8} {n m : Nat} (hf : fieldT ⟨tk.kind, cs, sp, r.take tk.len, tk.text, tk.base, n, m⟩ = false) : byteAt r 0 ≠ 46 := by
  intro e
  unfold fieldT at hf
  rw [Bool.or_eq_false_iff] at hf
  have h9 := hf.2
  cases r with
  | nil => exact hr rfl
  | cons c r =>
    have hc : c = 46 := by
      rw [← UInt8.toNat_inj]
      have e : (c.toNat : Int) = 46 := e
      show _ = 46
      omega
    obtain ⟨m, hm⟩ : ∃ m, tk.len = m + 1 := ⟨tk.len - 1, by omega⟩
    simp only [hm, hc] at h9
    simp [List.isPrefixOf] at h9
/-- behind a token that begins with no point, no field's name may follow -/
theorem next_dot {l last : List UInt8} {p : Nat} {t : TkF} {d : Bool} (h : next l last false p = .ok t d) (hke : t.kind ≠ kEof) (hf : fieldT t = false) : d = false := by
  obtain ⟨cs, sp, n, tk, hlead, htok, ht, hd⟩ := next_ok h
  have hreal := anyTok_eof htok (by rw [ht] at hke; exact hke)
  have h46 := raw_no46 htok hreal.1 hreal.2 (by rw [ht] at hf; exact hf)
  have : tk.dot = none := tok_dot last (l.drop n) (by unfold anyTok at htok; rw [if_neg (by decide)] at htok; exact htok) h46
  rw [hd, this]; rfl
/-- each reading on the way, in a text without points -/
theorem lexRun_at (l : List UInt8) (k : Nat) : ∀ (j : Nat) (last : List UInt8) (p : Nat) (T : List TkF), p ≤ l.length → l.length - p < k → lexRun l k last false p = (T, none) → T.any fieldT = false → j < T.length →
    ∃ last' p', p' ≤ l.length ∧ l.length - p' < k ∧ lexRun l k last' false p' = (T.drop j, none) := by
  intro j
  induction j with
  | zero => intro last p T hp hk h _ _; exact ⟨last, p, hp, hk, h⟩
  | succ j ih =>
    intro last p T hp hk h hf hj
    have h0 := h
    obtain ⟨k', rfl⟩ : ∃ m, k = m + 1 := ⟨k - 1, by omega⟩
    unfold lexRun at h
    cases hn : next l last false p with
    | err q e => rw [hn] at h; cases h
    | ok t d =>
      have h1 := next_text l last false p t d hp hn
      have h2 := next_real l last false p t d hp hn
      rw [hn] at h
      simp only at h
      by_cases hke : t.kind = kEof
      · rw [if_pos hke] at h
        obtain rfl : [t] = T := congrArg Prod.fst h
        simp at hj
      · have h3 := h2.2 hke
        rw [if_neg hke] at h
        obtain ⟨T2, hT2⟩ : ∃ T2, (lexRun l k' t.kind d t.fin).1 = T2 := ⟨_, rfl⟩
        have hnone : (lexRun l k' t.kind d t.fin).2 = none := congrArg Prod.snd h
        rw [hT2] at h
        obtain rfl : t :: T2 = T := congrArg Prod.fst h
        rw [List.any_cons, Bool.or_eq_false_iff] at hf
        have hd : d = false := next_dot hn hke hf.1
        subst hd
        have hfu := lexRun_fuel l k' (k' + 1) t.kind false t.fin h1.2.2.1 (by omega) (by omega)
        exact ih t.kind t.fin T2 h1.2.2.1 (by omega) (by rw [← hfu]; exact Prod.ext hT2 hnone) hf.2 (by simpa using hj)
/-- THE LAW OF FnLexSettles: a token is read from its place as it was read, and from the text that begins there -/
theorem settle_law (l : List UInt8) (k : Nat) (last : List UInt8) (p : Nat) (t : TkF) (R : List TkF) (hp : p ≤ l.length) (hk : l.length - p < k) (h : lexRun l k last false p = (t :: R, none)) (hf : fieldT t = false) (hke : t.kind ≠ kEof) :
    t.pos ≤ l.length ∧ (∃ t0, next l [] false t.pos = .ok t0 false ∧ t0.key = t.key ∧ t0.pos = t.pos ∧ t0.fin = t.fin) ∧
    ∃ t1 R1, lexRun (l.drop t.pos) ((l.drop t.pos).length + 1) [] false 0 = (t1 :: R1, none) ∧ t1.key = t.key ∧ t1.pos = 0 := by
  obtain ⟨k', rfl⟩ : ∃ m, k = m + 1 := ⟨k - 1, by omega⟩
  unfold lexRun at h
  cases hn : next l last false p with
  | err q e => rw [hn] at h; cases h
  | ok t' d =>
    have h1 := next_text l last false p t' d hp hn
    have h2 := next_real l last false p t' d hp hn
    rw [hn] at h
    simp only at h
    by_cases hke' : t'.kind = kEof
    · rw [if_pos hke'] at h
      have h9 := congrArg Prod.fst h
      injection h9 with h9 _
      rw [h9] at hke'
      exact absurd hke' hke
    rw [if_neg hke'] at h
    have hnone : (lexRun l k' t'.kind d t'.fin).2 = none := congrArg Prod.snd h
    have h9 := congrArg Prod.fst h
    simp only at h9
    injection h9 with h9 h8
    subst h9
    have hd : d = false := next_dot hn hke hf
    subst hd
    obtain ⟨cs, sp, n, tk, hlead, htok, ht, _⟩ := next_ok hn
    have htx := lead_text (l.drop p).length _ _ _ _ _ _ (Nat.le_refl _) hlead
    have hat := lead_at p n (l.drop p) [] [] cs sp n hlead
    rw [List.drop_drop, show p + (n - p) = n from by omega] at hat
    have hpos : t'.pos = n := by rw [ht]
    have hreal := anyTok_eof htok (by rw [ht] at hke; exact hke)
    have h46 := raw_no46 htok hreal.1 hreal.2 (by rw [ht] at hf; exact hf)
    have htok2 := htok
    rw [anyTok_last false last [] _ (.inr h46)] at htok2
    have hnx := next_mk hat htok2
    have hdot : tk.dot = none := tok_dot last (l.drop n) (by unfold anyTok at htok; rw [if_neg (by decide)] at htok; exact htok) h46
    rw [hdot] at hnx
    change next l [] false n = .ok _ false at hnx
    have hnl : n ≤ l.length := by omega
    have hrun : lexRun l (l.length + 1) [] false n = (⟨tk.kind, [], [], (l.drop n).take tk.len, tk.text, tk.base, n, n + tk.len⟩ :: R, none) := by
      have hfu := lexRun_fuel l k' l.length tk.kind false (n + tk.len) (by rw [ht] at h1; exact h1.2.2.1) (by rw [ht] at h1; simp only at h1; omega) (by rw [ht] at h1; simp only at h1; omega)
      unfold lexRun
      rw [hnx]
      simp only
      rw [if_neg (by rw [ht] at hke; exact hke), ← hfu]
      rw [ht] at h8 hnone
      simp only at h8 hnone
      rw [h8, hnone]
    refine ⟨by omega, ⟨_, by rw [hpos]; exact hnx, by rw [ht]; rfl, by rw [ht], by rw [ht]⟩, ?_⟩
    have hsh := lexRun_shift l n hnl (l.length + 1) [] false 0
    rw [Nat.zero_add, hrun] at hsh
    have hx1 := congrArg Prod.fst hsh
    have hx2 := congrArg Prod.snd hsh
    simp only at hx1 hx2
    have hfu2 := lexRun_fuel (l.drop n) (l.length + 1) ((l.drop n).length + 1) [] false 0 (Nat.zero_le _) (by rw [List.length_drop]; omega) (by omega)
    rw [hpos, ← hfu2]
    have hx3 : (lexRun (l.drop n) (l.length + 1) [] false 0).2 = none := by
      cases hh : (lexRun (l.drop n) (l.length + 1) [] false 0).2 with
      | none => rfl
      | some v => rw [hh] at hx2; cases hx2
    obtain ⟨t1, R1, e1, e2, e3⟩ := List.map_eq_cons_iff.1 hx1.symm
    refine ⟨t1, R1, Prod.ext e1 hx3, ?_, ?_⟩
    · have := congrArg TkF.key e2
      rw [ht]
      exact this
    · have := congrArg TkF.pos e2
      have : t1.pos + n = n := this
      omega
end Go.Proofs.YtcelnnjjakiehaaGreatDoor
