/-
  The plain law of FnSplitTokens: the tokens of the statements, and the semicolons, are the tokens of the text.
-/
import Derived.Test.YtcelnnjjakiehaaGreatDoorPlaw2
namespace Go.Proofs.YtcelnnjjakiehaaGreatDoor
set_option linter.unusedVariables false
set_option maxRecDepth 20000
set_option maxHeartbeats 1000000

theorem next_lastEq (l a b : List UInt8) (dot : Bool) (p : Nat) (h : nextDot a = nextDot b) : next l a dot p = next l b dot p := by
  unfold next
  simp only [anyTok_last dot a b _ (.inl h)]
theorem lexRun_lastEq (l : List UInt8) (k : Nat) (a b : List UInt8) (dot : Bool) (p : Nat) (h : nextDot a = nextDot b) : lexRun l k a dot p = lexRun l k b dot p := by
  cases k with
  | zero => rfl
  | succ k =>
    unfold lexRun
    rw [next_lastEq l a b dot p h]
theorem lead_acc : ∀ (k p : Nat) (r : List UInt8) (acc cs : List Cm) (sp : List UInt8) (n : Nat), r.length ≤ k → lead p r acc = .ok cs sp n → ∃ cs0, cs = acc ++ cs0 ∧ ∀ acc', lead p r acc' = .ok (acc' ++ cs0) sp n := by
  intro k
  induction k with
  | zero =>
    intro p r acc cs sp n hk h
    have hr : r = [] := List.eq_nil_of_length_eq_zero (by omega)
    subst hr
    have hs : spLen [] = 0 := spLen_stop [] rfl
    have hc : comment (([] : List UInt8).drop (spLen [])) = .no := by rw [hs]; rfl
    rw [lead_no p [] acc hc] at h
    cases h
    exact ⟨[], by simp, fun acc' => by rw [lead_no p [] acc' hc]; simp⟩
  | succ k ih =>
    intro p r acc cs sp n hk h
    cases hcm : comment (r.drop (spLen r)) with
    | no =>
      rw [lead_no p r acc hcm] at h
      cases h
      exact ⟨[], by simp, fun acc' => by rw [lead_no p r acc' hcm]; simp⟩
    | open_ => rw [lead_open p r acc hcm] at h; cases h
    | closed m =>
      have hc := comment_le _ _ hcm
      rw [List.length_drop] at hc
      rw [lead_closed p r acc m hcm] at h
      obtain ⟨cs0, e1, e2⟩ := ih _ _ _ _ _ _ (by rw [List.length_drop]; omega) h
      refine ⟨⟨r.take (spLen r), (r.drop (spLen r)).take m, p + spLen r⟩ :: cs0, by rw [e1]; simp, fun acc' => ?_⟩
      rw [lead_closed p r acc' m hcm, e2]
      simp
/-- where the first comment ahead of a token begins, or the token -/
def headPos (n : Nat) : List Cm → Nat
  | [] => n
  | c :: _ => c.pos
def firstT (t : TkF) : Nat := headPos t.pos t.coms
theorem lead_skip (p : Nat) (r : List UInt8) (cs : List Cm) (sp : List UInt8) (n : Nat) (h : lead p r [] = .ok cs sp n) :
    (∃ cs' sp', lead (p + spLen r) (r.drop (spLen r)) [] = .ok cs' sp' n) ∧ headPos n cs = p + spLen r := by
  have h0 := spLen_drop r
  cases hcm : comment (r.drop (spLen r)) with
  | no =>
    rw [lead_no p r [] hcm] at h
    cases h
    refine ⟨⟨[], (r.drop (spLen r)).take 0, ?_⟩, rfl⟩
    rw [lead_no _ _ _ (by rw [h0, List.drop_zero]; exact hcm), h0]
    rfl
  | open_ => rw [lead_open p r [] hcm] at h; cases h
  | closed m =>
    rw [lead_closed p r [] m hcm] at h
    obtain ⟨cs0, e1, e2⟩ := lead_acc (r.drop (spLen r + m)).length _ _ _ _ _ _ (Nat.le_refl _) h
    refine ⟨⟨[⟨(r.drop (spLen r)).take 0, ((r.drop (spLen r)).drop 0).take m, p + spLen r + 0⟩] ++ cs0, sp, ?_⟩, by rw [e1]; rfl⟩
    · rw [lead_closed (p + spLen r) (r.drop (spLen r)) [] m (by rw [h0, List.drop_zero]; exact hcm), h0, Nat.zero_add, List.drop_drop, Nat.add_zero]
      exact e2 _
theorem next_skip {l last : List UInt8} {dot : Bool} {p : Nat} {t : TkF} {d : Bool} (h : next l last dot p = .ok t d) :
    firstT t = p + spLen (l.drop p) ∧ ∃ t', next l last dot (p + spLen (l.drop p)) = .ok t' d ∧ t'.key = t.key ∧ t'.pos = t.pos ∧ t'.fin = t.fin := by
  obtain ⟨cs, sp, n, tk, hlead, htok, ht, hd⟩ := next_ok h
  obtain ⟨⟨cs', sp', h1⟩, h2⟩ := lead_skip p _ cs sp n hlead
  rw [List.drop_drop] at h1
  have h3 := next_mk h1 htok
  rw [← hd] at h3
  refine ⟨?_, _, h3, by rw [ht]; rfl, by rw [ht], by rw [ht]⟩
  rw [ht]
  unfold firstT
  exact h2
/-- the blanks ahead of the first token may be left out -/
theorem lexRun_skip {l last : List UInt8} {dot : Bool} {p k : Nat} {t : TkF} {R : List TkF} {o : Option Nat} (h : lexRun l k last dot p = (t :: R, o)) :
    firstT t = p + spLen (l.drop p) ∧ ∃ t', lexRun l k last dot (p + spLen (l.drop p)) = (t' :: R, o) ∧ t'.key = t.key ∧ t'.pos = t.pos ∧ t'.fin = t.fin := by
  cases k with
  | zero => cases h
  | succ k =>
    unfold lexRun at h ⊢
    cases hn : next l last dot p with
    | err q e => rw [hn] at h; cases h
    | ok u d =>
      obtain ⟨h1, t', h2, h3, h4, h5⟩ := next_skip hn
      rw [hn] at h
      rw [h2]
      simp only at h ⊢
      have hk : t'.kind = u.kind := congrArg (·.1) h3
      rw [hk, h5]
      by_cases hke : u.kind = kEof
      · rw [if_pos hke] at h ⊢
        have e1 := congrArg Prod.fst h; have e2 := congrArg Prod.snd h
        simp only at e1 e2
        injection e1 with e3 e4
        subst e3
        exact ⟨h1, t', by rw [e4, e2], h3, h4, h5⟩
      · rw [if_neg hke] at h ⊢
        have e1 := congrArg Prod.fst h; have e2 := congrArg Prod.snd h
        simp only at e1 e2
        injection e1 with e3 e4
        subst e3
        exact ⟨h1, t', by rw [e4, e2], h3, h4, h5⟩
/-- behind a token of a run -/
theorem lexRun_after (l : List UInt8) : ∀ (T1 : List TkF) (k : Nat) (last : List UInt8) (dot : Bool) (p : Nat) (t : TkF) (T2 : List TkF), p ≤ l.length → l.length - p < k → lexRun l k last dot p = (T1 ++ t :: T2, none) → t.kind ≠ kEof → (∀ x ∈ T1, x.kind ≠ kEof) →
    ∃ last' dot' p' d, p ≤ p' ∧ p' ≤ l.length ∧ next l last' dot' p' = .ok t d ∧ t.fin ≤ l.length ∧ p < t.fin ∧ lexRun l (l.length + 1) t.kind d t.fin = (T2, none) := by
  intro T1
  induction T1 with
  | nil =>
    intro k last dot p t T2 hp hk h hke _
    obtain ⟨k, rfl⟩ : ∃ m, k = m + 1 := ⟨k - 1, by omega⟩
    unfold lexRun at h
    cases hn : next l last dot p with
    | err q e => rw [hn] at h; cases h
    | ok u d =>
      have h1 := next_text l last dot p u d hp hn
      have h2 := next_real l last dot p u d hp hn
      rw [hn] at h
      simp only [List.nil_append] at h
      by_cases hk2 : u.kind = kEof
      · rw [if_pos hk2] at h
        have e1 := congrArg Prod.fst h
        injection e1 with e3 _
        subst e3
        exact absurd hk2 hke
      · rw [if_neg hk2] at h
        have h3 := h2.2 hk2
        have e1 := congrArg Prod.fst h; have e2 := congrArg Prod.snd h
        simp only at e1 e2
        injection e1 with e3 e4
        subst e3
        refine ⟨last, dot, p, d, Nat.le_refl _, hp, hn, h1.2.2.1, h3, ?_⟩
        rw [lexRun_fuel l (l.length + 1) k _ _ _ h1.2.2.1 (by omega) (by omega)]
        exact Prod.ext e4 e2
  | cons u T1 ih =>
    intro k last dot p t T2 hp hk h hke hall
    obtain ⟨k, rfl⟩ : ∃ m, k = m + 1 := ⟨k - 1, by omega⟩
    unfold lexRun at h
    cases hn : next l last dot p with
    | err q e => rw [hn] at h; cases h
    | ok u' d =>
      have h1 := next_text l last dot p u' d hp hn
      have h2 := next_real l last dot p u' d hp hn
      rw [hn] at h
      simp only [List.cons_append] at h
      have hku : u.kind ≠ kEof := hall u (by simp)
      by_cases hk2 : u'.kind = kEof
      · rw [if_pos hk2] at h
        have e1 := congrArg Prod.fst h
        injection e1 with e3 _
        subst e3
        exact absurd hk2 hku
      · rw [if_neg hk2] at h
        have h3 := h2.2 hk2
        have e1 := congrArg Prod.fst h; have e2 := congrArg Prod.snd h
        simp only at e1 e2
        injection e1 with e3 e4
        subst e3
        obtain ⟨a, b, c, d', f1, f2, f3, f4, f5, f6⟩ := ih k u'.kind d u'.fin t T2 h1.2.2.1 (by omega) (Prod.ext e4 e2) hke (fun x hx => hall x (by simp [hx]))
        exact ⟨a, b, c, d', by omega, f2, f3, f4, by omega, f6⟩
/-- what may stand behind a statement -/
def padOk (z : List UInt8) : Prop := z = [] ∨ z = [32, 32, 32, 32, 32, 32, 32, 32, 32]
theorem padOk.blank {z : List UInt8} (h : padOk z) : spLen z = z.length := by
  have := spLen_blks z [] (by
    rcases h with rfl | rfl
    · intro c hc; cases hc
    · intro c hc
      simp only [List.mem_cons, List.not_mem_nil, or_false, or_self] at hc
      subst hc
      right; rfl)
  rw [List.append_nil, spLen_stop [] rfl] at this
  omega
theorem padOk.end {z : List UInt8} (h : padOk z) (h0 : 0 < z.length) : endB (byteAt z 0) := by
  rcases h with rfl | rfl
  · simp at h0
  · right; right; right; left; rfl
theorem take_app (r z : List UInt8) (q n : Nat) (hn : n ≤ q) (hq : q ≤ r.length) : (r.take q ++ z).take n = r.take n := by
  rw [List.take_append_of_le_length (by rw [List.length_take]; omega), List.take_take, Nat.min_eq_left hn]
theorem drop_app (r z : List UInt8) (q n : Nat) (hn : n ≤ q) (hq : q ≤ r.length) : (r.take q ++ z).drop n = (r.drop n).take (q - n) ++ z := by
  rw [List.drop_append_of_le_length (by rw [List.length_take]; omega), List.drop_take]
theorem stmt_nil (z : List UInt8) (hz : padOk z) (k : Nat) (r last last' : List UInt8) (dot : Bool) (t : TkF) (T2 : List TkF) (k' : Nat)
    (hk : r.length < k) (h : lexRun r k last dot 0 = ([] ++ t :: T2, none)) (hlast : nextDot last = nextDot last') (hke : t.kind ≠ kEof) (hk' : (r.take t.pos ++ z).length < k') :
    ∃ T1' e, lexRun (r.take t.pos ++ z) k' last' dot 0 = (T1' ++ [e], none) ∧ T1'.map TkF.key = ([] : List TkF).map TkF.key ∧ e.kind = kEof := by
  obtain ⟨k, rfl⟩ : ∃ m, k = m + 1 := ⟨k - 1, by omega⟩
  obtain ⟨k', rfl⟩ : ∃ m, k' = m + 1 := ⟨k' - 1, by omega⟩
  unfold lexRun at h
  cases hn : next r last dot 0 with
  | err q e => rw [hn] at h; cases h
  | ok u d =>
    have h1 := next_text r last dot 0 u d (Nat.zero_le _) hn
    rw [hn] at h
    simp only [List.nil_append] at h
    have hu : u = t := by
      split at h
      · have e1 := congrArg Prod.fst h
        injection e1
      · have e1 := congrArg Prod.fst h
        injection e1
    subst hu
    obtain ⟨cs, sp, n, tk, hlead, htok, ht, hd⟩ := next_ok hn
    rw [List.drop_zero] at hlead
    have hpos : u.pos = n := by rw [ht]
    have hreal := anyTok_eof htok (by rw [ht] at hke; exact hke)
    have hnr : n < r.length := by
      rcases Nat.lt_or_ge n r.length with h9 | h9
      · exact h9
      · exact absurd (List.drop_eq_nil_of_le h9) hreal.1
    rw [hpos] at hk' ⊢
    have hlr : (r.take n ++ z).length = n + z.length := by rw [List.length_append, List.length_take]; omega
    have hdz : (r.take n ++ z).drop n = z := by rw [drop_app r z n n (Nat.le_refl _) (by omega)]; simp
    have hla := lead_agree r.length r (r.take n ++ z) 0 [] cs sp n (Nat.le_refl _) hlead (by rw [Nat.sub_zero, take_app r z n n (Nat.le_refl _) (by omega)]) (by omega) (by omega) (by
      rw [Nat.sub_zero, hdz, hz.blank, ← hlr, List.drop_length]
      rfl)
    rw [Nat.sub_zero, hdz, hz.blank] at hla
    have hnx := next_mk (l := r.take n ++ z) (last := last') (dot := dot) (p := 0) (by rw [List.drop_zero]; exact hla) (tk := ⟨kEof, [], 0, 0, none⟩) (by rw [← hlr, List.drop_length]; exact anyTok_nil _ _)
    refine ⟨[], ⟨kEof, cs, sp ++ z.take z.length, ((r.take n ++ z).drop (n + z.length)).take 0, [], 0, n + z.length, n + z.length + 0⟩, ?_, rfl, rfl⟩
    unfold lexRun
    rw [hnx]
    simp only [List.nil_append]
    exact if_pos trivial
/-- THE LAW OF ONE STATEMENT: the tokens up to a place where a token begins are those of the text up to there -/
theorem stmt_law (z : List UInt8) (hz : padOk z) : ∀ (N : Nat) (T1 : List TkF), T1.length ≤ N → ∀ (k : Nat) (r last last' : List UInt8) (dot : Bool) (t : TkF) (T2 : List TkF) (k' : Nat),
    r.length < k → lexRun r k last dot 0 = (T1 ++ t :: T2, none) → nextDot last = nextDot last' → (∀ x ∈ T1, x.kind ≠ kEof) → t.kind ≠ kEof → (r.take t.pos ++ z).length < k' →
    ∃ T1' e, lexRun (r.take t.pos ++ z) k' last' dot 0 = (T1' ++ [e], none) ∧ T1'.map TkF.key = T1.map TkF.key ∧ e.kind = kEof := by
  intro N
  induction N with
  | zero =>
    intro T1 hN k r last last' dot t T2 k' hk h hlast hall hke hk'
    obtain rfl : T1 = [] := List.eq_nil_of_length_eq_zero (by omega)
    exact stmt_nil z hz k r last last' dot t T2 k' hk h hlast hke hk'
  | succ N ih =>
    intro T1 hN k r last last' dot t T2 k' hk h hlast hall hke hk'
    cases T1 with
    | nil => exact stmt_nil z hz k r last last' dot t T2 k' hk h hlast hke hk'
    | cons t1 T1 =>
      obtain ⟨k, rfl⟩ : ∃ m, k = m + 1 := ⟨k - 1, by omega⟩
      obtain ⟨k', rfl⟩ : ∃ m, k' = m + 1 := ⟨k' - 1, by omega⟩
      unfold lexRun at h
      cases hn : next r last dot 0 with
      | err q e => rw [hn] at h; cases h
      | ok u d =>
        have h1 := next_text r last dot 0 u d (Nat.zero_le _) hn
        have h2 := next_real r last dot 0 u d (Nat.zero_le _) hn
        rw [hn] at h
        simp only [List.cons_append] at h
        have hk1 : t1.kind ≠ kEof := hall t1 (by simp)
        by_cases hku : u.kind = kEof
        · rw [if_pos hku] at h
          have e1 := congrArg Prod.fst h
          injection e1 with e3 _
          subst e3
          exact absurd hku hk1
        rw [if_neg hku] at h
        have h3 := h2.2 hku
        have e1 := congrArg Prod.fst h; have e2 := congrArg Prod.snd h
        simp only at e1 e2
        injection e1 with e3 e4
        subst e3
        have hsh := lexRun_shift r u.fin h1.2.2.1 k u.kind d 0
        rw [Nat.zero_add] at hsh
        rw [hsh] at e4 e2
        simp only at e4 e2
        obtain ⟨A, B, f1, f2, f3⟩ := List.map_eq_append_iff.1 e4
        obtain ⟨ts, Bs, g1, g2, g3⟩ := List.map_eq_cons_iff.1 f3
        have hnone : (lexRun (r.drop u.fin) k u.kind d 0).2 = none := by
          cases hh : (lexRun (r.drop u.fin) k u.kind d 0).2 with
          | none => rfl
          | some v => rw [hh] at e2; cases e2
        have htpos : t.pos = ts.pos + u.fin := by rw [← g2]; rfl
        have htk : ts.kind = t.kind := by rw [← g2]; rfl
        have hAk : A.map TkF.key = T1.map TkF.key := by rw [← f2, List.map_map]; rfl
        have hrunA : lexRun (r.drop u.fin) k u.kind d 0 = (A ++ ts :: Bs, none) := Prod.ext (by rw [f1, g1]) hnone
        have hAall : ∀ x ∈ A, x.kind ≠ kEof := by
          intro x hx
          have := hall (x.shift u.fin) (by rw [← f2]; exact List.mem_cons_of_mem _ (List.mem_map.2 ⟨x, hx, rfl⟩))
          exact this
        -- the place of the stop lies in the text
        obtain ⟨_, _, pq, _, _, hpq1, hpq2, hpq3, _, _⟩ := lexRun_after (r.drop u.fin) A k u.kind d 0 ts Bs (Nat.zero_le _) (by rw [List.length_drop]; omega) hrunA (by rw [htk]; exact hke) hAall
        have hpq4 := next_text _ _ _ _ _ _ hpq1 hpq2
        rw [List.length_drop] at hpq4
        have hq : t.pos ≤ r.length := by omega
        obtain ⟨cs, sp, n, tk, hlead, htok, ht, hd⟩ := next_ok hn
        rw [List.drop_zero] at hlead
        have hpos : u.pos = n := by rw [ht]
        have hfin : u.fin = n + tk.len := by rw [ht]
        have hreal := anyTok_eof htok (by rw [ht] at hku; exact hku)
        have hfits := anyTok_fits dot last (r.drop n)
        rw [htok] at hfits
        have hfits : tk.len ≤ (r.drop n).length := hfits
        rw [List.length_drop] at hfits
        obtain ⟨hh1, hh2⟩ := lead_head r.length r 0 [] cs sp n (Nat.le_refl _) hlead
        rw [Nat.sub_zero] at hh1 hh2
        have hlr : (r.take t.pos ++ z).length = t.pos + z.length := by rw [List.length_append, List.length_take]; omega
        have hdn := drop_app r z t.pos n (by omega) hq
        have hagree : Agree tk.len (r.drop n) ((r.take t.pos ++ z).drop n) := by
          rw [hdn]
          refine ⟨by rw [List.length_drop]; omega, by rw [List.length_append, List.length_take, List.length_drop]; omega, ?_, ?_⟩
          · rw [take_app (r.drop n) z (t.pos - n) tk.len (by omega) (by rw [List.length_drop]; omega)]
          · intro hl
            rcases Nat.lt_or_ge tk.len (t.pos - n) with h9 | h9
            · right
              refine ⟨by rw [List.length_drop]; omega, ?_⟩
              unfold byteAt
              rw [List.getD_eq_getElem?_getD, List.getD_eq_getElem?_getD, List.getElem?_append_left (by rw [List.length_take, List.length_drop]; omega), List.getElem?_take_of_lt h9]
            · left
              have h8 : tk.len = t.pos - n := by omega
              have hlen : ((r.drop n).take (t.pos - n)).length = tk.len := by rw [List.length_take, List.length_drop]; omega
              rw [List.length_append, hlen] at hl
              have := hz.end (by omega)
              unfold byteAt at this ⊢
              rw [List.getD_eq_getElem?_getD, List.getElem?_append_right (by omega), hlen, Nat.sub_self, ← List.getD_eq_getElem?_getD]
              exact this
        obtain ⟨hg1, hg2⟩ := head_agree hagree hreal.2 htok hh1 hh2
        have htok2 := anyTok_agree hagree hreal.2 dot last htok rfl
        rw [anyTok_last dot last last' _ (.inl hlast)] at htok2
        have hla := lead_agree r.length r (r.take t.pos ++ z) 0 [] cs sp n (Nat.le_refl _) hlead (by rw [Nat.sub_zero, take_app r z t.pos n (by omega) hq]) (by omega) (by omega) (by
          rw [Nat.sub_zero, hg1, Nat.add_zero]; exact hg2)
        rw [Nat.sub_zero, hg1, Nat.add_zero] at hla
        have hnx := next_mk (l := r.take t.pos ++ z) (last := last') (dot := dot) (p := 0) (by rw [List.drop_zero]; exact hla) htok2
        rw [← hd] at hnx
        have htake : ((r.take t.pos ++ z).drop n).take tk.len = (r.drop n).take tk.len := hagree.eq.symm
        rw [htake, ← hfin] at hnx
        have hkk : tk.kind = u.kind := by rw [ht]
        have hdf : (r.take t.pos ++ z).drop u.fin = (r.drop u.fin).take ts.pos ++ z := by
          rw [drop_app r z t.pos u.fin (by omega) hq, show t.pos - u.fin = ts.pos from by omega]
        have hlen2 : ((r.drop u.fin).take ts.pos ++ z).length < k' := by
          rw [← hdf, List.length_drop]
          omega
        obtain ⟨T1', e, i1, i2, i3⟩ := ih A (by have := congrArg List.length f2; rw [List.length_map] at this; simp at hN; omega) k (r.drop u.fin) u.kind u.kind d ts Bs k' (by rw [List.length_drop]; omega) hrunA rfl hAall (by rw [htk]; exact hke) hlen2
        have hsh2 := lexRun_shift (r.take t.pos ++ z) u.fin (by omega) k' u.kind d 0
        rw [Nat.zero_add, hdf, i1] at hsh2
        refine ⟨⟨tk.kind, cs, sp ++ ((r.take t.pos ++ z).drop n).take 0, (r.drop n).take tk.len, tk.text, tk.base, n, u.fin⟩ :: T1'.map (TkF.shift u.fin), e.shift u.fin, ?_, ?_, ?_⟩
        · unfold lexRun
          rw [hnx]
          simp only
          rw [if_neg (by rw [hkk]; exact hku), hkk, hsh2]
          simp
        · rw [List.map_cons, List.map_cons, List.map_map]
          congr 1
          · rw [ht]; rfl
          · rw [← hAk, ← i2]
            rfl
        · exact i3
def kSemi : List UInt8 := [59]
/-- the key of a semicolon -/
def semiK : List UInt8 × List UInt8 × List UInt8 × Int := (kSemi, kSemi, [], 0)
theorem kws_one : ∀ k ∈ kws, k.length ≠ 1 := by decide
theorem kw_semi : kw kSemi = false := by
  cases h : kw kSemi with
  | false => rfl
  | true =>
    unfold kw at h
    rw [List.contains_iff_mem] at h
    exact absurd rfl (kws_one _ h)
theorem seconds_semi (c : Int) (hc : c = 59) : seconds c = [] := by subst hc; rfl
theorem twoSym_kind (r : List UInt8) (c : UInt8) {t : Tk} : ∀ l : List UInt8, twoSym r c l = .ok t → t.kind.head? = some c := by
  intro l
  induction l with
  | nil => intro h; cases h; rfl
  | cons d l ih =>
    intro h
    unfold twoSym at h
    split at h
    · cases h; rfl
    · exact ih h
theorem qtok_kind (q : List UInt8) (raw uni ident : Bool) (kind : List UInt8) (off : Nat) (r : List UInt8) {t : Tk} (h : qtok q raw uni ident kind off r = .ok t) : t.kind = kind := by
  unfold qtok at h
  split at h
  · cases h; rfl
  · cases h
theorem number_kind (r : List UInt8) {t : Tk} (h : number false r = .ok t) : t.kind = kInt ∨ t.kind = kFloat := by
  unfold number at h
  simp only at h
  split at h
  · cases h
  · cases h
    show (if (numEnd r).2 then kInt else kFloat) = _ ∨ (if (numEnd r).2 then kInt else kFloat) = _
    split
    · exact .inl rfl
    · exact .inr rfl
theorem byte_get (r : List UInt8) : byteAt r 0 = ((r.getD 0 0).toNat : Int) := rfl
theorem tok_semi (last r : List UInt8) {t : Tk} (h : tok last r = .ok t) (hk : t.kind = kSemi) : byteAt r 0 = 59 ∧ t = ⟨kSemi, [], 0, 1, none⟩ := by
  unfold tok at h
  split at h
  · cases h; cases hk
  · next hr =>
    split at h
    · have e : t = ⟨[r.getD 0 0], [], 0, 1, none⟩ := by cases h; rfl
      rw [e] at hk ⊢
      have hk : [r.getD 0 0] = [59] := hk
      injection hk with hk _
      rw [byte_get, hk]
      exact ⟨rfl, rfl⟩
    · split at h
      · next c46 =>
        unfold dotTok at h
        split at h
        · rcases number_kind r h with e | e <;> (rw [e] at hk; cases hk)
        · cases h; cases hk
      · split at h
        · next hs =>
          have h1 := twoSym_kind _ _ _ h
          rw [hk] at h1
          have h1 : some (59 : UInt8) = some (r.getD 0 0) := h1
          injection h1 with h1
          exact absurd (seconds_semi _ (by rw [byte_get, ← h1]; rfl)) hs
        · split at h
          · unfold atTok at h
            split at h
            · cases h; cases hk
            · split at h
              · cases h; cases hk
              · cases h; cases hk
          · split at h
            · rw [qtok_kind _ _ _ _ _ _ _ h] at hk; cases hk
            · split at h
              · rcases number_kind r h with e | e <;> (rw [e] at hk; cases hk)
              · unfold restTok at h
                split at h
                · rw [qtok_kind _ _ _ _ _ _ _ h] at hk
                  split at hk <;> cases hk
                · split at h
                  · unfold wordTok at h
                    split at h
                    · next hw =>
                      cases h
                      have hk : upL (r.take (wordLen r)) = kSemi := hk
                      rw [hk, kw_semi] at hw
                      cases hw
                    · cases h; cases hk
                  · cases h
theorem next_semi {l last : List UInt8} {dot : Bool} {p : Nat} {t : TkF} {d : Bool} (h : next l last dot p = .ok t d) (hk : t.kind = kSemi) : t.key = semiK ∧ d = false := by
  obtain ⟨cs, sp, n, tk, hlead, htok, ht, hd⟩ := next_ok h
  have hk2 : tk.kind = kSemi := by rw [ht] at hk; exact hk
  have hreal := anyTok_eof htok (by rw [hk2]; decide)
  have htok2 : tok last (l.drop n) = .ok tk := by
    unfold anyTok at htok
    split at htok
    · unfold ftok at htok
      split at htok
      · cases htok; cases hk2
      · exact htok
    · exact htok
  obtain ⟨h1, h2⟩ := tok_semi last _ htok2 hk2
  refine ⟨?_, by rw [hd, h2]; cases dot <;> rfl⟩
  rw [ht, h2]
  unfold TkF.key semiK
  cases hx : l.drop n with
  | nil => exact absurd hx hreal.1
  | cons c r =>
    rw [hx] at h1
    have hc : c = 59 := by
      rw [← UInt8.toNat_inj]
      have h1 : (c.toNat : Int) = 59 := h1
      show _ = 59
      omega
    rw [hc]
    rfl
/-- the places of the statements, of the tokens from a place on -/
def splitT : List TkF → Nat → List (Nat × Nat)
  | [], _ => []
  | t :: R, first => if t.kind = kSemi then (first, t.pos) :: splitT R ((R.head?.map firstT).getD 0)
    else if t.kind = kEof then (if t.pos = first then [] else [(first, t.pos)]) else splitT R first
/-- the statements of a text -/
def splitAll (l : List UInt8) : List (Nat × Nat) := if splitT (lexAll l).1 0 = [] then [(0, 0)] else splitT (lexAll l).1 0
theorem splitT_skip : ∀ (T1 R : List TkF) (first : Nat), (∀ x ∈ T1, x.kind ≠ kEof ∧ x.kind ≠ kSemi) → splitT (T1 ++ R) first = splitT R first := by
  intro T1
  induction T1 with
  | nil => intro R first _; rfl
  | cons t T1 ih =>
    intro R first h
    have ht := h t (by simp)
    rw [List.cons_append, splitT, if_neg ht.2, if_neg ht.1]
    exact ih R first (fun x hx => h x (by simp [hx]))
/-- the text of a statement, padded -/
def stText (l : List UInt8) (x : Nat × Nat) : List UInt8 := pad ((l.take x.2).drop x.1)
/-- a statement is read to its end -/
def StOk (l : List UInt8) (x : Nat × Nat) : Prop := x.1 ≤ x.2 ∧ x.2 ≤ l.length ∧ ∃ T e, lexAll (stText l x) = (T ++ [e], none)
/-- the keys of a statement's tokens -/
def stKeys (l : List UInt8) (x : Nat × Nat) : List (List UInt8 × List UInt8 × List UInt8 × Int) := (lexAll (stText l x)).1.dropLast.map TkF.key
/-- those of some statements, a semicolon ahead of each -/
def preK (l : List UInt8) (S : List (Nat × Nat)) : List (List UInt8 × List UInt8 × List UInt8 × Int) := S.flatMap fun x => semiK :: stKeys l x
theorem first_stop : ∀ T : List TkF, (∀ e, T ≠ [e] ∨ True) → T ≠ [] → ∃ T1 t T2, T = T1 ++ t :: T2 ∧ (∀ x ∈ T1, x.kind ≠ kEof ∧ x.kind ≠ kSemi) ∧ (T2 = [] ∨ t.kind = kEof ∨ t.kind = kSemi) := by
  intro T
  induction T with
  | nil => intro _ h; exact absurd rfl h
  | cons t T ih =>
    intro _ _
    by_cases h1 : t.kind = kEof ∨ t.kind = kSemi
    · exact ⟨[], t, T, rfl, (fun x hx => by cases hx), .inr h1⟩
    · cases T with
      | nil => exact ⟨[], t, [], rfl, (fun x hx => by cases hx), .inl rfl⟩
      | cons u R =>
        obtain ⟨T1, s, T2, e1, e2, e3⟩ := ih (fun e => .inr trivial) (by simp)
        refine ⟨t :: T1, s, T2, by rw [e1]; rfl, fun x hx => ?_, e3⟩
        rcases List.mem_cons.1 hx with rfl | hx
        · exact ⟨fun h => h1 (.inl h), fun h => h1 (.inr h)⟩
        · exact e2 x hx
theorem brit_suffix (l : List UInt8) (k : Nat) (h : brit l = false) : brit (l.drop k) = false := by
  unfold brit at h ⊢
  rw [List.any_eq_false] at h ⊢
  intro x hx
  refine h x ?_
  rw [List.drop_drop, List.length_drop] at hx
  have e : k + (l.length - k - 9) = (l.length - 9) + (k + (l.length - k - 9) - (l.length - 9)) := by omega
  rw [e, ← List.drop_drop] at hx
  exact List.mem_of_mem_drop hx
theorem pad_ok (l : List UInt8) : ∃ z, padOk z ∧ pad l = l ++ z := by
  unfold pad
  split
  · exact ⟨_, .inr rfl, rfl⟩
  · exact ⟨[], .inl rfl, by simp⟩
theorem nextDot_semi : nextDot kSemi = false := by decide
/-- one statement that a semicolon ends -/
theorem stmt_semi (l last : List UInt8) (k first : Nat) (T1 : List TkF) (t : TkF) (T2 : List TkF) (hp : first ≤ l.length) (hk : l.length - first < k) (h : lexRun l k last false first = (T1 ++ t :: T2, none)) (hl : nextDot last = nextDot []) (hall : ∀ x ∈ T1, x.kind ≠ kEof) (hke : t.kind ≠ kEof) :
    StOk l (first, t.pos) ∧ stKeys l (first, t.pos) = T1.map TkF.key := by
  have hsh := lexRun_shift l first hp k last false 0
  rw [Nat.zero_add, h] at hsh
  have e1 := congrArg Prod.fst hsh; have e2 := congrArg Prod.snd hsh
  simp only at e1 e2
  obtain ⟨A, B, f1, f2, f3⟩ := List.map_eq_append_iff.1 e1.symm
  obtain ⟨ts, Bs, g1, g2, g3⟩ := List.map_eq_cons_iff.1 f3
  have hnone : (lexRun (l.drop first) k last false 0).2 = none := by
    cases hh : (lexRun (l.drop first) k last false 0).2 with
    | none => rfl
    | some v => rw [hh] at e2; cases e2
  have htpos : t.pos = ts.pos + first := by rw [← g2]; rfl
  have htk : ts.kind = t.kind := by rw [← g2]; rfl
  have hrunA : lexRun (l.drop first) k last false 0 = (A ++ ts :: Bs, none) := Prod.ext (by rw [f1, g1]) hnone
  have hAall : ∀ x ∈ A, x.kind ≠ kEof := by
    intro x hx
    have := hall (x.shift first) (by rw [← f2]; exact List.mem_map.2 ⟨x, hx, rfl⟩)
    exact this
  obtain ⟨_, _, pq, _, hpq1, hpq2, hpq3, _, _, _⟩ := lexRun_after (l.drop first) A k last false 0 ts Bs (Nat.zero_le _) (by rw [List.length_drop]; omega) hrunA (by rw [htk]; exact hke) hAall
  have hpq4 := next_text _ _ _ _ _ _ hpq2 hpq3
  rw [List.length_drop] at hpq4
  have hq : t.pos ≤ l.length := by omega
  have htx : (l.take t.pos).drop first = (l.drop first).take ts.pos := by rw [List.drop_take, show t.pos - first = ts.pos from by omega]
  obtain ⟨z, hz, hpd⟩ := pad_ok ((l.take t.pos).drop first)
  obtain ⟨T1', e, i1, i2, i3⟩ := stmt_law z hz A.length A (Nat.le_refl _) k (l.drop first) last [] false ts Bs (((l.drop first).take ts.pos ++ z).length + 1) (by rw [List.length_drop]; omega) hrunA hl hAall (by rw [htk]; exact hke) (Nat.lt_succ_self _)
  have hlex : lexAll (stText l (first, t.pos)) = (T1' ++ [e], none) := by
    unfold stText
    rw [hpd, htx]
    exact i1
  refine ⟨⟨by show first ≤ t.pos; omega, hq, T1', e, hlex⟩, ?_⟩
  unfold stKeys
  rw [hlex]
  simp only [List.dropLast_concat]
  rw [i2, ← f2, List.map_map]
  rfl
/-- the last statement -/
theorem stmt_last (l last : List UInt8) (k first : Nat) (T1 : List TkF) (t : TkF) (hbr : brit l = false) (hp : first ≤ l.length) (hk : l.length - first < k) (h : lexRun l k last false first = (T1 ++ [t], none)) (hl : nextDot last = nextDot []) (hpos : t.pos = l.length) :
    StOk l (first, t.pos) ∧ stKeys l (first, t.pos) = T1.map TkF.key := by
  have hsh := lexRun_shift l first hp k last false 0
  rw [Nat.zero_add, h] at hsh
  have e1 := congrArg Prod.fst hsh; have e2 := congrArg Prod.snd hsh
  simp only at e1 e2
  obtain ⟨A, B, f1, f2, f3⟩ := List.map_eq_append_iff.1 e1.symm
  obtain ⟨ts, Bs, g1, g2, g3⟩ := List.map_eq_cons_iff.1 f3
  have hBs : Bs = [] := List.map_eq_nil_iff.1 g3
  have hnone : (lexRun (l.drop first) k last false 0).2 = none := by
    cases hh : (lexRun (l.drop first) k last false 0).2 with
    | none => rfl
    | some v => rw [hh] at e2; cases e2
  have hrunA : lexRun (l.drop first) k last false 0 = (A ++ [ts], none) := Prod.ext (by rw [f1, g1, hBs]) hnone
  have htx : (l.take t.pos).drop first = l.drop first := by rw [hpos, List.take_length]
  have hlex : lexAll (stText l (first, t.pos)) = (A ++ [ts], none) := by
    unfold stText pad
    simp only [htx]
    rw [brit_suffix l first hbr, if_neg (by decide)]
    unfold lexAll
    rw [lexRun_lastEq _ _ [] last false 0 hl.symm, lexRun_fuel _ _ k last false 0 (Nat.zero_le _) (by omega) (by rw [List.length_drop]; omega)]
    exact hrunA
  refine ⟨⟨by show first ≤ t.pos; omega, by show t.pos ≤ l.length; omega, A, ts, hlex⟩, ?_⟩
  unfold stKeys
  rw [hlex]
  simp only [List.dropLast_concat]
  rw [← f2, List.map_map]
  rfl
/-- THE LAW OF FnSplitTokens -/
theorem split_main (l : List UInt8) (hbr : brit l = false) : ∀ (N : Nat) (T : List TkF), T.length ≤ N → ∀ (k : Nat) (last : List UInt8) (first : Nat), first ≤ l.length → l.length - first < k → nextDot last = nextDot [] → lexRun l k last false first = (T, none) →
    (∀ x ∈ splitT T first, StOk l x) ∧ (preK l (splitT T first) = semiK :: T.dropLast.map TkF.key ∨ preK l (splitT T first) ++ [semiK] = semiK :: T.dropLast.map TkF.key) := by
  intro N
  induction N with
  | zero =>
    intro T hN k last first hp hk hl h
    obtain ⟨Ta, e, h1, _⟩ := lexRun_last l k last false first hp hk (by rw [h])
    rw [h] at h1
    have h1 : T = Ta ++ [e] := h1
    rw [h1] at hN
    simp at hN
  | succ N ih =>
    intro T hN k last first hp hk hl h
    obtain ⟨Ta, e, h1, h2, h3, h4, h5⟩ := lexRun_last l k last false first hp hk (by rw [h])
    rw [h] at h1
    have h1 : T = Ta ++ [e] := h1
    obtain ⟨T1, t, T2, hT, hall, hstop⟩ := first_stop T (fun e => .inr trivial) (by rw [h1]; simp)
    have hall1 : ∀ x ∈ T1, x.kind ≠ kEof := fun x hx => (hall x hx).1
    have hdl : T.dropLast = Ta := by rw [h1]; simp
    rw [hT, splitT_skip T1 _ _ hall]
    by_cases hke : t.kind = kEof
    · -- the end
      have hTT : T2 = [] ∧ T1 = Ta ∧ t = e := by
        rw [h1] at hT
        cases T2 with
        | nil =>
          have h9 := List.append_inj' hT rfl
          injection h9.2 with h8 _
          exact ⟨rfl, h9.1.symm, h8.symm⟩
        | cons u R =>
          exfalso
          have : t ∈ Ta := by
            have hl2 : (T1 ++ t :: u :: R) = (T1 ++ t :: (u :: R).dropLast) ++ [(u :: R).getLast (by simp)] := by
              rw [List.append_assoc, List.cons_append, List.dropLast_concat_getLast]
            rw [hl2] at hT
            have h9 := List.append_inj' hT rfl
            rw [h9.1]
            simp
          exact h5 t this hke
      obtain ⟨rfl, rfl, rfl⟩ := hTT
      rw [← hT, hdl, splitT, if_neg (by rw [hke]; decide), if_pos hke]
      by_cases hpf : t.pos = first
      · rw [if_pos hpf]
        have hT1 : T1 = [] := by
          cases T1 with
          | nil => rfl
          | cons u R =>
            exfalso
            rw [hT] at h
            obtain ⟨a, b, c, d, f1, f2, f3, f4, f5, f6⟩ := lexRun_after l [] k last false first u (R ++ [t]) hp hk h (hall1 u (by simp)) (fun x hx => by cases hx)
            have := next_text _ _ _ _ _ _ f2 f3
            omega
        subst hT1
        exact ⟨fun x hx => (by cases hx), .inr rfl⟩
      · rw [if_neg hpf]
        rw [hT] at h
        obtain ⟨g1, g2⟩ := stmt_last l last k first T1 t hbr hp hk h hl h4
        refine ⟨fun x hx => ?_, .inl ?_⟩
        · obtain rfl := List.mem_singleton.1 hx
          exact g1
        · unfold preK
          simp [g2]
    · have hks : t.kind = kSemi := by
        rcases hstop with h9 | h9 | h9
        · exfalso
          subst h9
          rw [h1] at hT
          have h9 := List.append_inj' hT rfl
          injection h9.2 with h8 _
          rw [← h8] at hke
          exact hke h2
        · exact absurd h9 hke
        · exact h9
      rw [hT] at h
      obtain ⟨g1, g2⟩ := stmt_semi l last k first T1 t T2 hp hk h hl hall1 hke
      obtain ⟨a, b, c, d, f1, f2, f3, f4, f5, f6⟩ := lexRun_after l T1 k last false first t T2 hp hk h hke hall1
      obtain ⟨hkey, rfl⟩ := next_semi f3 hks
      rw [hks] at f6
      obtain ⟨u, R, rfl⟩ : ∃ u R, T2 = u :: R := by
        cases T2 with
        | nil =>
          exfalso
          rw [h1] at hT
          have h9 := List.append_inj' hT rfl
          injection h9.2 with h8 _
          rw [← h8] at hke
          exact hke h2
        | cons u R => exact ⟨u, R, rfl⟩
      obtain ⟨k1, t', k2, k3, k4, k5⟩ := lexRun_skip f6
      have hsp := spLen_le (l.drop t.fin)
      rw [List.length_drop] at hsp
      obtain ⟨m1, m2⟩ := ih (t' :: R) (by rw [hT] at hN; simp at hN ⊢; omega) (l.length + 1) kSemi (t.fin + spLen (l.drop t.fin)) (by omega) (by omega) (by rw [nextDot_semi]; decide) k2
      have hsame : splitT (u :: R) (firstT u) = splitT (t' :: R) (t.fin + spLen (l.drop t.fin)) := by
        have hk9 : t'.kind = u.kind := congrArg (·.1) k3
        rw [splitT, splitT, hk9, k4, k1]
      have hkeys : (t' :: R).dropLast.map TkF.key = (u :: R).dropLast.map TkF.key := by
        cases R with
        | nil => rfl
        | cons v R => simp [k3]
      rw [splitT, if_pos hks]
      rw [show (((u :: R).head?.map firstT).getD 0) = firstT u from rfl, hsame]
      have hdl2 : (T1 ++ t :: u :: R).dropLast = T1 ++ t :: (u :: R).dropLast := by
        rw [List.dropLast_append_of_ne_nil (by simp)]
        rfl
      rw [hdl2, List.map_append, List.map_cons, hkey, ← hkeys]
      have hpre : preK l ((first, t.pos) :: splitT (t' :: R) (t.fin + spLen (l.drop t.fin))) = semiK :: (T1.map TkF.key ++ preK l (splitT (t' :: R) (t.fin + spLen (l.drop t.fin)))) := by
        unfold preK
        rw [List.flatMap_cons, g2]
        rfl
      refine ⟨fun x hx => ?_, ?_⟩
      · rcases List.mem_cons.1 hx with rfl | hx
        · exact g1
        · exact m1 x hx
      · rw [hpre]
        rcases m2 with m2 | m2
        · left; rw [m2]
        · right; rw [List.cons_append, List.append_assoc, m2]
end Go.Proofs.YtcelnnjjakiehaaGreatDoor
