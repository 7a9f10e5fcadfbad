/-
  A token's reading does not hang on what stands behind it, if that ends every token.
  Blanks and comments ahead of a token: what stands behind them does not matter.
-/
import Derived.Test.YtcelnnjjakiehaaGreatDoorRun
import Derived.Lib.SpaceUEq
namespace Go.Proofs.YtcelnnjjakiehaaGreatDoor
set_option linter.unusedVariables false
set_option maxRecDepth 20000
set_option maxHeartbeats 1000000

/-- a byte that ends any token: a blank of one byte or a slash -/
def endB (c : Int) : Prop := c = 9 ∨ c = 10 ∨ c = 13 ∨ c = 32 ∨ c = 47
/-- two texts agree on the first n bytes; in the second one the byte behind them ends any token, or is that of the first one -/
structure Agree (n : Nat) (r r' : List UInt8) : Prop where
  le : n ≤ r.length
  le' : n ≤ r'.length
  eq : r.take n = r'.take n
  fin : n < r'.length → endB (byteAt r' n) ∨ (n < r.length ∧ byteAt r' n = byteAt r n)
theorem endB.dig {c : Int} (h : endB c) : dig c = false := by rcases h with rfl | rfl | rfl | rfl | rfl <;> rfl
theorem endB.idPart {c : Int} (h : endB c) : idPart c = false := by rcases h with rfl | rfl | rfl | rfl | rfl <;> rfl
theorem endB.idStart {c : Int} (h : endB c) : idStart c = false := by rcases h with rfl | rfl | rfl | rfl | rfl <;> rfl
section
variable {n : Nat} {r r' : List UInt8}
theorem Agree.get (h : Agree n r r') (k : Nat) (hk : k < n) : r[k]? = r'[k]? := by
  have := congrArg (fun l => l[k]?) h.eq
  simpa [List.getElem?_take, hk] using this
theorem Agree.byte (h : Agree n r r') (k : Nat) (hk : k < n) : byteAt r' k = byteAt r k := by
  unfold byteAt
  rw [List.getD_eq_getElem?_getD, List.getD_eq_getElem?_getD, h.get k hk]
theorem Agree.getD (h : Agree n r r') (k : Nat) (hk : k < n) : r'.getD k 0 = r.getD k 0 := by
  rw [List.getD_eq_getElem?_getD, List.getD_eq_getElem?_getD, h.get k hk]
theorem Agree.is (h : Agree n r r') (k : Nat) (hk : k < n) (c : Int) : isAt r' k c = isAt r k c := by
  unfold isAt
  rw [h.get k hk]
theorem Agree.isEnd (h : Agree n r r') : (∀ c : Int, ¬ endB c → isAt r' n c = false) ∨ (∀ c : Int, isAt r' n c = isAt r n c) := by
  rcases Nat.lt_or_ge n r'.length with hl | hl
  · rcases h.fin hl with hf | hf
    · left
      intro c hc
      rw [isAt_in _ _ _ hl]
      exact decide_eq_false (fun e => hc (e ▸ hf))
    · right
      intro c
      rw [isAt_in _ _ _ hl, isAt_in _ _ _ hf.1, hf.2]
  · exact .inl fun c _ => isAt_out _ _ _ hl
/-- a class of bytes that has no end, and not the byte at n, has not that of the other text -/
theorem Agree.cls (h : Agree n r r') (f : Int → Bool) (hf : ∀ c, endB c → f c = false) (hr : n < r.length → f (byteAt r n) = false) (hl : n < r'.length) : f (byteAt r' n) = false := by
  rcases h.fin hl with hx | hx
  · exact hf _ hx
  · rw [hx.2]; exact hr hx.1
theorem Agree.take (h : Agree n r r') (k : Nat) (hk : k ≤ n) : r'.take k = r.take k := by
  have := congrArg (List.take k) h.eq
  rw [List.take_take, List.take_take, Nat.min_eq_left hk] at this
  exact this.symm
theorem Agree.sub (h : Agree n r r') (a b : Nat) (hb : b ≤ n) : sub r' a b = sub r a b := by
  unfold Go.Proofs.YtcelnnjjakiehaaGreatDoor.sub
  rw [h.take b hb]
theorem Agree.drop (h : Agree n r r') (k : Nat) (hk : k ≤ n) : Agree (n - k) (r.drop k) (r'.drop k) := by
  have h1 := h.le; have h2 := h.le'
  refine ⟨by rw [List.length_drop]; omega, by rw [List.length_drop]; omega, ?_, ?_⟩
  · rw [← List.drop_take, ← List.drop_take, h.eq]
  · intro hl
    rw [List.length_drop] at hl
    rw [byteAt_drop, byteAt_drop, show k + (n - k) = n from by omega, List.length_drop]
    rcases h.fin (by omega) with hx | hx
    · exact .inl hx
    · exact .inr ⟨by omega, hx.2⟩
theorem Agree.pre (h : Agree n r r') (q : List UInt8) (i : Nat) (hi : i + q.length ≤ n) : q.isPrefixOf (r'.drop i) = q.isPrefixOf (r.drop i) := by
  have e : (r'.drop i).take q.length = (r.drop i).take q.length := by
    have := h.sub i (i + q.length) hi
    unfold Go.Proofs.YtcelnnjjakiehaaGreatDoor.sub at this
    rw [List.drop_take, List.drop_take, Nat.add_sub_cancel_left] at this
    exact this
  rw [Bool.eq_iff_iff, List.isPrefixOf_iff_prefix, List.isPrefixOf_iff_prefix, List.prefix_iff_eq_take, List.prefix_iff_eq_take, e]

theorem idPart_dig {c : Int} (h : idPart c = false) : dig c = false ∧ c ≠ 69 ∧ c ≠ 101 := by
  unfold idPart at h
  unfold dig
  simp at h ⊢
  omega
theorem idPart_hex {c : Int} (h : idPart c = false) : hexd c = false := by
  unfold idPart at h
  unfold hexd
  simp at h ⊢
  omega
theorem numStep_end (h : Agree n r r') (hx it ex : Bool) (hE : n < r.length → idPart (byteAt r n) = false) (hs : numStep r hx n it ex = none) : numStep r' hx n it ex = none := by
  unfold numStep at hs ⊢
  by_cases hl : n < r'.length
  · rw [if_pos hl]
    rcases h.fin hl with hb | hb
    · generalize byteAt r' n = c at *
      rcases hb with rfl | rfl | rfl | rfl | rfl <;> cases hx <;> cases ex <;> cases it <;> rfl
    · have h1 := hE hb.1
      have h2 := idPart_dig h1
      have h3 := idPart_hex h1
      rw [if_pos hb.1] at hs
      rw [hb.2]
      simp only [h2.1, h3, Bool.and_false, Bool.false_eq_true, if_false, decide_eq_false h2.2.1, decide_eq_false h2.2.2, Bool.or_self] at hs ⊢
      exact hs
  · rw [if_neg hl]
theorem numRun_ge (r : List UInt8) (h : Bool) : ∀ m i it ex, i ≤ (numRun r h m i it ex).1 := by
  intro m
  induction m with
  | zero => intro i it ex; exact Nat.le_refl _
  | succ m ih =>
    intro i it ex
    rw [numRun]
    cases hs : numStep r h i it ex with
    | none => exact Nat.le_refl _
    | some p =>
      obtain ⟨j, it', ex'⟩ := p
      have h1 := numStep_lt _ _ _ _ _ _ _ _ hs
      have h2 := ih j it' ex'
      simp only
      omega
theorem numStep_agree (hA : Agree n r r') (h it ex : Bool) (i j : Nat) (it' ex' : Bool) (hi : i < n) (hs : numStep r h i it ex = some (j, it', ex'))
    (he : h = false → j < r.length → dig (byteAt r j) = true → j < n) : numStep r' h i it ex = some (j, it', ex') := by
  have h1 := hA.le; have h2 := hA.le'
  unfold numStep at hs ⊢
  rw [if_pos (by omega)] at hs ⊢
  rw [hA.byte i hi]
  by_cases c1 : (!h && dig (byteAt r i)) = true
  · rw [if_pos c1] at hs ⊢; exact hs
  · rw [if_neg c1] at hs ⊢
    by_cases c2 : (h && hexd (byteAt r i)) = true
    · rw [if_pos c2] at hs ⊢; exact hs
    · rw [if_neg c2] at hs ⊢
      by_cases c3 : (!h && !ex && it && decide (byteAt r i = 46)) = true
      · rw [if_pos c3] at hs ⊢; exact hs
      · rw [if_neg c3] at hs ⊢
        by_cases c4 : (!h && !ex && (decide (byteAt r i = 69) || decide (byteAt r i = 101))) = true
        · rw [if_pos c4] at hs ⊢
          by_cases c5 : (decide (expAt r i < r.length) && dig (byteAt r (expAt r i))) = true
          · rw [if_pos c5] at hs
            simp only [Bool.and_eq_true, decide_eq_true_eq, Bool.not_eq_true'] at c4 c5
            injection hs with hs
            obtain ⟨rfl, rfl, rfl⟩ : expAt r i = j ∧ false = it' ∧ true = ex' := by
              injection hs with e1 e2; injection e2 with e2 e3; exact ⟨e1, e2, e3⟩
            have hj := he c4.1.1 c5.1 c5.2
            have hgt : i + 1 ≤ expAt r i := by unfold expAt; split <;> omega
            have hE : expAt r' i = expAt r i := by
              unfold expAt
              rw [hA.is (i + 1) (by omega), hA.is (i + 1) (by omega)]
            rw [hE, hA.byte _ hj, if_pos (by simp only [Bool.and_eq_true, decide_eq_true_eq]; exact ⟨by omega, c5.2⟩)]
          · rw [if_neg c5] at hs; cases hs
        · rw [if_neg c4] at hs; cases hs
theorem numRun_gt (r : List UInt8) (m j : Nat) (it ex : Bool) (hm : 0 < m) (hj : j < r.length) (hd : dig (byteAt r j) = true) : j < (numRun r false m j it ex).1 := by
  obtain ⟨m, rfl⟩ : ∃ k, m = k + 1 := ⟨m - 1, by omega⟩
  rw [numRun]
  have hs : numStep r false j it ex = some (j + 1, it, ex) := by
    unfold numStep
    rw [if_pos hj, if_pos (by simpa using hd)]
  rw [hs]
  exact numRun_ge _ _ _ _ _ _
theorem numRun_agree (hA : Agree n r r') (hE : n < r.length → idPart (byteAt r n) = false) (h : Bool) : ∀ (m m' i : Nat) (it ex it2 : Bool), i ≤ n → r.length + 1 ≤ m + i → r'.length + 1 ≤ m' + i → numRun r h m i it ex = (n, it2) → numRun r' h m' i it ex = (n, it2) := by
  have hle := hA.le; have hle' := hA.le'
  intro m
  induction m with
  | zero => intro m' i it ex it2 h1 h2; omega
  | succ m ih =>
    intro m' i it ex it2 h1 h2 h3 hr
    obtain ⟨m', rfl⟩ : ∃ k, m' = k + 1 := ⟨m' - 1, by omega⟩
    rw [numRun] at hr ⊢
    cases hs : numStep r h i it ex with
    | none =>
      rw [hs] at hr
      injection hr with e1 e2
      subst e1 e2
      rw [numStep_end hA _ _ _ hE hs]
    | some p =>
      obtain ⟨j, it', ex'⟩ := p
      rw [hs] at hr
      simp only at hr
      have hj := numStep_lt _ _ _ _ _ _ _ _ hs
      have hge := numRun_ge r h m j it' ex'
      rw [hr] at hge
      simp only at hge
      have hs' := numStep_agree hA h it ex i j it' ex' (by omega) hs (fun hh hl hd => by
        subst hh
        have := numRun_gt r m j it' ex' (by omega) hl hd
        rw [hr] at this
        exact this)
      rw [hs']
      exact ih m' j it' ex' it2 hge (by omega) (by omega) hr
theorem numHex_agree (hA : Agree n r r') (h0 : 0 < n) (hn : (numEnd r).1 = n) : numHex r' = numHex r := by
  by_cases h2 : 2 ≤ n
  · unfold numHex
    rw [hA.is 0 (by omega), hA.is 1 (by omega), hA.is 1 (by omega)]
  · have h1 : n = 1 := by omega
    subst h1
    rcases hA.isEnd with hf | hf
    rotate_left
    · unfold numHex
      rw [hA.is 0 (by omega), hf, hf]
    have e : numHex r' = false := by
      unfold numHex
      rw [hf 120 (by unfold endB; omega), hf 88 (by unfold endB; omega)]
      simp
    rw [e]
    cases hx : numHex r with
    | false => rfl
    | true =>
      unfold numEnd at hn
      rw [hx] at hn
      have := numRun_ge r true (r.length + 1) 2 true false
      rw [if_pos rfl] at hn
      omega
theorem numEnd_agree (hA : Agree n r r') (hE : n < r.length → idPart (byteAt r n) = false) (h0 : 0 < n) (hn : (numEnd r).1 = n) : numEnd r' = numEnd r := by
  have hx := numHex_agree hA h0 hn
  unfold numEnd at hn ⊢
  rw [hx]
  have hge := numRun_ge r (numHex r) (r.length + 1) (if numHex r then 2 else 0) true false
  rw [hn] at hge
  exact (numRun_agree hA hE (numHex r) (r.length + 1) (r'.length + 1) _ true false _ hge (by omega) (by omega) (Prod.ext hn rfl)).trans (show _ = (n, _) from Prod.ext hn rfl).symm
theorem number_agree (hA : Agree n r r') (h0 : 0 < n) {t : Tk} (h : number false r = .ok t) (ht : t.len = n) : number false r' = .ok t := by
  have hn : (numEnd r).1 = n := by
    unfold number at h
    simp only at h
    split at h
    · cases h
    · cases h; exact ht
  have hx := numHex_agree hA h0 hn
  have hE : n < r.length → idPart (byteAt r n) = false := by
    intro hl
    unfold number at h
    simp only at h
    rw [hn] at h
    cases hi : idPart (byteAt r n) with
    | false => rfl
    | true => rw [hi, if_pos ⟨hl, rfl⟩] at h; cases h
  have he := numEnd_agree hA hE h0 hn
  unfold number at h ⊢
  simp only at h ⊢
  rw [hx, he, hn]
  rw [hn] at h
  rw [if_neg (by
    intro hh
    have := hA.cls idPart (fun _ => endB.idPart) hE hh.1
    rw [this] at hh
    cases hh.2)]
  split at h
  · cases h
  · exact h

theorem badAt_agree (hA : Agree n r r') (f : Int → Bool) (i : Nat) : ∀ m j, i + j + m ≤ n → badAt f r i j m = none → badAt f r' i j m = none := by
  have h1 := hA.le; have h2 := hA.le'
  intro m
  induction m with
  | zero => intro j _ _; rfl
  | succ m ih =>
    intro j hj hb
    by_cases hg : i + j < r.length ∧ f (byteAt r (i + j)) = true
    · rw [badAt_go f r i j m hg.1 hg.2] at hb
      rw [badAt_go f r' i j m (by omega) (by rw [hA.byte _ (by omega)]; exact hg.2)]
      exact ih (j + 1) (by omega) hb
    · rw [badAt_stop f r i j m hg] at hb
      cases hb
theorem qEsc_agree (hA : Agree n r r') (raw uni : Bool) (i : Nat) (d : Int) (k : Nat) (out : List UInt8) (h : qEsc raw uni r i d = .next k out) (hk : i + k + 1 ≤ n) : qEsc raw uni r' i d = .next k out := by
  unfold qEsc at h ⊢
  cases raw with
  | true =>
    rw [if_pos rfl] at h ⊢
    cases h
    rw [hA.getD (i + 1) (by omega)]
  | false =>
    rw [if_neg (by decide)] at h ⊢
    cases hs : simpleEsc d with
    | some v => simp only [hs] at h ⊢; exact h
    | none =>
      simp only [hs] at h ⊢
      by_cases hx : d = 120 ∨ d = 88
      · rw [if_pos hx] at h ⊢
        cases hb : badAt hexd r (i + 2) 0 2 with
        | some j => rw [hb] at h; cases h
        | none =>
          rw [hb] at h
          cases h
          rw [badAt_agree hA hexd (i + 2) 2 0 (by omega) hb]
          simp only
          rw [hA.sub _ _ (by omega)]
      · rw [if_neg hx] at h ⊢
        by_cases hu : d = 117 ∨ d = 85
        · rw [if_pos hu] at h ⊢
          by_cases hun : (!uni) = true
          · rw [if_pos hun] at h; cases h
          · rw [if_neg hun] at h ⊢
            generalize (if d = 85 then 8 else 4) = m at *
            cases hb : badAt hexd r (i + 2) 0 m with
            | some j => rw [hb] at h; cases h
            | none =>
              rw [hb] at h
              simp only at h
              by_cases hv : (55296 ≤ valL 16 (Go.Proofs.YtcelnnjjakiehaaGreatDoor.sub r (i + 2) (i + 2 + m)) ∧ valL 16 (Go.Proofs.YtcelnnjjakiehaaGreatDoor.sub r (i + 2) (i + 2 + m)) ≤ 57343) ∨ 1114111 < valL 16 (Go.Proofs.YtcelnnjjakiehaaGreatDoor.sub r (i + 2) (i + 2 + m))
              · rw [if_pos hv] at h; cases h
              · rw [if_neg hv] at h
                cases h
                rw [badAt_agree hA hexd (i + 2) m 0 (by omega) hb]
                simp only
                rw [hA.sub _ _ (by omega), if_neg hv]
        · rw [if_neg hu] at h ⊢
          by_cases ho : 48 ≤ d ∧ d ≤ 51
          · rw [if_pos ho] at h ⊢
            cases hb : badAt oct r (i + 2) 0 2 with
            | some j => rw [hb] at h; cases h
            | none =>
              rw [hb] at h
              cases h
              rw [badAt_agree hA oct (i + 2) 2 0 (by omega) hb]
              simp only
              rw [hA.sub _ _ (by omega)]
          · rw [if_neg ho] at h; cases h
theorem qEsc_what (raw uni : Bool) (i : Nat) (d : Int) : qEsc raw uni r i d ≠ .close ∧ ∀ k out, qEsc raw uni r i d = .next k out → 1 ≤ k := by
  have key : ∀ x, qEsc raw uni r i d = x → x ≠ .close ∧ ∀ k out, x = .next k out → 1 ≤ k := by
    intro x h
    unfold qEsc at h
    have hn : ∀ a b, QS.next a b ≠ .close ∧ (1 ≤ a → ∀ k out, QS.next a b = .next k out → 1 ≤ k) := fun a b => ⟨(fun e => by cases e), (fun ha k out e => by cases e; exact ha)⟩
    have hf : ∀ a b c, QS.fault a b c ≠ .close ∧ ∀ k out, QS.fault a b c = .next k out → 1 ≤ k := fun a b c => ⟨(fun e => by cases e), (fun k out e => by cases e)⟩
    have hnx : ∀ a b, 1 ≤ a → QS.next a b ≠ .close ∧ ∀ k out, QS.next a b = .next k out → 1 ≤ k := fun a b ha => ⟨(hn a b).1, (hn a b).2 ha⟩
    split at h
    · rw [← h]; exact hnx _ _ (Nat.le_refl _)
    · split at h
      · rw [← h]; exact hnx _ _ (Nat.le_refl _)
      · split at h
        · split at h
          · rw [← h]; exact hf _ _ _
          · rw [← h]; exact hnx _ _ (by omega)
        · split at h
          · split at h
            · rw [← h]; exact hf _ _ _
            · simp only at h
              generalize (if d = 85 then 8 else 4) = m at *
              split at h
              · rw [← h]; exact hf _ _ _
              · split at h
                · rw [← h]; exact hf _ _ _
                · rw [← h]; exact hnx _ _ (by omega)
          · split at h
            · split at h
              · rw [← h]; exact hf _ _ _
              · rw [← h]; exact hnx _ _ (by omega)
            · rw [← h]; exact hf _ _ _
  exact key _ rfl
theorem qstep_agree (hA : Agree n r r') (q : List UInt8) (raw uni : Bool) (i k : Nat) (out : List UInt8) (h : qstep q raw uni r i = .next k out) (hk : i + k + 1 + q.length ≤ n) : qstep q raw uni r' i = .next k out := by
  have h1 := hA.le; have h2 := hA.le'
  unfold qstep at h ⊢
  rw [hA.pre q i (by omega), hA.byte i (by omega), hA.getD i (by omega)]
  split at h
  · cases h
  · split at h
    · split at h
      · next hp h92 hlt =>
        have hk1 : 1 ≤ k := (qEsc_what raw uni i _).2 k out h
        rw [if_neg hp, if_pos h92, if_pos (by omega), hA.byte (i + 1) (by omega)]
        exact qEsc_agree hA raw uni i _ k out h (by omega)
      · cases h
    · split at h
      · cases h
      · next hp h92 h10 => rw [if_neg hp, if_neg h92, if_neg h10]; exact h
theorem qstep_close (q : List UInt8) (raw uni : Bool) (r : List UInt8) (i : Nat) (h : qstep q raw uni r i = .close) : q.isPrefixOf (r.drop i) = true := by
  unfold qstep at h
  split at h
  · next hp => exact hp
  · split at h
    · split at h
      · exact absurd h (qEsc_what raw uni i _).1
      · cases h
    · split at h <;> cases h
theorem qrun_agree (hA : Agree n r r') (q : List UInt8) (raw uni ident : Bool) (hq : 0 < q.length) : ∀ d i acc t, r.length - i ≤ d → qrun q raw uni ident r i acc = .ok t n → qrun q raw uni ident r' i acc = .ok t n := by
  have h1 := hA.le; have h2 := hA.le'
  intro d
  induction d with
  | zero =>
    intro i acc t hd h
    rw [qrun_out _ _ _ _ _ _ _ (by omega)] at h
    cases h
  | succ d ih =>
    intro i acc t hd h
    have hn := qrun_len q raw uni ident r r.length i acc t n (by omega) h
    have hlt : i < r.length := by omega
    rw [qrun_in _ _ _ _ _ _ _ hlt] at h
    rw [qrun_in _ _ _ _ _ _ _ (by omega)]
    cases hs : qstep q raw uni r i with
    | close =>
      rw [hs] at h
      have hc : qstep q raw uni r' i = .close := by
        unfold qstep
        rw [hA.pre q i (by omega), if_pos (qstep_close _ _ _ _ _ hs)]
      rw [hc]
      exact h
    | next k out =>
      rw [hs] at h
      simp only at h
      have hn2 := qrun_len q raw uni ident r r.length (i + k + 1) _ t n (by omega) h
      rw [qstep_agree hA q raw uni i k out hs (by omega)]
      exact ih (i + k + 1) _ t (by omega) h
    | fault p e k => rw [hs] at h; cases h
theorem qtok_agree (hA : Agree n r r') (q : List UInt8) (raw uni ident : Bool) (kind : List UInt8) (off : Nat) (hq : 0 < q.length) {t : Tk} (h : qtok q raw uni ident kind off r = .ok t) (ht : t.len = n) : qtok q raw uni ident kind off r' = .ok t ∧ off + q.length + q.length ≤ n := by
  unfold qtok at h ⊢
  cases hh : qrun q raw uni ident (r.drop off) q.length [] with
  | err p e => rw [hh] at h; cases h
  | ok tx m =>
    rw [hh] at h
    cases h
    have hm : off + m = n := ht
    have hl := qrun_len q raw uni ident (r.drop off) (r.drop off).length q.length [] tx m (by omega) hh
    have hA2 := hA.drop off (by omega)
    rw [show n - off = m from by omega] at hA2
    rw [qrun_agree hA2 q raw uni ident hq (r.drop off).length q.length [] tx (by omega) hh]
    exact ⟨rfl, by omega⟩
theorem delim_agree (hA : Agree n r r') (i : Nat) (hc : byteAt r i = 34 ∨ byteAt r i = 39) (h2 : i + (delim r i).length + (delim r i).length ≤ n) (h1 : 1 ≤ (delim r i).length) : delim r' i = delim r i := by
  have e0 := hA.byte i (by omega)
  have e1 := hA.getD i (by omega)
  have hne : ¬ endB (byteAt r i) := by unfold endB; omega
  have hi1 := hA.is (i + 1) (by omega) (byteAt r i)
  unfold delim at h2 ⊢
  rw [e0, e1, hi1]
  rcases Nat.lt_or_ge (i + 2) n with h3 | h3
  · rw [hA.is (i + 2) h3]
  · have h4 : n = i + 2 := by
      have : 1 ≤ (delim r i).length := h1
      unfold delim at this
      omega
    rcases hA.isEnd with hf | hf
    rotate_left
    · rw [← h4, hf]
    have h5 : isAt r' (i + 2) (byteAt r i) = false := by rw [← h4]; exact hf _ hne
    rw [h5, Bool.and_false, if_neg (by decide)]
    split at h2
    · simp only [List.length_cons, List.length_nil] at h2; omega
    · next hh => rw [if_neg hh]
theorem pfx_ge (r : List UInt8) : ∀ m i by_ ra j b a, pfx r m i by_ ra = some (j, b, a) → i ≤ j := by
  intro m
  induction m with
  | zero => intro i by_ ra j b a h; cases h
  | succ m ih =>
    intro i by_ ra j b a h
    unfold pfx at h
    split at h
    · split at h
      · have := ih _ _ _ _ _ _ h; omega
      · split at h
        · have := ih _ _ _ _ _ _ h; omega
        · split at h
          · cases h; omega
          · cases h
    · cases h
theorem idPart_q {c : Int} (h : idPart c = false) : c ≠ 66 ∧ c ≠ 98 ∧ c ≠ 82 ∧ c ≠ 114 := by
  unfold idPart at h
  simp at h
  omega
theorem pfx_none (hA : Agree n r r') (hE : n < r.length → idPart (byteAt r n) = false) : ∀ m i by_ ra, i ≤ n → pfx r m i by_ ra = none → pfx r' m i by_ ra = none := by
  have hl1 := hA.le; have hl2 := hA.le'
  intro m
  induction m with
  | zero => intro i by_ ra _ _; rfl
  | succ m ih =>
    intro i by_ ra hi h
    rcases Nat.lt_or_ge i n with hin | hin
    · unfold pfx at h ⊢
      rw [if_pos (by omega)] at h ⊢
      simp only [hA.is i hin]
      split at h
      · next c1 => rw [if_pos c1]; exact ih _ _ _ (by omega) h
      · next c1 =>
        rw [if_neg c1]
        split at h
        · next c2 => rw [if_pos c2]; exact ih _ _ _ (by omega) h
        · next c2 =>
          rw [if_neg c2]
          split at h
          · cases h
          · next c3 => rw [if_neg c3]
    · have hin : i = n := by omega
      subst hin
      rcases hA.isEnd with hf | hf
      · unfold pfx
        split
        · rw [hf 66 (by unfold endB; omega), hf 98 (by unfold endB; omega), hf 82 (by unfold endB; omega), hf 114 (by unfold endB; omega), hf 34 (by unfold endB; omega), hf 39 (by unfold endB; omega)]
          simp
        · rfl
      · rcases Nat.lt_or_ge i r.length with hlr | hlr
        rotate_left
        · unfold pfx
          split
          · rw [hf, hf, hf, hf, hf, hf]
            simp [isAt_out _ _ _ hlr]
          · rfl
        have hq := idPart_q (hE hlr)
        unfold pfx at h ⊢
        rw [if_pos hlr] at h
        split
        · rw [hf, hf, hf, hf, hf, hf]
          simp only [isAt_in _ _ _ hlr, decide_eq_false hq.1, decide_eq_false hq.2.1, decide_eq_false hq.2.2.1, decide_eq_false hq.2.2.2, Bool.or_self, Bool.and_false, Bool.false_eq_true, if_false] at h ⊢
          split at h
          · cases h
          · next c3 => rw [if_neg c3]
        · rfl
theorem pfx_some (hA : Agree n r r') : ∀ m i by_ ra j b a, pfx r m i by_ ra = some (j, b, a) → j < n → pfx r' m i by_ ra = some (j, b, a) := by
  have hl1 := hA.le; have hl2 := hA.le'
  intro m
  induction m with
  | zero => intro i by_ ra j b a h; cases h
  | succ m ih =>
    intro i by_ ra j b a h hj
    have hge := pfx_ge _ _ _ _ _ _ _ _ h
    have hin : i < n := by omega
    unfold pfx at h ⊢
    rw [if_pos (by omega)] at h ⊢
    simp only [hA.is i hin]
    split at h
    · next c1 => rw [if_pos c1]; exact ih _ _ _ _ _ _ h hj
    · next c1 =>
      rw [if_neg c1]
      split at h
      · next c2 => rw [if_pos c2]; exact ih _ _ _ _ _ _ h hj
      · next c2 =>
        rw [if_neg c2]
        split at h
        · next c3 => rw [if_pos c3]; exact h
        · cases h
end
theorem takeWhile_all (p : UInt8 → Bool) : ∀ l : List UInt8, ∀ x ∈ l.takeWhile p, p x = true := by
  intro l
  induction l with
  | nil => intro x hx; cases hx
  | cons c t ih =>
    intro x hx
    rw [List.takeWhile_cons] at hx
    split at hx
    · next hc =>
      rcases List.mem_cons.1 hx with rfl | hx
      · exact hc
      · exact ih x hx
    · cases hx
theorem take_wordLen (r : List UInt8) : r.take (wordLen r) = r.takeWhile (fun b => idPart (b.toNat : Int)) := by
  unfold wordLen
  exact (List.prefix_iff_eq_take.1 (List.takeWhile_prefix _)).symm
theorem wordLen_app (a b : List UInt8) (ha : ∀ x ∈ a, idPart (x.toNat : Int) = true) (hb : 0 < b.length → idPart (byteAt b 0) = false) : wordLen (a ++ b) = a.length := by
  unfold wordLen
  induction a with
  | nil =>
    cases b with
    | nil => rfl
    | cons c t =>
      have h : idPart (c.toNat : Int) = false := hb (by simp)
      rw [List.nil_append, List.takeWhile_cons, if_neg (by rw [h]; decide)]
  | cons c t ih =>
    rw [List.cons_append, List.takeWhile_cons, if_pos (ha c (by simp)), List.length_cons, ih (fun x hx => ha x (by simp [hx]))]
    rfl
section
variable {n : Nat} {r r' : List UInt8}
theorem wordLen_stop (r : List UInt8) (h : wordLen r < r.length) : idPart (byteAt r (wordLen r)) = false := by
  induction r with
  | nil => simp at h
  | cons c t ih =>
    unfold wordLen at h ih ⊢
    rw [List.takeWhile_cons] at h ⊢
    split
    · next hc =>
      rw [if_pos hc] at h
      exact ih (by simpa using h)
    · next hc =>
      show idPart (c.toNat : Int) = false
      simpa using hc
theorem wordLen_agree (hA : Agree n r r') (h : wordLen r = n) : wordLen r' = n := by
  have hE : n < r.length → idPart (byteAt r n) = false := by
    intro hl
    subst h
    exact wordLen_stop r hl
  have e : r' = r'.take n ++ r'.drop n := (List.take_append_drop n r').symm
  have hl := hA.le'
  have hlen : (r'.take n).length = n := by rw [List.length_take]; omega
  rw [e, wordLen_app, hlen]
  · intro x hx
    rw [hA.take n (Nat.le_refl _), ← h, take_wordLen] at hx
    exact takeWhile_all _ _ x hx
  · intro hb
    rw [List.length_drop] at hb
    rw [byteAt_drop, Nat.add_zero]
    exact hA.cls idPart (fun _ => endB.idPart) hE (by omega)
theorem twoSym_agree (hA : Agree n r r') (h0 : 0 < n) (c : UInt8) {t : Tk} (ht : t.len = n) : ∀ l : List UInt8, (∀ d ∈ l, ¬ endB (d.toNat : Int)) → twoSym r c l = .ok t → twoSym r' c l = .ok t := by
  intro l
  induction l with
  | nil => intro _ h; exact h
  | cons d l ih =>
    intro hd h
    unfold twoSym at h ⊢
    rcases Nat.lt_or_ge 1 n with h1 | h1
    · rw [hA.is 1 h1]
      split at h
      · next c1 => rw [if_pos c1]; exact h
      · next c1 => rw [if_neg c1]; exact ih (fun x hx => hd x (by simp [hx])) h
    · have h1 : n = 1 := by omega
      subst h1
      rcases hA.isEnd with hf | hf
      rotate_left
      · rw [hf]
        split at h
        · next c1 => rw [if_pos c1]; exact h
        · next c1 => rw [if_neg c1]; exact ih (fun x hx => hd x (by simp [hx])) h
      rw [hf _ (hd d (by simp)), if_neg (by decide)]
      split at h
      · cases h; cases ht
      · exact ih (fun x hx => hd x (by simp [hx])) h
theorem seconds_end (c : Int) : ∀ d ∈ seconds c, ¬ endB (d.toNat : Int) := by
  unfold seconds
  repeat' split
  all_goals
    intro d hd
    simp only [List.mem_cons, List.not_mem_nil, or_false] at hd
    try (rcases hd with rfl | rfl | rfl <;> (unfold endB; decide))
    try (rcases hd with rfl | rfl <;> (unfold endB; decide))
    try (subst hd; unfold endB; decide)
theorem tok_agree (hA : Agree n r r') (h0 : 0 < n) (last : List UInt8) {t : Tk} (h : tok last r = .ok t) (ht : t.len = n) : tok last r' = .ok t := by
  have h1 := hA.le; have h2 := hA.le'
  have hr : r ≠ [] := fun e => by subst e; simp at h1; omega
  have hr' : r' ≠ [] := fun e => by subst e; simp at h2; omega
  have hl : 0 < r.length := by omega
  have hl' : 0 < r'.length := by omega
  unfold tok at h ⊢
  rw [if_neg hr] at h
  rw [if_neg hr', hA.byte 0 h0, hA.getD 0 h0]
  by_cases c1 : oneSym (byteAt r 0) = true
  · rw [if_pos c1] at h ⊢; exact h
  rw [if_neg c1] at h ⊢
  by_cases c2 : byteAt r 0 = 46
  · rw [if_pos c2] at h ⊢
    unfold dotTok at h ⊢
    by_cases c3 : (!nextDot last && (decide (1 < r.length) && dig (byteAt r 1))) = true
    · rw [if_pos c3] at h
      have c3' := c3
      simp only [Bool.and_eq_true, decide_eq_true_eq] at c3'
      have hn2 : 2 ≤ n := by
        have hn : (numEnd r).1 = n := by
          unfold number at h
          simp only at h
          split at h
          · cases h
          · cases h; exact ht
        have hx : numHex r = false := by
          unfold numHex
          rw [isAt_in r 0 48 hl, c2]
          rfl
        unfold numEnd at hn
        rw [hx, if_neg (by decide), numRun] at hn
        have hs : numStep r false 0 true false = some (1, false, false) := by
          unfold numStep
          rw [if_pos hl, c2]
          rfl
        rw [hs] at hn
        simp only at hn
        have := numRun_gt r r.length 1 false false hl c3'.2.1 c3'.2.2
        omega
      rw [if_pos (by simp only [Bool.and_eq_true, decide_eq_true_eq]; exact ⟨c3'.1, by omega, by rw [hA.byte 1 (by omega)]; exact c3'.2.2⟩)]
      exact number_agree hA h0 h ht
    · rw [if_neg c3] at h
      have hn1 : n = 1 := by cases h; exact ht.symm
      subst hn1
      rw [if_neg (by
        intro hh
        simp only [Bool.and_eq_true, decide_eq_true_eq] at hh
        have := hA.cls dig (fun _ => endB.dig) (fun hl1 => by
          cases hd : dig (byteAt r 1) with
          | false => rfl
          | true => exact absurd (by simp only [Bool.and_eq_true, decide_eq_true_eq]; exact ⟨hh.1, hl1, hd⟩) c3) hh.2.1
        rw [this] at hh
        cases hh.2.2)]
      exact h
  rw [if_neg c2] at h ⊢
  by_cases c4 : seconds (byteAt r 0) ≠ []
  · rw [if_pos c4] at h ⊢
    exact twoSym_agree hA h0 _ ht _ (seconds_end _) h
  rw [if_neg c4] at h ⊢
  by_cases c5 : byteAt r 0 = 64
  · rw [if_pos c5] at h ⊢
    unfold atTok at h ⊢
    by_cases c6 : isAt r 1 64 = true
    · rw [if_pos c6] at h
      have hn2 : n = 2 := by cases h; exact ht.symm
      rw [hA.is 1 (by omega), if_pos c6]; exact h
    · rw [if_neg c6] at h
      by_cases c7 : 1 < r.length ∧ idStart (byteAt r 1) = true
      · rw [if_pos c7] at h
        have hw := wordLen_pos (r.drop 1) (by rw [List.length_drop]; omega) (by rw [byteAt_drop]; exact c7.2)
        have hn : 1 + wordLen (r.drop 1) = n := by cases h; exact ht
        have hA2 := hA.drop 1 (by omega)
        rw [show n - 1 = wordLen (r.drop 1) from by omega] at hA2
        rw [hA.is 1 (by omega), if_neg c6, if_pos ⟨by omega, by rw [hA.byte 1 (by omega)]; exact c7.2⟩, wordLen_agree hA2 rfl, hA2.take _ (Nat.le_refl _)]
        exact h
      · rw [if_neg c7] at h
        have hn1 : n = 1 := by cases h; exact ht.symm
        subst hn1
        have e64 : isAt r' 1 64 = false := by
          rcases hA.isEnd with hf | hf
          · exact hf 64 (by unfold endB; omega)
          · rw [hf]; simpa using c6
        rw [e64, if_neg (by decide), if_neg (by
          intro hh
          have := hA.cls idStart (fun _ => endB.idStart) (fun hl1 => by
            cases hd : idStart (byteAt r 1) with
            | false => rfl
            | true => exact absurd ⟨hl1, hd⟩ c7) hh.1
          rw [this] at hh
          cases hh.2)]
        exact h
  rw [if_neg c5] at h ⊢
  by_cases c8 : byteAt r 0 = 96
  · rw [if_pos c8] at h ⊢
    exact (qtok_agree hA [96] false true true kIdent 0 (by decide) h ht).1
  rw [if_neg c8] at h ⊢
  by_cases c9 : dig (byteAt r 0) = true
  · rw [if_pos c9] at h ⊢
    exact number_agree hA h0 h ht
  rw [if_neg c9] at h ⊢
  unfold restTok at h ⊢
  cases hp : pfx r 3 0 false false with
  | some p =>
    obtain ⟨i, by_, raw⟩ := p
    rw [hp] at h
    simp only at h
    have hpa := pfx_at r 3 0 false false i by_ raw hp
    have hdl := delim_len (r.drop i)
    rw [delim_drop0] at hdl
    have hd1 : 1 ≤ (delim r i).length := by omega
    have hq := qtok_agree hA (delim r i) raw (!by_) false (if by_ then kBytes else kString) i (by omega) h ht
    rw [pfx_some hA 3 0 false false i by_ raw hp (by omega)]
    simp only
    rw [delim_agree hA i hpa.2 hq.2 hd1]
    exact hq.1
  | none =>
    rw [hp] at h
    simp only at h
    by_cases c10 : idStart (byteAt r 0) = true
    · rw [if_pos c10] at h
      unfold wordTok at h
      have hn : wordLen r = n := by
        split at h
        · cases h; exact ht
        · cases h; exact ht
      rw [pfx_none hA (fun hl1 => by rw [← hn] at hl1 ⊢; exact wordLen_stop r hl1) 3 0 false false (Nat.zero_le _) hp]
      simp only
      rw [hA.byte 0 h0, if_pos c10]
      unfold wordTok
      rw [wordLen_agree hA hn, hA.take n (Nat.le_refl _)]
      rw [hn] at h
      exact h
    · rw [if_neg c10] at h; cases h
theorem anyTok_agree (hA : Agree n r r') (h0 : 0 < n) (dot : Bool) (last : List UInt8) {t : Tk} (h : anyTok dot last r = .ok t) (ht : t.len = n) : anyTok dot last r' = .ok t := by
  have h1 := hA.le; have h2 := hA.le'
  unfold anyTok at h ⊢
  cases dot with
  | false => rw [if_neg (by decide)] at h ⊢; exact tok_agree hA h0 last h ht
  | true =>
    rw [if_pos rfl] at h ⊢
    unfold ftok at h ⊢
    rw [hA.byte 0 h0]
    by_cases c : 0 < r.length ∧ idPart (byteAt r 0) = true
    · rw [if_pos c] at h
      have hn : wordLen r = n := by cases h; exact ht
      rw [if_pos ⟨by omega, c.2⟩, wordLen_agree hA hn, hA.take n (Nat.le_refl _)]
      rw [hn] at h
      exact h
    · rw [if_neg c] at h
      rw [if_neg (fun hh => c ⟨by omega, hh.2⟩)]
      exact tok_agree hA h0 last h ht
end
end Go.Proofs.YtcelnnjjakiehaaGreatDoor
namespace Go.Proofs.YtcelnnjjakiehaaGreatDoor
set_option linter.unusedVariables false
set_option maxRecDepth 20000
set_option maxHeartbeats 1000000

theorem spOne_hs (r : List UInt8) : spOne r = Lib.headSpace r := by
  unfold spOne
  by_cases h : r = []
  · rw [if_pos h, h, Lib.headSpace_nil]
  · rw [if_neg h, Lib.headSpace_eq r h]
    rfl
theorem spOne_seq (q t : List UInt8) (hq : q ∈ Lib.spaceSeqs) : spOne (q ++ t) = q.length := by
  have hne : q ≠ [] := by
    intro e
    subst e
    revert hq
    decide
  have h := Lib.seq_decodes q hq t
  unfold spOne
  rw [if_neg (by simp [hne])]
  show (if Lib.isSpaceR (Lib.decodeL (q ++ t)).1 then (Lib.decodeL (q ++ t)).2 else 0) = q.length
  rw [if_pos h.1, h.2]
theorem spOne_agree (r r' : List UInt8) (h0 : spOne r ≠ 0) (h : r.take (spOne r) = r'.take (spOne r)) : spOne r' = spOne r := by
  have hr : r ≠ [] := by intro e; subst e; exact h0 rfl
  have h1 : spOne r = if Lib.isSpaceR (Lib.decodeL r).1 then (Lib.decodeL r).2 else 0 := by
    unfold spOne; rw [if_neg hr]; rfl
  by_cases hs : Lib.isSpaceR (Lib.decodeL r).1 = true
  · rw [if_pos hs] at h1
    have h2 := Lib.space_has_seq r hr hs
    rw [← h1] at h2
    have hl : (r.take (spOne r)).length = spOne r := by rw [List.length_take]; omega
    have e : r' = r.take (spOne r) ++ r'.drop (spOne r) := by rw [h]; exact (List.take_append_drop _ _).symm
    rw [e, spOne_seq _ _ h2.1, hl]
  · rw [if_neg hs] at h1
    exact absurd h1 h0
theorem dec_low (c : UInt8) (t : List UInt8) (hc : c.toNat < 128) : dec (c :: t) = (c.toNat, 1) := by
  unfold dec Utf8.decode
  have e : ((⟨(c :: t).toArray⟩ : ByteArray).get! (0 + 0)) = c := by
    simp [ByteArray.get!]
  simp only [e]
  rw [if_pos hc]
theorem spOne_low (c : UInt8) (t : List UInt8) (hc : c.toNat < 128) : spOne (c :: t) = if (9 ≤ c.toNat ∧ c.toNat ≤ 13) ∨ c.toNat = 32 then 1 else 0 := by
  unfold spOne
  rw [if_neg (by simp), dec_low c t hc]
  unfold Lib.isSpaceR
  by_cases h : (9 ≤ c.toNat ∧ c.toNat ≤ 13) ∨ c.toNat = 32
  · rw [if_pos h, if_pos (by simp; omega)]
  · rw [if_neg h, if_neg (by simp; omega)]
theorem spOne_byte (r : List UInt8) (h0 : 0 < r.length) (h1 : byteAt r 0 < 128) (h2 : ¬ ((9 ≤ byteAt r 0 ∧ byteAt r 0 ≤ 13) ∨ byteAt r 0 = 32)) : spOne r = 0 := by
  cases r with
  | nil => simp at h0
  | cons c t =>
    have e : byteAt (c :: t) 0 = (c.toNat : Int) := rfl
    rw [e] at h1 h2
    rw [spOne_low c t (by omega), if_neg (by omega)]
/-- behind its blanks no blank stands -/
theorem spLen_idem : ∀ (n : Nat) (r : List UInt8), r.length ≤ n → spOne (r.drop (spLen r)) = 0 := by
  intro n
  induction n with
  | zero =>
    intro r h
    have e : r = [] := List.eq_nil_of_length_eq_zero (by omega)
    subst e
    rw [List.drop_nil]
    rfl
  | succ n ih =>
    intro r h
    by_cases h0 : spOne r = 0
    · rw [spLen_stop r h0]; exact h0
    · have hle := spOne_le r
      rw [spLen_step r h0, ← List.drop_drop]
      exact ih _ (by rw [List.length_drop]; omega)
theorem spLen_drop (r : List UInt8) : spLen (r.drop (spLen r)) = 0 := spLen_stop _ (spLen_idem r.length r (Nat.le_refl _))
theorem spLen_agree : ∀ (n : Nat) (r r' : List UInt8), r.length ≤ n → r.take (spLen r) = r'.take (spLen r) → spLen r ≤ r'.length → spLen r' = spLen r + spLen (r'.drop (spLen r)) := by
  intro n
  induction n with
  | zero =>
    intro r r' h _ _
    have e : r = [] := List.eq_nil_of_length_eq_zero (by omega)
    subst e
    rw [spLen_stop [] rfl]
    simp
  | succ n ih =>
    intro r r' h ht hl
    by_cases h0 : spOne r = 0
    · rw [spLen_stop r h0]; simp
    · have hle := spOne_le r
      have hs := spLen_step r h0
      have hk : r.take (spOne r) = r'.take (spOne r) := by
        have := congrArg (List.take (spOne r)) ht
        rw [List.take_take, List.take_take, Nat.min_eq_left (by omega)] at this
        exact this
      have h1 := spOne_agree r r' h0 hk
      have h2 := spLen_step r' (by omega)
      rw [h1] at h2
      have h3 := ih (r.drop (spOne r)) (r'.drop (spOne r)) (by rw [List.length_drop]; omega) (by
        have := congrArg (List.drop (spOne r)) ht
        rw [List.drop_take, List.drop_take, hs, Nat.add_sub_cancel_left] at this
        exact this) (by rw [List.length_drop]; omega)
      rw [List.drop_drop] at h3
      rw [h2, h3, hs, Nat.add_assoc]

theorem findEnd_agree (q : List UInt8) (hq0 : 0 < q.length) : ∀ (r r' : List UInt8) (m : Nat), findEnd q r = some m → r.take m = r'.take m → m ≤ r'.length → findEnd q r' = some m := by
  intro r
  induction r with
  | nil => intro r' m h; simp [findEnd] at h
  | cons c t ih =>
    intro r' m h ht hl
    have hb := findEnd_le q _ _ h
    unfold findEnd at h
    cases r' with
    | nil =>
      simp at hl
      omega
    | cons c' t' =>
      unfold findEnd
      have hpre : ∀ k : Nat, k ≤ m → ((c :: t).take k = (c' :: t').take k) := by
        intro k hk
        have := congrArg (List.take k) ht
        rw [List.take_take, List.take_take, Nat.min_eq_left hk] at this
        exact this
      have hq := hpre q.length (by omega)
      have hpq : q.isPrefixOf (c' :: t') = q.isPrefixOf (c :: t) := by
        rw [Bool.eq_iff_iff, List.isPrefixOf_iff_prefix, List.isPrefixOf_iff_prefix, List.prefix_iff_eq_take, List.prefix_iff_eq_take, hq]
      rw [hpq]
      split at h
      · next hp => rw [if_pos hp]; exact h
      · next hp =>
        rw [if_neg hp]
        cases hf : findEnd q t with
        | none => rw [hf] at h; simp at h
        | some m2 =>
          rw [hf] at h
          simp at h
          subst h
          simp at ht
          rw [ih t' m2 hf ht.2 (by simpa using hl)]
          rfl
/-- the first bytes of a comment -/
theorem comment_head (r : List UInt8) (n : Nat) (h : comment r = .closed n) : 0 < r.length ∧ (byteAt r 0 = 35 ∨ byteAt r 0 = 45 ∨ byteAt r 0 = 47) := by
  unfold comment at h
  split at h
  · cases h
  · next c t =>
    refine ⟨by simp, ?_⟩
    have e : byteAt (c :: t) 0 = (c.toNat : Int) := rfl
    rw [e]
    split at h
    · next h1 => subst h1; exact .inl rfl
    · split at h
      · next h1 => rw [h1.1]; exact .inr (.inl rfl)
      · split at h
        · next h1 => rw [h1.1]; exact .inr (.inr rfl)
        · cases h
theorem comment_agree (r r' : List UInt8) (n : Nat) (h : comment r = .closed n) (ht : r.take n = r'.take n) (hl : n ≤ r'.length) (hn : n < r.length) : comment r' = .closed n := by
  have hp := comment_le r n h
  have hline : lineCom r = .closed n → lineCom r' = .closed n := by
    intro h
    unfold lineCom at h ⊢
    injection h with h
    cases hf : findEnd [10] r with
    | none => rw [hf] at h; simp at h; omega
    | some m =>
      rw [hf] at h
      simp at h
      subst h
      rw [findEnd_agree _ (by decide) _ _ _ hf ht hl]
      rfl
  have hblock : blockCom r = .closed n → blockCom r' = .closed n := by
    intro h
    unfold blockCom at h ⊢
    cases hf : findEnd [42, 47] r with
    | none => rw [hf] at h; cases h
    | some m =>
      rw [hf] at h
      injection h with h
      subst h
      rw [findEnd_agree _ (by decide) _ _ _ hf ht hl]
  have hone : ∀ c : UInt8, ∀ t : List UInt8, r = c :: t → ∃ t', r' = c :: t' ∧ (2 ≤ n → ∀ k : Int, isAt r' 1 k = isAt r 1 k) := by
    intro c t e
    subst e
    cases r' with
    | nil => simp at hl; omega
    | cons c' t' =>
      have h1 : (c :: t).take 1 = (c' :: t').take 1 := by
        have := congrArg (List.take 1) ht
        rw [List.take_take, List.take_take, Nat.min_eq_left (by omega)] at this
        exact this
      simp at h1
      subst h1
      refine ⟨t', rfl, fun h2 k => ?_⟩
      have := congrArg (fun l => l[1]?) ht
      simp only [List.getElem?_take, if_pos (show 1 < n by omega)] at this
      unfold isAt
      rw [this]
  have h2 : comment r ≠ .no := by rw [h]; intro e; cases e
  unfold comment at h
  split at h
  · cases h
  · next c t =>
    obtain ⟨t', e, his⟩ := hone c t rfl
    split at h
    · next h1 =>
      have := hline h
      rw [e] at this ⊢
      unfold comment
      simp only
      rw [if_pos h1]; exact this
    · next h1 =>
      split at h
      · next h3 =>
        have hn2 : 2 ≤ n := by
          unfold lineCom at h
          injection h with h
          have hlen := len_two h3.2
          cases hf : findEnd [10] (c :: t) with
          | none => rw [hf] at h; simp at h; simp at hlen; omega
          | some m =>
            rw [hf] at h
            simp at h
            subst h
            unfold findEnd at hf
            rw [if_neg (by rw [h3.1]; simp [List.isPrefixOf])] at hf
            cases hf2 : findEnd [10] t with
            | none => rw [hf2] at hf; simp at hf
            | some m2 => have := findEnd_le _ _ _ hf2; rw [hf2] at hf; simp at hf this; omega
        have := hline h
        have h4 := his hn2 45
        rw [e] at this h4 ⊢
        unfold comment
        simp only
        rw [if_neg h1, if_pos ⟨h3.1, by rw [h4]; exact h3.2⟩]; exact this
      · next h3 =>
        split at h
        · next h5 =>
          have hn2 : 2 ≤ n := by
            unfold blockCom at h
            cases hf : findEnd [42, 47] (c :: t) with
            | none => rw [hf] at h; cases h
            | some m => have := findEnd_le _ _ _ hf; rw [hf] at h; injection h with h; simp at this; omega
          have := hblock h
          have h4 := his hn2 45
          have h6 := his hn2 42
          rw [e] at this h4 h6 ⊢
          unfold comment
          simp only
          rw [if_neg h1, if_neg (by rw [h4]; exact h3), if_pos ⟨h5.1, by rw [h6]; exact h5.2⟩]; exact this
        · cases h

/-- WHAT STANDS AHEAD OF A TOKEN, where another text agrees with this one up to there -/
theorem lead_agree : ∀ (d : Nat) (r r' : List UInt8) (p : Nat) (acc cs : List Cm) (sp : List UInt8) (n : Nat), r.length ≤ d → lead p r acc = .ok cs sp n → r.take (n - p) = r'.take (n - p) → n - p ≤ r'.length → n - p < r.length →
    comment (r'.drop (n - p + spLen (r'.drop (n - p)))) = .no → lead p r' acc = .ok cs (sp ++ (r'.drop (n - p)).take (spLen (r'.drop (n - p)))) (n + spLen (r'.drop (n - p))) := by
  intro d
  induction d with
  | zero =>
    intro r r' p acc cs sp n hd h ht hl hn
    omega
  | succ d ih =>
    intro r r' p acc cs sp n hd h ht hl hn hc
    have hs := spLen_le r
    cases hcm : comment (r.drop (spLen r)) with
    | no =>
      rw [lead_no p r acc hcm] at h
      cases h
      rw [Nat.add_sub_cancel_left] at ht hl hn hc ⊢
      have h1 := spLen_agree r.length r r' (Nat.le_refl _) ht hl
      rw [lead_no p r' acc (by rw [h1]; exact hc), h1, List.take_add, ht, Nat.add_assoc]
    | open_ => rw [lead_open p r acc hcm] at h; cases h
    | closed m =>
      have hm := comment_le _ _ hcm
      rw [List.length_drop] at hm
      rw [lead_closed p r acc m hcm] at h
      have htx := lead_text (r.drop (spLen r + m)).length _ _ _ _ _ _ (Nat.le_refl _) h
      rw [List.length_drop] at htx
      have hsub : ∀ k : Nat, k ≤ n - p → r.take k = r'.take k := by
        intro k hk
        have := congrArg (List.take k) ht
        rw [List.take_take, List.take_take, Nat.min_eq_left hk] at this
        exact this
      have hmid : ∀ k j : Nat, k + j ≤ n - p → (r.drop k).take j = (r'.drop k).take j := by
        intro k j hk
        have := congrArg (List.drop k) (hsub (k + j) hk)
        rw [List.drop_take, List.drop_take, Nat.add_sub_cancel_left] at this
        exact this
      have hcm' : comment (r'.drop (spLen r)) = .closed m := comment_agree _ _ _ hcm (hmid _ _ (by omega)) (by rw [List.length_drop]; omega) (by rw [List.length_drop]; omega)
      have hhd := comment_head _ _ hcm'
      have h0 : spLen (r'.drop (spLen r)) = 0 := spLen_stop _ (spOne_byte _ hhd.1 (by omega) (by omega))
      have h1 := spLen_agree r.length r r' (Nat.le_refl _) (hsub _ (by omega)) (by omega)
      rw [h0, Nat.add_zero] at h1
      rw [lead_closed p r' acc m (by rw [h1]; exact hcm'), h1, ← hsub (spLen r) (by omega), ← hmid (spLen r) m (by omega)]
      have e1 : n - (p + spLen r + m) = n - p - (spLen r + m) := by omega
      have e2 : ∀ l : List UInt8, (l.drop (spLen r + m)).drop (n - (p + spLen r + m)) = l.drop (n - p) := by
        intro l
        rw [List.drop_drop, e1, show spLen r + m + (n - p - (spLen r + m)) = n - p from by omega]
      have e3 : ∀ x, (r'.drop (spLen r + m)).drop (n - (p + spLen r + m) + x) = r'.drop (n - p + x) := by
        intro x
        rw [List.drop_drop, e1, show spLen r + m + (n - p - (spLen r + m) + x) = n - p + x from by omega]
      have h9 := ih (r.drop (spLen r + m)) (r'.drop (spLen r + m)) _ _ cs sp n (by rw [List.length_drop]; omega) h (by rw [e1]; exact hmid _ _ (by omega)) (by rw [List.length_drop]; omega) (by rw [List.length_drop]; omega) (by rw [e2, e3]; exact hc)
      rw [e2] at h9
      exact h9
/-- where a token begins, no blank and no comment stands -/
theorem lead_head : ∀ (d : Nat) (r : List UInt8) (p : Nat) (acc cs : List Cm) (sp : List UInt8) (n : Nat), r.length ≤ d → lead p r acc = .ok cs sp n → spLen (r.drop (n - p)) = 0 ∧ comment (r.drop (n - p)) = .no := by
  intro d
  induction d with
  | zero =>
    intro r p acc cs sp n hd h
    have e : r = [] := List.eq_nil_of_length_eq_zero (by omega)
    subst e
    rw [List.drop_nil]
    exact ⟨spLen_stop [] rfl, rfl⟩
  | succ d ih =>
    intro r p acc cs sp n hd h
    have hs := spLen_le r
    cases hcm : comment (r.drop (spLen r)) with
    | no =>
      rw [lead_no p r acc hcm] at h
      cases h
      rw [Nat.add_sub_cancel_left]
      exact ⟨spLen_drop r, hcm⟩
    | open_ => rw [lead_open p r acc hcm] at h; cases h
    | closed m =>
      have hm := comment_le _ _ hcm
      rw [List.length_drop] at hm
      rw [lead_closed p r acc m hcm] at h
      have htx := lead_text (r.drop (spLen r + m)).length _ _ _ _ _ _ (Nat.le_refl _) h
      have h9 := ih _ _ _ _ _ _ (by rw [List.length_drop]; omega) h
      rw [List.drop_drop, show spLen r + m + (n - (p + spLen r + m)) = n - p from by omega] at h9
      exact h9
/-- where a token begins, nothing stands ahead of it -/
theorem lead_at (p q : Nat) (r : List UInt8) (acc acc' cs : List Cm) (sp : List UInt8) (n : Nat) (h : lead p r acc = .ok cs sp n) : lead q (r.drop (n - p)) acc' = .ok acc' [] q := by
  obtain ⟨h1, h2⟩ := lead_head r.length r p acc cs sp n (Nat.le_refl _) h
  rw [lead_no q _ acc' (by rw [h1, List.drop_zero]; exact h2), h1]
  rfl
/-- the places are shifted, nothing else -/
def Cm.shift (d : Nat) (c : Cm) : Cm := ⟨c.space, c.raw, c.pos + d⟩
def Lead.shift (d : Nat) : Lead → Lead
  | .ok cs sp n => .ok (cs.map (Cm.shift d)) sp (n + d)
  | .err cs p => .err (cs.map (Cm.shift d)) (p + d)
theorem lead_shift (d : Nat) : ∀ (k : Nat) (r : List UInt8) (p : Nat) (acc : List Cm), r.length ≤ k → lead (p + d) r (acc.map (Cm.shift d)) = (lead p r acc).shift d := by
  intro k
  induction k with
  | zero =>
    intro r p acc hk
    have e : r = [] := List.eq_nil_of_length_eq_zero (by omega)
    subst e
    have hs : spLen [] = 0 := spLen_stop [] rfl
    rw [lead_no _ [] _ (by rw [hs]; rfl), lead_no _ [] _ (by rw [hs]; rfl), hs]
    rfl
  | succ k ih =>
    intro r p acc hk
    have hs := spLen_le r
    cases hcm : comment (r.drop (spLen r)) with
    | no =>
      rw [lead_no _ r _ hcm, lead_no _ r _ hcm]
      show Lead.ok _ _ (p + d + spLen r) = Lead.ok _ _ (p + spLen r + d)
      rw [show p + d + spLen r = p + spLen r + d from by omega]
    | open_ =>
      rw [lead_open _ r _ hcm, lead_open _ r _ hcm, show p + d + spLen r = p + spLen r + d from by omega]
      show Lead.err _ _ = Lead.err _ _
      rw [List.map_append]
      rfl
    | closed m =>
      have hm := comment_le _ _ hcm
      rw [List.length_drop] at hm
      rw [lead_closed _ r _ m hcm, lead_closed _ r _ m hcm, ← ih _ _ _ (by rw [List.length_drop]; omega), List.map_append, show p + d + spLen r + m = p + spLen r + m + d from by omega, show p + d + spLen r = p + spLen r + d from by omega]
      rfl
/-- the places are shifted, nothing else -/
def TkF.shift (d : Nat) (t : TkF) : TkF := ⟨t.kind, t.coms.map (Cm.shift d), t.space, t.raw, t.text, t.base, t.pos + d, t.fin + d⟩
def NR.shift (d : Nat) : NR → NR
  | .ok t dot => .ok (t.shift d) dot
  | .err p e => .err (p + d) (e + d)
theorem next_shift (l last : List UInt8) (dot : Bool) (d p : Nat) (hd : d ≤ l.length) : next l last dot (p + d) = (next (l.drop d) last dot p).shift d := by
  have e : ∀ n, (l.drop d).drop n = l.drop (n + d) := fun n => by rw [List.drop_drop, Nat.add_comm]
  have h := lead_shift d (l.drop (p + d)).length (l.drop (p + d)) p [] (Nat.le_refl _)
  unfold next
  rw [e p]
  change lead (p + d) (l.drop (p + d)) [] = _ at h
  rw [h]
  cases hl : lead p (l.drop (p + d)) [] with
  | err cs q =>
    show NR.err (q + d) l.length = NR.err (q + d) ((l.drop d).length + d)
    rw [List.length_drop, Nat.sub_add_cancel hd]
  | ok cs sp n =>
    show (match anyTok dot last (l.drop (n + d)) with | .ok t => NR.ok ⟨t.kind, cs.map (Cm.shift d), sp, (l.drop (n + d)).take t.len, t.text, t.base, n + d, n + d + t.len⟩ (!dot && t.dot.getD false) | .err a b => NR.err (n + d + a) (n + d + b)) = _
    simp only [e n]
    cases ht : anyTok dot last (l.drop (n + d)) with
    | ok t => simp only [NR.shift, TkF.shift]; rw [show n + d + t.len = n + t.len + d from by omega]
    | err a b => simp only [NR.shift]; rw [show n + d + a = n + a + d from by omega, show n + d + b = n + b + d from by omega]
end Go.Proofs.YtcelnnjjakiehaaGreatDoor
