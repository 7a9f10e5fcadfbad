/-
  The contract of token.ZzKeyword.
  The contract of consumeQuotedContent in the form that its callers use.
-/
import Derived.Test.YtcelnnjjakiehaaGreatDoorTok0
import Derived.Test.YtcelnnjjakiehaaGreatDoorQl
namespace Go.Proofs.YtcelnnjjakiehaaGreatDoor
open Go.RowKit
set_option linter.unusedVariables false
set_option maxRecDepth 1000000
set_option maxHeartbeats 16000000

theorem kw_true {k : ByteArray} {l : List UInt8} (h : (k.toList == l) = true) (hl : kws.contains l = true) : kw k.data.toList = true := by
  have e := eq_of_beq h
  rw [Lib.toList_data] at e
  unfold kw
  rw [e]; exact hl
theorem kw_false {k : ByteArray} (h : (kws.map fun l => k.toList == l).all (fun b => !b) = true) : kw k.data.toList = false := by
  unfold kw
  rw [List.all_map, List.all_eq_true] at h
  rw [Bool.eq_false_iff]
  intro hc
  rw [List.contains_iff_mem] at hc
  have := h _ hc
  simp [Lib.toList_data] at this
theorem kw_any (k : ByteArray) (w : World) :
    Calls Tryz.prog 46 #[.string k] w fun e w' => e = .returned (.bool (kw k.data.toList)) ∧ w = w' := by
  have ht : ∀ l, (k.toList == l) = true → kws.contains l = true → kw k.data.toList = true := fun l h1 h2 => kw_true h1 h2
  have hf : (kws.map fun l => k.toList == l).all (fun b => !b) = true → kw k.data.toList = false := kw_false
  generalize kw k.data.toList = R at *
  have HT := Lib.hid ht; have HF := Lib.hid hf; clear ht hf
  go_enter Tryz.func46, Tryz.ntmps46
  go_wp2
  all_goals
    first
      | (rename_i h1 h2; rw [h1] at h2; exact absurd h2 (by decide))
      | (rename_i h1 h2; rw [h2] at h1; exact absurd h1 (by decide))
      | (go_ret; refine ⟨ret_bool ?_, rfl⟩; exact (HT.out _ (by assumption) (by decide)).symm)
      | (go_ret; refine ⟨ret_bool ?_, rfl⟩; exact (HF.out (by simp only [kws, List.map_cons, List.map_nil, List.all_cons, List.all_nil, Bool.not_false, Bool.and_self, *])).symm)
end Go.Proofs.YtcelnnjjakiehaaGreatDoor
namespace Go.Proofs.YtcelnnjjakiehaaGreatDoor
open Go.RowKit
set_option linter.unusedVariables false
set_option maxRecDepth 20000
set_option maxHeartbeats 1000000

/-- the ways of reading: the loose one in calm texts alone -/
def Mode (np : Bool) (s : ByteArray) : Prop := np = true → calm s.data.toList
theorem mode_strict {s : ByteArray} : Mode false s := fun h => absurd h (by decide)
theorem quotedN_any {W w0 w : World} {lb fb : Nat} {s : ByteArray} {x : LexSt} (h : Cur W w0 lb fb s x w) (np : Bool) (hm : Mode np s) (q : ByteArray) (raw uni : Bool) (name : ByteArray) (ident : Bool) (hq : q.size = 1 ∨ q.size = 3) (hql : q.size ≤ s.size - x.pos)
    (hn1 : (name.toList == [105, 100, 101, 110, 116, 105, 102, 105, 101, 114]) = ident) (hn2 : ident = true → q.size = 1) (hn3 : name.size ≤ 1000)
    (hg : np = false → (qrun q.data.toList raw uni ident (s.data.toList.drop x.pos) q.size []).good (s.size - x.pos)) :
    Calls Tryz.prog 71 #[.pointer (some ⟨lb, 0, none⟩), .string q, .bool raw, .bool uni, .string name, .bool np] w (QReadN W w0 lb fb s x np (qrun q.data.toList raw uni ident (s.data.toList.drop x.pos) q.size [])) :=
  quotedB_any h np q raw uni name ident hq hql hn1 hn2 hn3 hg hm
theorem qstep_len (q : List UInt8) (raw uni : Bool) (r : List UInt8) (i k : Nat) (out : List UInt8) (hi : i < r.length) (h : qstep q raw uni r i = .next k out) : i + k + 1 ≤ r.length := by
  unfold qstep at h
  split at h
  · cases h
  · split at h
    · split at h
      · next hlt =>
        unfold qEsc at h
        split at h
        · cases h; omega
        · split at h
          · cases h; omega
          · split at h
            · split at h
              · cases h
              · next hb =>
                have := (badAt_none hexd r (i + 2) 2 0 hb 1 (by omega) (by omega)).1
                cases h; omega
            · split at h
              · split at h
                · cases h
                · simp only at h
                  split at h
                  · cases h
                  · next hb =>
                    generalize (if byteAt r (i + 1) = 85 then 8 else 4) = n at *
                    split at h
                    · cases h
                    · injection h with h1 h2
                      subst h1
                      rcases Nat.eq_zero_or_pos n with h0 | h0
                      · omega
                      · have := (badAt_none hexd r (i + 2) n 0 hb (n - 1) (by omega) (by omega)).1
                        omega
              · split at h
                · split at h
                  · cases h
                  · next hb =>
                    have := (badAt_none oct r (i + 2) 2 0 hb 1 (by omega) (by omega)).1
                    cases h; omega
                · cases h
      · cases h
    · split at h
      · cases h
      · cases h; omega
theorem qrun_len (q : List UInt8) (raw uni ident : Bool) (r : List UInt8) : ∀ d i acc t n, r.length - i ≤ d → qrun q raw uni ident r i acc = .ok t n → i + q.length ≤ n ∧ n ≤ r.length := by
  intro d
  induction d with
  | zero =>
    intro i acc t n hd h
    rw [qrun_out _ _ _ _ _ _ _ (by omega)] at h
    cases h
  | succ d ih =>
    intro i acc t n hd h
    by_cases hi : i < r.length
    · rw [qrun_in _ _ _ _ _ _ _ hi] at h
      cases hs : qstep q raw uni r i with
      | close =>
        rw [hs] at h
        simp only at h
        split at h
        · cases h
        · have hp : q.isPrefixOf (r.drop i) = true := by
            unfold qstep at hs
            split at hs
            · assumption
            · exfalso
              split at hs
              · split at hs
                · unfold qEsc at hs
                  split at hs
                  · cases hs
                  · split at hs
                    · cases hs
                    · split at hs
                      · split at hs <;> cases hs
                      · split at hs
                        · split at hs
                          · cases hs
                          · simp only at hs
                            generalize (if byteAt r (i + 1) = 85 then 8 else 4) = m at *
                            split at hs
                            · cases hs
                            · split at hs <;> cases hs
                        · split at hs
                          · split at hs <;> cases hs
                          · cases hs
                · cases hs
              · split at hs <;> cases hs
          have := (List.isPrefixOf_iff_prefix.1 hp).length_le
          rw [List.length_drop] at this
          cases h
          omega
      | next k out =>
        rw [hs] at h
        have h1 := qstep_len q raw uni r i k out hi hs
        have h2 := ih (i + k + 1) _ t n (by omega) h
        omega
      | fault p e k => rw [hs] at h; cases h
    · rw [qrun_out _ _ _ _ _ _ _ hi] at h
      cases h
end Go.Proofs.YtcelnnjjakiehaaGreatDoor
