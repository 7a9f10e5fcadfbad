/-
  The contract of consumeToken.
-/
import Derived.Test.YtcelnnjjakiehaaGreatDoorTok7
import Derived.Test.YtcelnnjjakiehaaGreatDoorTok6
import Derived.Test.YtcelnnjjakiehaaGreatDoorTok2
import Derived.Test.YtcelnnjjakiehaaGreatDoorTok3
namespace Go.Proofs.YtcelnnjjakiehaaGreatDoor
open Go.RowKit
set_option linter.unusedVariables false
set_option maxRecDepth 1000000
set_option maxHeartbeats 16000000

theorem tk_eof {W w0 w : World} {lb fb : Nat} {s : ByteArray} {x : LexSt} (h : Cur W w0 lb fb s x w) (np : Bool) (hx : x.text = ⟨#[]⟩ ∧ x.base = 0) (hr : s.data.toList.drop x.pos = []) :
    Calls Tryz.prog 52 #[.pointer (some ⟨lb, 0, none⟩), .bool np] w (ReadN W w0 lb fb s x np (.ok ⟨kEof, [], 0, 0, none⟩)) := by
  have hpos := h.pos
  have hrl : 0 = s.size - x.pos := by have := h.len; rw [hr] at this; exact this
  have HE : Hid (∀ w1, Cur W w0 lb fb s x w1 → Calls Tryz.prog 57 #[.pointer (some ⟨lb, 0, none⟩)] w1 (Did W w0 lb fb s (.bool true) x)) := Lib.hid (fun w1 h1 => by have := eofR h1; rw [show decide (s.size ≤ x.pos) = true from by simp; omega] at this; exact this)
  have h0z : s.size ≤ x.pos := by omega
  clear hrl
  have HC := Lib.hid h; have HX := Lib.hid hx
  clear h hx hr
  go_enter Tryz.func52, Tryz.ntmps52
  go_wp2_with fail
  refine (HE.out _ HC.out).mono ?_
  rintro e w1 ⟨rfl, hC1⟩
  clear HC; have HC := Lib.hid hC1; clear hC1
  have k1 := (HC.out.lex.cell 1).1; have f1 := (HC.out.lex.cell 1).2
  simp only [LexSt.cells, List.getElem?_toArray, List.getElem?_cons_succ, List.getElem?_cons_zero] at k1
  go_wp2_with fail
  go_end0
  refine ReadN.of_ok (by show x.pos + 0 ≤ s.size; omega) (fun hh => by have := h0z; omega) ?_
  rw [took_sym x HX.out, Nat.add_zero]
  exact ⟨rfl, HC.out.set 1 _ _ rfl hpos⟩
theorem consumeToken_any {W w0 w : World} {lb fb : Nat} {s : ByteArray} {x : LexSt} {r : List UInt8} (h : Cur W w0 lb fb s x w) (np : Bool) (hm : Mode np s) (hx : x.text = ⟨#[]⟩ ∧ x.base = 0) (hr : s.data.toList.drop x.pos = r) (hg : np = false → (tok x.last.data.toList r).good r.length) :
    Calls Tryz.prog 52 #[.pointer (some ⟨lb, 0, none⟩), .bool np] w (ReadN W w0 lb fb s x np (tok x.last.data.toList r)) := by
  by_cases hr0 : r = []
  · have e : tok x.last.data.toList r = .ok ⟨kEof, [], 0, 0, none⟩ := by unfold tok; rw [if_pos hr0]
    rw [e]
    exact tk_eof h np hx (hr.trans hr0)
  have hl : 0 < r.length := List.length_pos_iff.2 hr0
  unfold tok at hg ⊢
  rw [if_neg hr0] at hg ⊢
  have hhd : ∀ c : UInt8, byteAt r 0 = (c.toNat : Int) → r.getD 0 0 = c := fun c hc => head_of hc
  cases h1 : oneSym (byteAt r 0) with
  | true =>
    rw [if_pos rfl]
    simp only [oneSym, List.contains_cons, List.contains_nil, Bool.or_false, Bool.or_eq_true, beq_iff_eq] at h1
    rcases h1 with h1 | h1 | h1 | h1 | h1 | h1 | h1 | h1 | h1 | h1 | h1 | h1 | h1 | h1 | h1 | h1 | h1 | h1
    · rw [hhd 40 h1]; exact tk_one40 h np hx hr hl h1
    · rw [hhd 41 h1]; exact tk_one41 h np hx hr hl h1
    · rw [hhd 123 h1]; exact tk_one123 h np hx hr hl h1
    · rw [hhd 125 h1]; exact tk_one125 h np hx hr hl h1
    · rw [hhd 59 h1]; exact tk_one59 h np hx hr hl h1
    · rw [hhd 44 h1]; exact tk_one44 h np hx hr hl h1
    · rw [hhd 91 h1]; exact tk_one91 h np hx hr hl h1
    · rw [hhd 93 h1]; exact tk_one93 h np hx hr hl h1
    · rw [hhd 126 h1]; exact tk_one126 h np hx hr hl h1
    · rw [hhd 42 h1]; exact tk_one42 h np hx hr hl h1
    · rw [hhd 47 h1]; exact tk_one47 h np hx hr hl h1
    · rw [hhd 38 h1]; exact tk_one38 h np hx hr hl h1
    · rw [hhd 94 h1]; exact tk_one94 h np hx hr hl h1
    · rw [hhd 37 h1]; exact tk_one37 h np hx hr hl h1
    · rw [hhd 58 h1]; exact tk_one58 h np hx hr hl h1
    · rw [hhd 63 h1]; exact tk_one63 h np hx hr hl h1
    · rw [hhd 92 h1]; exact tk_one92 h np hx hr hl h1
    · rw [hhd 36 h1]; exact tk_one36 h np hx hr hl h1
  | false =>
    rw [h1, if_neg (by decide)] at hg
    rw [if_neg (by decide)]
    by_cases h2 : byteAt r 0 = 46
    · rw [if_pos h2]
      exact tk_dot h np hx hr hl h2
    rw [if_neg h2] at hg ⊢
    by_cases h3 : seconds (byteAt r 0) ≠ []
    · rw [if_pos h3]
      have h4 : byteAt r 0 = 60 ∨ byteAt r 0 = 62 ∨ byteAt r 0 = 43 ∨ byteAt r 0 = 45 ∨ byteAt r 0 = 61 ∨ byteAt r 0 = 124 ∨ byteAt r 0 = 33 := by
        unfold seconds at h3
        by_cases e1 : byteAt r 0 = 60
        · exact .inl e1
        by_cases e2 : byteAt r 0 = 62
        · exact .inr (.inl e2)
        by_cases e3 : byteAt r 0 = 43
        · exact .inr (.inr (.inl e3))
        by_cases e4 : byteAt r 0 = 45
        · exact .inr (.inr (.inr (.inl e4)))
        by_cases e5 : byteAt r 0 = 61
        · exact .inr (.inr (.inr (.inr (.inl e5))))
        by_cases e6 : byteAt r 0 = 124
        · exact .inr (.inr (.inr (.inr (.inr (.inl e6)))))
        by_cases e7 : byteAt r 0 = 33
        · exact .inr (.inr (.inr (.inr (.inr (.inr e7)))))
        rw [if_neg e1, if_neg e2, if_neg e3, if_neg e4, if_neg e5, if_neg e6, if_neg e7] at h3
        exact absurd rfl h3
      rcases h4 with h4 | h4 | h4 | h4 | h4 | h4 | h4
      · rw [hhd 60 h4, h4, show seconds 60 = [60, 61, 62] from rfl]; exact tk_two60 h np hx hr hl h4
      · rw [hhd 62 h4, h4, show seconds 62 = [62, 61] from rfl]; exact tk_two62 h np hx hr hl h4
      · rw [hhd 43 h4, h4, show seconds 43 = [61] from rfl]; exact tk_two43 h np hx hr hl h4
      · rw [hhd 45 h4, h4, show seconds 45 = [61, 62] from rfl]; exact tk_two45 h np hx hr hl h4
      · rw [hhd 61 h4, h4, show seconds 61 = [62] from rfl]; exact tk_two61 h np hx hr hl h4
      · rw [hhd 124 h4, h4, show seconds 124 = [62, 124] from rfl]; exact tk_two124 h np hx hr hl h4
      · rw [hhd 33 h4, h4, show seconds 33 = [61] from rfl]; exact tk_two33 h np hx hr hl h4
    rw [if_neg h3] at hg ⊢
    by_cases h5 : byteAt r 0 = 64
    · rw [if_pos h5]
      exact tk_at h np hx hr hl h5
    rw [if_neg h5] at hg ⊢
    by_cases h6 : byteAt r 0 = 96
    · rw [if_pos h6] at hg ⊢
      exact tk_bq h np hx hr hl hm h6 hg
    rw [if_neg h6] at hg ⊢
    cases h7 : dig (byteAt r 0) with
    | true =>
      rw [if_pos rfl]
      have h8 : byteAt r 0 = 48 ∨ byteAt r 0 = 49 ∨ byteAt r 0 = 50 ∨ byteAt r 0 = 51 ∨ byteAt r 0 = 52 ∨ byteAt r 0 = 53 ∨ byteAt r 0 = 54 ∨ byteAt r 0 = 55 ∨ byteAt r 0 = 56 ∨ byteAt r 0 = 57 := by
        unfold dig at h7
        rw [decide_eq_true_eq] at h7
        omega
      rcases h8 with h8 | h8 | h8 | h8 | h8 | h8 | h8 | h8 | h8 | h8
      · exact tk_dig48 h np hx hr hl h8
      · exact tk_dig49 h np hx hr hl h8
      · exact tk_dig50 h np hx hr hl h8
      · exact tk_dig51 h np hx hr hl h8
      · exact tk_dig52 h np hx hr hl h8
      · exact tk_dig53 h np hx hr hl h8
      · exact tk_dig54 h np hx hr hl h8
      · exact tk_dig55 h np hx hr hl h8
      · exact tk_dig56 h np hx hr hl h8
      · exact tk_dig57 h np hx hr hl h8
    | false =>
      rw [h7, if_neg (by decide)] at hg
      rw [if_neg (by decide)]
      refine tk_rest h np hx hr hl hm ?_ hg
      intro k hk he
      simp only [headOther, List.mem_cons, List.mem_nil_iff, or_false] at hk
      rw [he] at h1 h2 h3 h5 h6 h7
      rcases hk with rfl | rfl | rfl | rfl | rfl | rfl | rfl | rfl | rfl | rfl | rfl | rfl | rfl | rfl | rfl | rfl | rfl | rfl | rfl | rfl | rfl | rfl | rfl | rfl | rfl | rfl | rfl | rfl | rfl | rfl | rfl | rfl | rfl | rfl | rfl | rfl | rfl | rfl
      all_goals first
        | exact absurd h1 (by decide)
        | exact absurd h7 (by decide)
        | exact h2 rfl
        | exact h5 rfl
        | exact h6 rfl
        | exact h3 (by decide)
end Go.Proofs.YtcelnnjjakiehaaGreatDoor
