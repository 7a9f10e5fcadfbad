/-
  Points, digits: cases of consumeToken.
-/
import Derived.Test.YtcelnnjjakiehaaGreatDoorTok1
import Derived.Test.YtcelnnjjakiehaaGreatDoorNum
namespace Go.Proofs.YtcelnnjjakiehaaGreatDoor
open Go.RowKit
set_option linter.unusedVariables false
set_option maxRecDepth 1000000
set_option maxHeartbeats 16000000

theorem took_dot (x : LexSt) (hx : x.text = ⟨#[]⟩ ∧ x.base = 0) (k : List UInt8) (n : Nat) (d : Bool) : x.took ⟨k, [], 0, n, some d⟩ = { x with kind := ⟨k.toArray⟩, pos := x.pos + n, dot := d } := by
  cases x
  obtain ⟨h1, h2⟩ := hx
  simp only at h1 h2
  subst h1 h2
  rfl
theorem ReadN.ends {W w0 : World} {lb fb : Nat} {s : ByteArray} {x : LexSt} {np : Bool} {rs : Rs} {e : Ending} {w' : World} (h : ReadN W w0 lb fb s x np rs e w') : e = .returned (.tuple #[]) ∨ ∃ c, e = .panicked c := by
  unfold ReadN at h
  cases np with
  | true => obtain ⟨t, _, _, _, h, _⟩ := h; exact .inl h
  | false =>
    cases rs with
    | ok t => exact .inl h.1
    | err p q => obtain ⟨EB, h, _⟩ := h; exact .inr ⟨_, h⟩
theorem tk_dot {W w0 w : World} {lb fb : Nat} {s : ByteArray} {x : LexSt} {r : List UInt8} (h : Cur W w0 lb fb s x w) (np : Bool) (hx : x.text = ⟨#[]⟩ ∧ x.base = 0) (hr : s.data.toList.drop x.pos = r) (hl : 0 < r.length) (hc : byteAt r 0 = 46) :
    Calls Tryz.prog 52 #[.pointer (some ⟨lb, 0, none⟩), .bool np] w (ReadN W w0 lb fb s x np (dotTok x.last.data.toList r)) := by
  have hpos := h.pos
  have hsz := h.sz
  have hrl : r.length = s.size - x.pos := by rw [← hr]; exact h.len
  have HE : Hid (∀ w1, Cur W w0 lb fb s x w1 → Calls Tryz.prog 57 #[.pointer (some ⟨lb, 0, none⟩)] w1 (Did W w0 lb fb s (.bool false) x)) := Lib.hid (fun w1 h1 => by have := eofR h1; rw [show decide (s.size ≤ x.pos) = false from by simp; omega] at this; exact this)
  have HPK : Hid (∀ w1, Cur W w0 lb fb s x w1 → Calls Tryz.prog 65 #[.pointer (some ⟨lb, 0, none⟩), .int .i64 0] w1 (Did W w0 lb fb s (.int .u8 (byteAt r 0)) x)) := Lib.hid (fun w1 h1 => by have := peekR h1 0 0 rfl (by rw [hr]; exact hl); rw [hr] at this; exact this)
  have HSK : Hid (∀ w1, Cur W w0 lb fb s x w1 → Calls Tryz.prog 66 #[.pointer (some ⟨lb, 0, none⟩)] w1 (Did W w0 lb fb s (.int .u8 (byteAt r 0)) { x with pos := x.pos + 1 })) := Lib.hid (fun w1 h1 => by have := skipR h1 (by omega); rw [← hr, byteAt_drop]; exact this)
  have HIS : Hid (∀ w1, Cur W w0 lb fb s x w1 → ∀ c : Int, Calls Tryz.prog 61 #[.pointer (some ⟨lb, 0, none⟩), .int .i64 1, .int .u8 c] w1 (Did W w0 lb fb s (.bool (isAt r 1 c)) x)) := Lib.hid (fun w1 h1 c => by have := peekIsR h1 1 1 c rfl (by omega); rw [hr] at this; exact this)
  have HS2 : Hid (2 ≤ r.length → ∀ w1, Cur W w0 lb fb s x w1 → Calls Tryz.prog 60 #[.pointer (some ⟨lb, 0, none⟩), .int .i64 2] w1 (Did W w0 lb fb s (.tuple #[]) { x with pos := x.pos + 2 })) := Lib.hid (fun h2 w1 h1 => skipNR h1 2 2 rfl (by omega))
  rw [hc] at HPK HSK
  have HND : Hid (∀ w1, Calls Tryz.prog 67 #[.string x.last] w1 fun e w' => e = .returned (.bool (nextDot x.last.data.toList)) ∧ w1 = w') := Lib.hid (fun w1 => nextDot_any x.last w1)
  have HOK : Hid (∀ w1, Cur W w0 lb fb s x w1 → Calls Tryz.prog 63 #[.pointer (some ⟨lb, 0, none⟩), .int .i64 1] w1 (Did W w0 lb fb s (.bool (decide (1 < r.length))) x)) := Lib.hid (fun w1 h1 => by have := peekOkR h1 1 1 rfl (by omega); rw [hr] at this; exact this)
  have HPK1 : Hid (1 < r.length → ∀ w1, Cur W w0 lb fb s x w1 → Calls Tryz.prog 65 #[.pointer (some ⟨lb, 0, none⟩), .int .i64 1] w1 (Did W w0 lb fb s (.int .u8 (byteAt r 1)) x)) := Lib.hid (fun h1l w1 h1 => by have := peekR h1 1 1 rfl (by rw [hr]; exact h1l); rw [hr] at this; exact this)
  have HDG : Hid (∀ w1, Calls Tryz.prog 68 #[.int .u8 (byteAt r 1)] w1 fun e w' => e = .returned (.bool (dig (byteAt r 1))) ∧ w1 = w') := Lib.hid (fun w1 => isDigit_any _ w1)
  have HNUM : Hid (∀ w1, Cur W w0 lb fb s x w1 → Calls Tryz.prog 69 #[.pointer (some ⟨lb, 0, none⟩), .bool np] w1 (ReadN W w0 lb fb s x np (number false r))) := Lib.hid (fun w1 h1 => (consumeNumber_any h1 np hx).mono fun e w' hh => ReadN.of_number hr hpos hl (.inr hc) (by rw [hr] at hh; exact hh))
  have hdt : dotTok x.last.data.toList r = if !nextDot x.last.data.toList && (decide (1 < r.length) && dig (byteAt r 1)) then number false r else .ok ⟨[46], [], 0, 1, some (nextDot x.last.data.toList)⟩ := rfl
  rw [hdt]
  clear hdt
  generalize number false r = NR at *
  generalize nextDot x.last.data.toList = nd at *
  generalize byteAt r 1 = c1 at *
  cases nd with
  | true =>
    rw [if_neg (by simp)]
    have HC := Lib.hid h; have HX := Lib.hid hx
    clear h hx hr
    go_enter Tryz.func52, Tryz.ntmps52
    go_wp2_with fail
    refine (HE.out _ HC.out).mono ?_
    rintro e w1 ⟨rfl, hC1⟩
    clear HC; have HC := Lib.hid hC1; clear hC1
    go_wp2_with fail
    refine (HPK.out _ HC.out).mono ?_
    rintro e w1 ⟨rfl, hC1⟩
    clear HC; have HC := Lib.hid hC1; clear hC1
    have k10 := (HC.out.lex.cell 10).1; have f10 := (HC.out.lex.cell 10).2
    simp only [LexSt.cells, List.getElem?_toArray, List.getElem?_cons_succ, List.getElem?_cons_zero] at k10
    go_wp2_with fail
    refine (HND.out _).mono ?_
    rintro e w2 ⟨rfl, rfl⟩
    clear k10 f10
    go_wp2_with fail
    refine (HSK.out _ HC.out).mono ?_
    rintro e w1 ⟨rfl, hC1⟩
    clear HC; have HC := Lib.hid hC1; clear hC1
    have k1 := (HC.out.lex.cell 1).1; have f1 := (HC.out.lex.cell 1).2
    simp only [LexSt.cells, List.getElem?_toArray, List.getElem?_cons_succ, List.getElem?_cons_zero] at k1
    have k11 := (HC.out.lex.cell 11).1; have f11 := (HC.out.lex.cell 11).2
    simp only [LexSt.cells, List.getElem?_toArray, List.getElem?_cons_succ, List.getElem?_cons_zero] at k11
    go_wp2_with fail
    go_end0
    refine ReadN.of_ok (by show x.pos + 1 ≤ s.size; omega) (fun _ => by show 0 < 1; omega) ?_
    rw [took_dot x HX.out]
    exact ⟨rfl, (HC.out.set 1 _ { x with kind := ⟨#[46]⟩, pos := x.pos + 1 } rfl (by show x.pos + 1 ≤ s.size; omega)).set 11 _ _ rfl (by show x.pos + 1 ≤ s.size; omega)⟩
  | false =>
    by_cases h1 : 1 < r.length
    · rw [show decide (1 < r.length) = true from by simpa using h1] at HOK ⊢
      cases hd : dig c1 with
      | true =>
        rw [if_pos (by simp)]
        rw [hd] at HDG
        clear hd
        have HC := Lib.hid h; have HX := Lib.hid hx
        clear h hx hr
        go_enter Tryz.func52, Tryz.ntmps52
        go_wp2_with fail
        refine (HE.out _ HC.out).mono ?_
        rintro e w1 ⟨rfl, hC1⟩
        clear HC; have HC := Lib.hid hC1; clear hC1
        go_wp2_with fail
        refine (HPK.out _ HC.out).mono ?_
        rintro e w1 ⟨rfl, hC1⟩
        clear HC; have HC := Lib.hid hC1; clear hC1
        have k10 := (HC.out.lex.cell 10).1; have f10 := (HC.out.lex.cell 10).2
        simp only [LexSt.cells, List.getElem?_toArray, List.getElem?_cons_succ, List.getElem?_cons_zero] at k10
        go_wp2_with fail
        refine (HND.out _).mono ?_
        rintro e w2 ⟨rfl, rfl⟩
        clear k10 f10
        go_wp2_with fail
        refine (HOK.out _ HC.out).mono ?_
        rintro e w1 ⟨rfl, hC1⟩
        clear HC; have HC := Lib.hid hC1; clear hC1
        go_wp2_with fail
        refine (HPK1.out h1 _ HC.out).mono ?_
        rintro e w1 ⟨rfl, hC1⟩
        clear HC; have HC := Lib.hid hC1; clear hC1
        go_wp2_with fail
        refine (HDG.out _).mono ?_
        rintro e w2 ⟨rfl, rfl⟩
        go_wp2_with fail
        refine (HNUM.out _ HC.out).mono ?_
        intro e w2 hrd
        have hen := hrd.ends
        have HRD := Lib.hid hrd; clear hrd
        rcases hen with rfl | ⟨cc, rfl⟩
        · go_wp2_with fail
          go_end0
          exact HRD.out
        · go_wp2_with fail
          exact ⟨rfl, HRD.out⟩
      | false =>
        rw [if_neg (by simp)]
        rw [hd] at HDG
        clear hd
        have HC := Lib.hid h; have HX := Lib.hid hx
        clear h hx hr
        go_enter Tryz.func52, Tryz.ntmps52
        go_wp2_with fail
        refine (HE.out _ HC.out).mono ?_
        rintro e w1 ⟨rfl, hC1⟩
        clear HC; have HC := Lib.hid hC1; clear hC1
        go_wp2_with fail
        refine (HPK.out _ HC.out).mono ?_
        rintro e w1 ⟨rfl, hC1⟩
        clear HC; have HC := Lib.hid hC1; clear hC1
        have k10 := (HC.out.lex.cell 10).1; have f10 := (HC.out.lex.cell 10).2
        simp only [LexSt.cells, List.getElem?_toArray, List.getElem?_cons_succ, List.getElem?_cons_zero] at k10
        go_wp2_with fail
        refine (HND.out _).mono ?_
        rintro e w2 ⟨rfl, rfl⟩
        clear k10 f10
        go_wp2_with fail
        refine (HOK.out _ HC.out).mono ?_
        rintro e w1 ⟨rfl, hC1⟩
        clear HC; have HC := Lib.hid hC1; clear hC1
        go_wp2_with fail
        refine (HPK1.out h1 _ HC.out).mono ?_
        rintro e w1 ⟨rfl, hC1⟩
        clear HC; have HC := Lib.hid hC1; clear hC1
        go_wp2_with fail
        refine (HDG.out _).mono ?_
        rintro e w2 ⟨rfl, rfl⟩
        go_wp2_with fail
        refine (HSK.out _ HC.out).mono ?_
        rintro e w1 ⟨rfl, hC1⟩
        clear HC; have HC := Lib.hid hC1; clear hC1
        have k1 := (HC.out.lex.cell 1).1; have f1 := (HC.out.lex.cell 1).2
        simp only [LexSt.cells, List.getElem?_toArray, List.getElem?_cons_succ, List.getElem?_cons_zero] at k1
        have k11 := (HC.out.lex.cell 11).1; have f11 := (HC.out.lex.cell 11).2
        simp only [LexSt.cells, List.getElem?_toArray, List.getElem?_cons_succ, List.getElem?_cons_zero] at k11
        go_wp2_with fail
        go_end0
        refine ReadN.of_ok (by show x.pos + 1 ≤ s.size; omega) (fun _ => by show 0 < 1; omega) ?_
        rw [took_dot x HX.out]
        exact ⟨rfl, (HC.out.set 1 _ { x with kind := ⟨#[46]⟩, pos := x.pos + 1 } rfl (by show x.pos + 1 ≤ s.size; omega)).set 11 _ _ rfl (by show x.pos + 1 ≤ s.size; omega)⟩
    · rw [show decide (1 < r.length) = false from by simpa using h1] at HOK ⊢
      rw [if_neg (by simp)]
      have HC := Lib.hid h; have HX := Lib.hid hx
      clear h hx hr
      go_enter Tryz.func52, Tryz.ntmps52
      go_wp2_with fail
      refine (HE.out _ HC.out).mono ?_
      rintro e w1 ⟨rfl, hC1⟩
      clear HC; have HC := Lib.hid hC1; clear hC1
      go_wp2_with fail
      refine (HPK.out _ HC.out).mono ?_
      rintro e w1 ⟨rfl, hC1⟩
      clear HC; have HC := Lib.hid hC1; clear hC1
      have k10 := (HC.out.lex.cell 10).1; have f10 := (HC.out.lex.cell 10).2
      simp only [LexSt.cells, List.getElem?_toArray, List.getElem?_cons_succ, List.getElem?_cons_zero] at k10
      go_wp2_with fail
      refine (HND.out _).mono ?_
      rintro e w2 ⟨rfl, rfl⟩
      clear k10 f10
      go_wp2_with fail
      refine (HOK.out _ HC.out).mono ?_
      rintro e w1 ⟨rfl, hC1⟩
      clear HC; have HC := Lib.hid hC1; clear hC1
      go_wp2_with fail
      refine (HSK.out _ HC.out).mono ?_
      rintro e w1 ⟨rfl, hC1⟩
      clear HC; have HC := Lib.hid hC1; clear hC1
      have k1 := (HC.out.lex.cell 1).1; have f1 := (HC.out.lex.cell 1).2
      simp only [LexSt.cells, List.getElem?_toArray, List.getElem?_cons_succ, List.getElem?_cons_zero] at k1
      have k11 := (HC.out.lex.cell 11).1; have f11 := (HC.out.lex.cell 11).2
      simp only [LexSt.cells, List.getElem?_toArray, List.getElem?_cons_succ, List.getElem?_cons_zero] at k11
      go_wp2_with fail
      go_end0
      refine ReadN.of_ok (by show x.pos + 1 ≤ s.size; omega) (fun _ => by show 0 < 1; omega) ?_
      rw [took_dot x HX.out]
      exact ⟨rfl, (HC.out.set 1 _ { x with kind := ⟨#[46]⟩, pos := x.pos + 1 } rfl (by show x.pos + 1 ≤ s.size; omega)).set 11 _ _ rfl (by show x.pos + 1 ≤ s.size; omega)⟩
theorem tk_dig48 {W w0 w : World} {lb fb : Nat} {s : ByteArray} {x : LexSt} {r : List UInt8} (h : Cur W w0 lb fb s x w) (np : Bool) (hx : x.text = ⟨#[]⟩ ∧ x.base = 0) (hr : s.data.toList.drop x.pos = r) (hl : 0 < r.length) (hc : byteAt r 0 = 48) :
    Calls Tryz.prog 52 #[.pointer (some ⟨lb, 0, none⟩), .bool np] w (ReadN W w0 lb fb s x np (number false r)) := by
  have hpos := h.pos
  have hsz := h.sz
  have hrl : r.length = s.size - x.pos := by rw [← hr]; exact h.len
  have HE : Hid (∀ w1, Cur W w0 lb fb s x w1 → Calls Tryz.prog 57 #[.pointer (some ⟨lb, 0, none⟩)] w1 (Did W w0 lb fb s (.bool false) x)) := Lib.hid (fun w1 h1 => by have := eofR h1; rw [show decide (s.size ≤ x.pos) = false from by simp; omega] at this; exact this)
  have HPK : Hid (∀ w1, Cur W w0 lb fb s x w1 → Calls Tryz.prog 65 #[.pointer (some ⟨lb, 0, none⟩), .int .i64 0] w1 (Did W w0 lb fb s (.int .u8 (byteAt r 0)) x)) := Lib.hid (fun w1 h1 => by have := peekR h1 0 0 rfl (by rw [hr]; exact hl); rw [hr] at this; exact this)
  have HSK : Hid (∀ w1, Cur W w0 lb fb s x w1 → Calls Tryz.prog 66 #[.pointer (some ⟨lb, 0, none⟩)] w1 (Did W w0 lb fb s (.int .u8 (byteAt r 0)) { x with pos := x.pos + 1 })) := Lib.hid (fun w1 h1 => by have := skipR h1 (by omega); rw [← hr, byteAt_drop]; exact this)
  have HIS : Hid (∀ w1, Cur W w0 lb fb s x w1 → ∀ c : Int, Calls Tryz.prog 61 #[.pointer (some ⟨lb, 0, none⟩), .int .i64 1, .int .u8 c] w1 (Did W w0 lb fb s (.bool (isAt r 1 c)) x)) := Lib.hid (fun w1 h1 c => by have := peekIsR h1 1 1 c rfl (by omega); rw [hr] at this; exact this)
  have HS2 : Hid (2 ≤ r.length → ∀ w1, Cur W w0 lb fb s x w1 → Calls Tryz.prog 60 #[.pointer (some ⟨lb, 0, none⟩), .int .i64 2] w1 (Did W w0 lb fb s (.tuple #[]) { x with pos := x.pos + 2 })) := Lib.hid (fun h2 w1 h1 => skipNR h1 2 2 rfl (by omega))
  have HNUM : Hid (∀ w1, Cur W w0 lb fb s x w1 → Calls Tryz.prog 69 #[.pointer (some ⟨lb, 0, none⟩), .bool np] w1 (ReadN W w0 lb fb s x np (number false r))) := Lib.hid (fun w1 h1 => (consumeNumber_any h1 np hx).mono fun e w' hh => ReadN.of_number hr hpos hl (.inl (by rw [hc]; rfl)) (by rw [hr] at hh; exact hh))
  rw [hc] at HPK HSK
  generalize number false r = NR at *
  have HC := Lib.hid h; have HX := Lib.hid hx
  clear h hx hr
  go_enter Tryz.func52, Tryz.ntmps52
  go_wp2_with fail
  refine (HE.out _ HC.out).mono ?_
  rintro e w1 ⟨rfl, hC1⟩
  clear HC; have HC := Lib.hid hC1; clear hC1
  go_wp2_with fail
  refine (HPK.out _ HC.out).mono ?_
  rintro e w1 ⟨rfl, hC1⟩
  clear HC; have HC := Lib.hid hC1; clear hC1
  go_wp2_with fail
  refine (HNUM.out _ HC.out).mono ?_
  intro e w2 hrd
  have hen := hrd.ends
  have HRD := Lib.hid hrd; clear hrd
  rcases hen with rfl | ⟨cc, rfl⟩
  · go_wp2_with fail
    go_end0
    exact HRD.out
  · go_wp2_with fail
    exact ⟨rfl, HRD.out⟩
theorem tk_dig49 {W w0 w : World} {lb fb : Nat} {s : ByteArray} {x : LexSt} {r : List UInt8} (h : Cur W w0 lb fb s x w) (np : Bool) (hx : x.text = ⟨#[]⟩ ∧ x.base = 0) (hr : s.data.toList.drop x.pos = r) (hl : 0 < r.length) (hc : byteAt r 0 = 49) :
    Calls Tryz.prog 52 #[.pointer (some ⟨lb, 0, none⟩), .bool np] w (ReadN W w0 lb fb s x np (number false r)) := by
  have hpos := h.pos
  have hsz := h.sz
  have hrl : r.length = s.size - x.pos := by rw [← hr]; exact h.len
  have HE : Hid (∀ w1, Cur W w0 lb fb s x w1 → Calls Tryz.prog 57 #[.pointer (some ⟨lb, 0, none⟩)] w1 (Did W w0 lb fb s (.bool false) x)) := Lib.hid (fun w1 h1 => by have := eofR h1; rw [show decide (s.size ≤ x.pos) = false from by simp; omega] at this; exact this)
  have HPK : Hid (∀ w1, Cur W w0 lb fb s x w1 → Calls Tryz.prog 65 #[.pointer (some ⟨lb, 0, none⟩), .int .i64 0] w1 (Did W w0 lb fb s (.int .u8 (byteAt r 0)) x)) := Lib.hid (fun w1 h1 => by have := peekR h1 0 0 rfl (by rw [hr]; exact hl); rw [hr] at this; exact this)
  have HSK : Hid (∀ w1, Cur W w0 lb fb s x w1 → Calls Tryz.prog 66 #[.pointer (some ⟨lb, 0, none⟩)] w1 (Did W w0 lb fb s (.int .u8 (byteAt r 0)) { x with pos := x.pos + 1 })) := Lib.hid (fun w1 h1 => by have := skipR h1 (by omega); rw [← hr, byteAt_drop]; exact this)
  have HIS : Hid (∀ w1, Cur W w0 lb fb s x w1 → ∀ c : Int, Calls Tryz.prog 61 #[.pointer (some ⟨lb, 0, none⟩), .int .i64 1, .int .u8 c] w1 (Did W w0 lb fb s (.bool (isAt r 1 c)) x)) := Lib.hid (fun w1 h1 c => by have := peekIsR h1 1 1 c rfl (by omega); rw [hr] at this; exact this)
  have HS2 : Hid (2 ≤ r.length → ∀ w1, Cur W w0 lb fb s x w1 → Calls Tryz.prog 60 #[.pointer (some ⟨lb, 0, none⟩), .int .i64 2] w1 (Did W w0 lb fb s (.tuple #[]) { x with pos := x.pos + 2 })) := Lib.hid (fun h2 w1 h1 => skipNR h1 2 2 rfl (by omega))
  have HNUM : Hid (∀ w1, Cur W w0 lb fb s x w1 → Calls Tryz.prog 69 #[.pointer (some ⟨lb, 0, none⟩), .bool np] w1 (ReadN W w0 lb fb s x np (number false r))) := Lib.hid (fun w1 h1 => (consumeNumber_any h1 np hx).mono fun e w' hh => ReadN.of_number hr hpos hl (.inl (by rw [hc]; rfl)) (by rw [hr] at hh; exact hh))
  rw [hc] at HPK HSK
  generalize number false r = NR at *
  have HC := Lib.hid h; have HX := Lib.hid hx
  clear h hx hr
  go_enter Tryz.func52, Tryz.ntmps52
  go_wp2_with fail
  refine (HE.out _ HC.out).mono ?_
  rintro e w1 ⟨rfl, hC1⟩
  clear HC; have HC := Lib.hid hC1; clear hC1
  go_wp2_with fail
  refine (HPK.out _ HC.out).mono ?_
  rintro e w1 ⟨rfl, hC1⟩
  clear HC; have HC := Lib.hid hC1; clear hC1
  go_wp2_with fail
  refine (HNUM.out _ HC.out).mono ?_
  intro e w2 hrd
  have hen := hrd.ends
  have HRD := Lib.hid hrd; clear hrd
  rcases hen with rfl | ⟨cc, rfl⟩
  · go_wp2_with fail
    go_end0
    exact HRD.out
  · go_wp2_with fail
    exact ⟨rfl, HRD.out⟩
theorem tk_dig50 {W w0 w : World} {lb fb : Nat} {s : ByteArray} {x : LexSt} {r : List UInt8} (h : Cur W w0 lb fb s x w) (np : Bool) (hx : x.text = ⟨#[]⟩ ∧ x.base = 0) (hr : s.data.toList.drop x.pos = r) (hl : 0 < r.length) (hc : byteAt r 0 = 50) :
    Calls Tryz.prog 52 #[.pointer (some ⟨lb, 0, none⟩), .bool np] w (ReadN W w0 lb fb s x np (number false r)) := by
  have hpos := h.pos
  have hsz := h.sz
  have hrl : r.length = s.size - x.pos := by rw [← hr]; exact h.len
  have HE : Hid (∀ w1, Cur W w0 lb fb s x w1 → Calls Tryz.prog 57 #[.pointer (some ⟨lb, 0, none⟩)] w1 (Did W w0 lb fb s (.bool false) x)) := Lib.hid (fun w1 h1 => by have := eofR h1; rw [show decide (s.size ≤ x.pos) = false from by simp; omega] at this; exact this)
  have HPK : Hid (∀ w1, Cur W w0 lb fb s x w1 → Calls Tryz.prog 65 #[.pointer (some ⟨lb, 0, none⟩), .int .i64 0] w1 (Did W w0 lb fb s (.int .u8 (byteAt r 0)) x)) := Lib.hid (fun w1 h1 => by have := peekR h1 0 0 rfl (by rw [hr]; exact hl); rw [hr] at this; exact this)
  have HSK : Hid (∀ w1, Cur W w0 lb fb s x w1 → Calls Tryz.prog 66 #[.pointer (some ⟨lb, 0, none⟩)] w1 (Did W w0 lb fb s (.int .u8 (byteAt r 0)) { x with pos := x.pos + 1 })) := Lib.hid (fun w1 h1 => by have := skipR h1 (by omega); rw [← hr, byteAt_drop]; exact this)
  have HIS : Hid (∀ w1, Cur W w0 lb fb s x w1 → ∀ c : Int, Calls Tryz.prog 61 #[.pointer (some ⟨lb, 0, none⟩), .int .i64 1, .int .u8 c] w1 (Did W w0 lb fb s (.bool (isAt r 1 c)) x)) := Lib.hid (fun w1 h1 c => by have := peekIsR h1 1 1 c rfl (by omega); rw [hr] at this; exact this)
  have HS2 : Hid (2 ≤ r.length → ∀ w1, Cur W w0 lb fb s x w1 → Calls Tryz.prog 60 #[.pointer (some ⟨lb, 0, none⟩), .int .i64 2] w1 (Did W w0 lb fb s (.tuple #[]) { x with pos := x.pos + 2 })) := Lib.hid (fun h2 w1 h1 => skipNR h1 2 2 rfl (by omega))
  have HNUM : Hid (∀ w1, Cur W w0 lb fb s x w1 → Calls Tryz.prog 69 #[.pointer (some ⟨lb, 0, none⟩), .bool np] w1 (ReadN W w0 lb fb s x np (number false r))) := Lib.hid (fun w1 h1 => (consumeNumber_any h1 np hx).mono fun e w' hh => ReadN.of_number hr hpos hl (.inl (by rw [hc]; rfl)) (by rw [hr] at hh; exact hh))
  rw [hc] at HPK HSK
  generalize number false r = NR at *
  have HC := Lib.hid h; have HX := Lib.hid hx
  clear h hx hr
  go_enter Tryz.func52, Tryz.ntmps52
  go_wp2_with fail
  refine (HE.out _ HC.out).mono ?_
  rintro e w1 ⟨rfl, hC1⟩
  clear HC; have HC := Lib.hid hC1; clear hC1
  go_wp2_with fail
  refine (HPK.out _ HC.out).mono ?_
  rintro e w1 ⟨rfl, hC1⟩
  clear HC; have HC := Lib.hid hC1; clear hC1
  go_wp2_with fail
  refine (HNUM.out _ HC.out).mono ?_
  intro e w2 hrd
  have hen := hrd.ends
  have HRD := Lib.hid hrd; clear hrd
  rcases hen with rfl | ⟨cc, rfl⟩
  · go_wp2_with fail
    go_end0
    exact HRD.out
  · go_wp2_with fail
    exact ⟨rfl, HRD.out⟩
theorem tk_dig51 {W w0 w : World} {lb fb : Nat} {s : ByteArray} {x : LexSt} {r : List UInt8} (h : Cur W w0 lb fb s x w) (np : Bool) (hx : x.text = ⟨#[]⟩ ∧ x.base = 0) (hr : s.data.toList.drop x.pos = r) (hl : 0 < r.length) (hc : byteAt r 0 = 51) :
    Calls Tryz.prog 52 #[.pointer (some ⟨lb, 0, none⟩), .bool np] w (ReadN W w0 lb fb s x np (number false r)) := by
  have hpos := h.pos
  have hsz := h.sz
  have hrl : r.length = s.size - x.pos := by rw [← hr]; exact h.len
  have HE : Hid (∀ w1, Cur W w0 lb fb s x w1 → Calls Tryz.prog 57 #[.pointer (some ⟨lb, 0, none⟩)] w1 (Did W w0 lb fb s (.bool false) x)) := Lib.hid (fun w1 h1 => by have := eofR h1; rw [show decide (s.size ≤ x.pos) = false from by simp; omega] at this; exact this)
  have HPK : Hid (∀ w1, Cur W w0 lb fb s x w1 → Calls Tryz.prog 65 #[.pointer (some ⟨lb, 0, none⟩), .int .i64 0] w1 (Did W w0 lb fb s (.int .u8 (byteAt r 0)) x)) := Lib.hid (fun w1 h1 => by have := peekR h1 0 0 rfl (by rw [hr]; exact hl); rw [hr] at this; exact this)
  have HSK : Hid (∀ w1, Cur W w0 lb fb s x w1 → Calls Tryz.prog 66 #[.pointer (some ⟨lb, 0, none⟩)] w1 (Did W w0 lb fb s (.int .u8 (byteAt r 0)) { x with pos := x.pos + 1 })) := Lib.hid (fun w1 h1 => by have := skipR h1 (by omega); rw [← hr, byteAt_drop]; exact this)
  have HIS : Hid (∀ w1, Cur W w0 lb fb s x w1 → ∀ c : Int, Calls Tryz.prog 61 #[.pointer (some ⟨lb, 0, none⟩), .int .i64 1, .int .u8 c] w1 (Did W w0 lb fb s (.bool (isAt r 1 c)) x)) := Lib.hid (fun w1 h1 c => by have := peekIsR h1 1 1 c rfl (by omega); rw [hr] at this; exact this)
  have HS2 : Hid (2 ≤ r.length → ∀ w1, Cur W w0 lb fb s x w1 → Calls Tryz.prog 60 #[.pointer (some ⟨lb, 0, none⟩), .int .i64 2] w1 (Did W w0 lb fb s (.tuple #[]) { x with pos := x.pos + 2 })) := Lib.hid (fun h2 w1 h1 => skipNR h1 2 2 rfl (by omega))
  have HNUM : Hid (∀ w1, Cur W w0 lb fb s x w1 → Calls Tryz.prog 69 #[.pointer (some ⟨lb, 0, none⟩), .bool np] w1 (ReadN W w0 lb fb s x np (number false r))) := Lib.hid (fun w1 h1 => (consumeNumber_any h1 np hx).mono fun e w' hh => ReadN.of_number hr hpos hl (.inl (by rw [hc]; rfl)) (by rw [hr] at hh; exact hh))
  rw [hc] at HPK HSK
  generalize number false r = NR at *
  have HC := Lib.hid h; have HX := Lib.hid hx
  clear h hx hr
  go_enter Tryz.func52, Tryz.ntmps52
  go_wp2_with fail
  refine (HE.out _ HC.out).mono ?_
  rintro e w1 ⟨rfl, hC1⟩
  clear HC; have HC := Lib.hid hC1; clear hC1
  go_wp2_with fail
  refine (HPK.out _ HC.out).mono ?_
  rintro e w1 ⟨rfl, hC1⟩
  clear HC; have HC := Lib.hid hC1; clear hC1
  go_wp2_with fail
  refine (HNUM.out _ HC.out).mono ?_
  intro e w2 hrd
  have hen := hrd.ends
  have HRD := Lib.hid hrd; clear hrd
  rcases hen with rfl | ⟨cc, rfl⟩
  · go_wp2_with fail
    go_end0
    exact HRD.out
  · go_wp2_with fail
    exact ⟨rfl, HRD.out⟩
theorem tk_dig52 {W w0 w : World} {lb fb : Nat} {s : ByteArray} {x : LexSt} {r : List UInt8} (h : Cur W w0 lb fb s x w) (np : Bool) (hx : x.text = ⟨#[]⟩ ∧ x.base = 0) (hr : s.data.toList.drop x.pos = r) (hl : 0 < r.length) (hc : byteAt r 0 = 52) :
    Calls Tryz.prog 52 #[.pointer (some ⟨lb, 0, none⟩), .bool np] w (ReadN W w0 lb fb s x np (number false r)) := by
  have hpos := h.pos
  have hsz := h.sz
  have hrl : r.length = s.size - x.pos := by rw [← hr]; exact h.len
  have HE : Hid (∀ w1, Cur W w0 lb fb s x w1 → Calls Tryz.prog 57 #[.pointer (some ⟨lb, 0, none⟩)] w1 (Did W w0 lb fb s (.bool false) x)) := Lib.hid (fun w1 h1 => by have := eofR h1; rw [show decide (s.size ≤ x.pos) = false from by simp; omega] at this; exact this)
  have HPK : Hid (∀ w1, Cur W w0 lb fb s x w1 → Calls Tryz.prog 65 #[.pointer (some ⟨lb, 0, none⟩), .int .i64 0] w1 (Did W w0 lb fb s (.int .u8 (byteAt r 0)) x)) := Lib.hid (fun w1 h1 => by have := peekR h1 0 0 rfl (by rw [hr]; exact hl); rw [hr] at this; exact this)
  have HSK : Hid (∀ w1, Cur W w0 lb fb s x w1 → Calls Tryz.prog 66 #[.pointer (some ⟨lb, 0, none⟩)] w1 (Did W w0 lb fb s (.int .u8 (byteAt r 0)) { x with pos := x.pos + 1 })) := Lib.hid (fun w1 h1 => by have := skipR h1 (by omega); rw [← hr, byteAt_drop]; exact this)
  have HIS : Hid (∀ w1, Cur W w0 lb fb s x w1 → ∀ c : Int, Calls Tryz.prog 61 #[.pointer (some ⟨lb, 0, none⟩), .int .i64 1, .int .u8 c] w1 (Did W w0 lb fb s (.bool (isAt r 1 c)) x)) := Lib.hid (fun w1 h1 c => by have := peekIsR h1 1 1 c rfl (by omega); rw [hr] at this; exact this)
  have HS2 : Hid (2 ≤ r.length → ∀ w1, Cur W w0 lb fb s x w1 → Calls Tryz.prog 60 #[.pointer (some ⟨lb, 0, none⟩), .int .i64 2] w1 (Did W w0 lb fb s (.tuple #[]) { x with pos := x.pos + 2 })) := Lib.hid (fun h2 w1 h1 => skipNR h1 2 2 rfl (by omega))
  have HNUM : Hid (∀ w1, Cur W w0 lb fb s x w1 → Calls Tryz.prog 69 #[.pointer (some ⟨lb, 0, none⟩), .bool np] w1 (ReadN W w0 lb fb s x np (number false r))) := Lib.hid (fun w1 h1 => (consumeNumber_any h1 np hx).mono fun e w' hh => ReadN.of_number hr hpos hl (.inl (by rw [hc]; rfl)) (by rw [hr] at hh; exact hh))
  rw [hc] at HPK HSK
  generalize number false r = NR at *
  have HC := Lib.hid h; have HX := Lib.hid hx
  clear h hx hr
  go_enter Tryz.func52, Tryz.ntmps52
  go_wp2_with fail
  refine (HE.out _ HC.out).mono ?_
  rintro e w1 ⟨rfl, hC1⟩
  clear HC; have HC := Lib.hid hC1; clear hC1
  go_wp2_with fail
  refine (HPK.out _ HC.out).mono ?_
  rintro e w1 ⟨rfl, hC1⟩
  clear HC; have HC := Lib.hid hC1; clear hC1
  go_wp2_with fail
  refine (HNUM.out _ HC.out).mono ?_
  intro e w2 hrd
  have hen := hrd.ends
  have HRD := Lib.hid hrd; clear hrd
  rcases hen with rfl | ⟨cc, rfl⟩
  · go_wp2_with fail
    go_end0
    exact HRD.out
  · go_wp2_with fail
    exact ⟨rfl, HRD.out⟩
theorem tk_dig53 {W w0 w : World} {lb fb : Nat} {s : ByteArray} {x : LexSt} {r : List UInt8} (h : Cur W w0 lb fb s x w) (np : Bool) (hx : x.text = ⟨#[]⟩ ∧ x.base = 0) (hr : s.data.toList.drop x.pos = r) (hl : 0 < r.length) (hc : byteAt r 0 = 53) :
    Calls Tryz.prog 52 #[.pointer (some ⟨lb, 0, none⟩), .bool np] w (ReadN W w0 lb fb s x np (number false r)) := by
  have hpos := h.pos
  have hsz := h.sz
  have hrl : r.length = s.size - x.pos := by rw [← hr]; exact h.len
  have HE : Hid (∀ w1, Cur W w0 lb fb s x w1 → Calls Tryz.prog 57 #[.pointer (some ⟨lb, 0, none⟩)] w1 (Did W w0 lb fb s (.bool false) x)) := Lib.hid (fun w1 h1 => by have := eofR h1; rw [show decide (s.size ≤ x.pos) = false from by simp; omega] at this; exact this)
  have HPK : Hid (∀ w1, Cur W w0 lb fb s x w1 → Calls Tryz.prog 65 #[.pointer (some ⟨lb, 0, none⟩), .int .i64 0] w1 (Did W w0 lb fb s (.int .u8 (byteAt r 0)) x)) := Lib.hid (fun w1 h1 => by have := peekR h1 0 0 rfl (by rw [hr]; exact hl); rw [hr] at this; exact this)
  have HSK : Hid (∀ w1, Cur W w0 lb fb s x w1 → Calls Tryz.prog 66 #[.pointer (some ⟨lb, 0, none⟩)] w1 (Did W w0 lb fb s (.int .u8 (byteAt r 0)) { x with pos := x.pos + 1 })) := Lib.hid (fun w1 h1 => by have := skipR h1 (by omega); rw [← hr, byteAt_drop]; exact this)
  have HIS : Hid (∀ w1, Cur W w0 lb fb s x w1 → ∀ c : Int, Calls Tryz.prog 61 #[.pointer (some ⟨lb, 0, none⟩), .int .i64 1, .int .u8 c] w1 (Did W w0 lb fb s (.bool (isAt r 1 c)) x)) := Lib.hid (fun w1 h1 c => by have := peekIsR h1 1 1 c rfl (by omega); rw [hr] at this; exact this)
  have HS2 : Hid (2 ≤ r.length → ∀ w1, Cur W w0 lb fb s x w1 → Calls Tryz.prog 60 #[.pointer (some ⟨lb, 0, none⟩), .int .i64 2] w1 (Did W w0 lb fb s (.tuple #[]) { x with pos := x.pos + 2 })) := Lib.hid (fun h2 w1 h1 => skipNR h1 2 2 rfl (by omega))
  have HNUM : Hid (∀ w1, Cur W w0 lb fb s x w1 → Calls Tryz.prog 69 #[.pointer (some ⟨lb, 0, none⟩), .bool np] w1 (ReadN W w0 lb fb s x np (number false r))) := Lib.hid (fun w1 h1 => (consumeNumber_any h1 np hx).mono fun e w' hh => ReadN.of_number hr hpos hl (.inl (by rw [hc]; rfl)) (by rw [hr] at hh; exact hh))
  rw [hc] at HPK HSK
  generalize number false r = NR at *
  have HC := Lib.hid h; have HX := Lib.hid hx
  clear h hx hr
  go_enter Tryz.func52, Tryz.ntmps52
  go_wp2_with fail
  refine (HE.out _ HC.out).mono ?_
  rintro e w1 ⟨rfl, hC1⟩
  clear HC; have HC := Lib.hid hC1; clear hC1
  go_wp2_with fail
  refine (HPK.out _ HC.out).mono ?_
  rintro e w1 ⟨rfl, hC1⟩
  clear HC; have HC := Lib.hid hC1; clear hC1
  go_wp2_with fail
  refine (HNUM.out _ HC.out).mono ?_
  intro e w2 hrd
  have hen := hrd.ends
  have HRD := Lib.hid hrd; clear hrd
  rcases hen with rfl | ⟨cc, rfl⟩
  · go_wp2_with fail
    go_end0
    exact HRD.out
  · go_wp2_with fail
    exact ⟨rfl, HRD.out⟩
theorem tk_dig54 {W w0 w : World} {lb fb : Nat} {s : ByteArray} {x : LexSt} {r : List UInt8} (h : Cur W w0 lb fb s x w) (np : Bool) (hx : x.text = ⟨#[]⟩ ∧ x.base = 0) (hr : s.data.toList.drop x.pos = r) (hl : 0 < r.length) (hc : byteAt r 0 = 54) :
    Calls Tryz.prog 52 #[.pointer (some ⟨lb, 0, none⟩), .bool np] w (ReadN W w0 lb fb s x np (number false r)) := by
  have hpos := h.pos
  have hsz := h.sz
  have hrl : r.length = s.size - x.pos := by rw [← hr]; exact h.len
  have HE : Hid (∀ w1, Cur W w0 lb fb s x w1 → Calls Tryz.prog 57 #[.pointer (some ⟨lb, 0, none⟩)] w1 (Did W w0 lb fb s (.bool false) x)) := Lib.hid (fun w1 h1 => by have := eofR h1; rw [show decide (s.size ≤ x.pos) = false from by simp; omega] at this; exact this)
  have HPK : Hid (∀ w1, Cur W w0 lb fb s x w1 → Calls Tryz.prog 65 #[.pointer (some ⟨lb, 0, none⟩), .int .i64 0] w1 (Did W w0 lb fb s (.int .u8 (byteAt r 0)) x)) := Lib.hid (fun w1 h1 => by have := peekR h1 0 0 rfl (by rw [hr]; exact hl); rw [hr] at this; exact this)
  have HSK : Hid (∀ w1, Cur W w0 lb fb s x w1 → Calls Tryz.prog 66 #[.pointer (some ⟨lb, 0, none⟩)] w1 (Did W w0 lb fb s (.int .u8 (byteAt r 0)) { x with pos := x.pos + 1 })) := Lib.hid (fun w1 h1 => by have := skipR h1 (by omega); rw [← hr, byteAt_drop]; exact this)
  have HIS : Hid (∀ w1, Cur W w0 lb fb s x w1 → ∀ c : Int, Calls Tryz.prog 61 #[.pointer (some ⟨lb, 0, none⟩), .int .i64 1, .int .u8 c] w1 (Did W w0 lb fb s (.bool (isAt r 1 c)) x)) := Lib.hid (fun w1 h1 c => by have := peekIsR h1 1 1 c rfl (by omega); rw [hr] at this; exact this)
  have HS2 : Hid (2 ≤ r.length → ∀ w1, Cur W w0 lb fb s x w1 → Calls Tryz.prog 60 #[.pointer (some ⟨lb, 0, none⟩), .int .i64 2] w1 (Did W w0 lb fb s (.tuple #[]) { x with pos := x.pos + 2 })) := Lib.hid (fun h2 w1 h1 => skipNR h1 2 2 rfl (by omega))
  have HNUM : Hid (∀ w1, Cur W w0 lb fb s x w1 → Calls Tryz.prog 69 #[.pointer (some ⟨lb, 0, none⟩), .bool np] w1 (ReadN W w0 lb fb s x np (number false r))) := Lib.hid (fun w1 h1 => (consumeNumber_any h1 np hx).mono fun e w' hh => ReadN.of_number hr hpos hl (.inl (by rw [hc]; rfl)) (by rw [hr] at hh; exact hh))
  rw [hc] at HPK HSK
  generalize number false r = NR at *
  have HC := Lib.hid h; have HX := Lib.hid hx
  clear h hx hr
  go_enter Tryz.func52, Tryz.ntmps52
  go_wp2_with fail
  refine (HE.out _ HC.out).mono ?_
  rintro e w1 ⟨rfl, hC1⟩
  clear HC; have HC := Lib.hid hC1; clear hC1
  go_wp2_with fail
  refine (HPK.out _ HC.out).mono ?_
  rintro e w1 ⟨rfl, hC1⟩
  clear HC; have HC := Lib.hid hC1; clear hC1
  go_wp2_with fail
  refine (HNUM.out _ HC.out).mono ?_
  intro e w2 hrd
  have hen := hrd.ends
  have HRD := Lib.hid hrd; clear hrd
  rcases hen with rfl | ⟨cc, rfl⟩
  · go_wp2_with fail
    go_end0
    exact HRD.out
  · go_wp2_with fail
    exact ⟨rfl, HRD.out⟩
theorem tk_dig55 {W w0 w : World} {lb fb : Nat} {s : ByteArray} {x : LexSt} {r : List UInt8} (h : Cur W w0 lb fb s x w) (np : Bool) (hx : x.text = ⟨#[]⟩ ∧ x.base = 0) (hr : s.data.toList.drop x.pos = r) (hl : 0 < r.length) (hc : byteAt r 0 = 55) :
    Calls Tryz.prog 52 #[.pointer (some ⟨lb, 0, none⟩), .bool np] w (ReadN W w0 lb fb s x np (number false r)) := by
  have hpos := h.pos
  have hsz := h.sz
  have hrl : r.length = s.size - x.pos := by rw [← hr]; exact h.len
  have HE : Hid (∀ w1, Cur W w0 lb fb s x w1 → Calls Tryz.prog 57 #[.pointer (some ⟨lb, 0, none⟩)] w1 (Did W w0 lb fb s (.bool false) x)) := Lib.hid (fun w1 h1 => by have := eofR h1; rw [show decide (s.size ≤ x.pos) = false from by simp; omega] at this; exact this)
  have HPK : Hid (∀ w1, Cur W w0 lb fb s x w1 → Calls Tryz.prog 65 #[.pointer (some ⟨lb, 0, none⟩), .int .i64 0] w1 (Did W w0 lb fb s (.int .u8 (byteAt r 0)) x)) := Lib.hid (fun w1 h1 => by have := peekR h1 0 0 rfl (by rw [hr]; exact hl); rw [hr] at this; exact this)
  have HSK : Hid (∀ w1, Cur W w0 lb fb s x w1 → Calls Tryz.prog 66 #[.pointer (some ⟨lb, 0, none⟩)] w1 (Did W w0 lb fb s (.int .u8 (byteAt r 0)) { x with pos := x.pos + 1 })) := Lib.hid (fun w1 h1 => by have := skipR h1 (by omega); rw [← hr, byteAt_drop]; exact this)
  have HIS : Hid (∀ w1, Cur W w0 lb fb s x w1 → ∀ c : Int, Calls Tryz.prog 61 #[.pointer (some ⟨lb, 0, none⟩), .int .i64 1, .int .u8 c] w1 (Did W w0 lb fb s (.bool (isAt r 1 c)) x)) := Lib.hid (fun w1 h1 c => by have := peekIsR h1 1 1 c rfl (by omega); rw [hr] at this; exact this)
  have HS2 : Hid (2 ≤ r.length → ∀ w1, Cur W w0 lb fb s x w1 → Calls Tryz.prog 60 #[.pointer (some ⟨lb, 0, none⟩), .int .i64 2] w1 (Did W w0 lb fb s (.tuple #[]) { x with pos := x.pos + 2 })) := Lib.hid (fun h2 w1 h1 => skipNR h1 2 2 rfl (by omega))
  have HNUM : Hid (∀ w1, Cur W w0 lb fb s x w1 → Calls Tryz.prog 69 #[.pointer (some ⟨lb, 0, none⟩), .bool np] w1 (ReadN W w0 lb fb s x np (number false r))) := Lib.hid (fun w1 h1 => (consumeNumber_any h1 np hx).mono fun e w' hh => ReadN.of_number hr hpos hl (.inl (by rw [hc]; rfl)) (by rw [hr] at hh; exact hh))
  rw [hc] at HPK HSK
  generalize number false r = NR at *
  have HC := Lib.hid h; have HX := Lib.hid hx
  clear h hx hr
  go_enter Tryz.func52, Tryz.ntmps52
  go_wp2_with fail
  refine (HE.out _ HC.out).mono ?_
  rintro e w1 ⟨rfl, hC1⟩
  clear HC; have HC := Lib.hid hC1; clear hC1
  go_wp2_with fail
  refine (HPK.out _ HC.out).mono ?_
  rintro e w1 ⟨rfl, hC1⟩
  clear HC; have HC := Lib.hid hC1; clear hC1
  go_wp2_with fail
  refine (HNUM.out _ HC.out).mono ?_
  intro e w2 hrd
  have hen := hrd.ends
  have HRD := Lib.hid hrd; clear hrd
  rcases hen with rfl | ⟨cc, rfl⟩
  · go_wp2_with fail
    go_end0
    exact HRD.out
  · go_wp2_with fail
    exact ⟨rfl, HRD.out⟩
theorem tk_dig56 {W w0 w : World} {lb fb : Nat} {s : ByteArray} {x : LexSt} {r : List UInt8} (h : Cur W w0 lb fb s x w) (np : Bool) (hx : x.text = ⟨#[]⟩ ∧ x.base = 0) (hr : s.data.toList.drop x.pos = r) (hl : 0 < r.length) (hc : byteAt r 0 = 56) :
    Calls Tryz.prog 52 #[.pointer (some ⟨lb, 0, none⟩), .bool np] w (ReadN W w0 lb fb s x np (number false r)) := by
  have hpos := h.pos
  have hsz := h.sz
  have hrl : r.length = s.size - x.pos := by rw [← hr]; exact h.len
  have HE : Hid (∀ w1, Cur W w0 lb fb s x w1 → Calls Tryz.prog 57 #[.pointer (some ⟨lb, 0, none⟩)] w1 (Did W w0 lb fb s (.bool false) x)) := Lib.hid (fun w1 h1 => by have := eofR h1; rw [show decide (s.size ≤ x.pos) = false from by simp; omega] at this; exact this)
  have HPK : Hid (∀ w1, Cur W w0 lb fb s x w1 → Calls Tryz.prog 65 #[.pointer (some ⟨lb, 0, none⟩), .int .i64 0] w1 (Did W w0 lb fb s (.int .u8 (byteAt r 0)) x)) := Lib.hid (fun w1 h1 => by have := peekR h1 0 0 rfl (by rw [hr]; exact hl); rw [hr] at this; exact this)
  have HSK : Hid (∀ w1, Cur W w0 lb fb s x w1 → Calls Tryz.prog 66 #[.pointer (some ⟨lb, 0, none⟩)] w1 (Did W w0 lb fb s (.int .u8 (byteAt r 0)) { x with pos := x.pos + 1 })) := Lib.hid (fun w1 h1 => by have := skipR h1 (by omega); rw [← hr, byteAt_drop]; exact this)
  have HIS : Hid (∀ w1, Cur W w0 lb fb s x w1 → ∀ c : Int, Calls Tryz.prog 61 #[.pointer (some ⟨lb, 0, none⟩), .int .i64 1, .int .u8 c] w1 (Did W w0 lb fb s (.bool (isAt r 1 c)) x)) := Lib.hid (fun w1 h1 c => by have := peekIsR h1 1 1 c rfl (by omega); rw [hr] at this; exact this)
  have HS2 : Hid (2 ≤ r.length → ∀ w1, Cur W w0 lb fb s x w1 → Calls Tryz.prog 60 #[.pointer (some ⟨lb, 0, none⟩), .int .i64 2] w1 (Did W w0 lb fb s (.tuple #[]) { x with pos := x.pos + 2 })) := Lib.hid (fun h2 w1 h1 => skipNR h1 2 2 rfl (by omega))
  have HNUM : Hid (∀ w1, Cur W w0 lb fb s x w1 → Calls Tryz.prog 69 #[.pointer (some ⟨lb, 0, none⟩), .bool np] w1 (ReadN W w0 lb fb s x np (number false r))) := Lib.hid (fun w1 h1 => (consumeNumber_any h1 np hx).mono fun e w' hh => ReadN.of_number hr hpos hl (.inl (by rw [hc]; rfl)) (by rw [hr] at hh; exact hh))
  rw [hc] at HPK HSK
  generalize number false r = NR at *
  have HC := Lib.hid h; have HX := Lib.hid hx
  clear h hx hr
  go_enter Tryz.func52, Tryz.ntmps52
  go_wp2_with fail
  refine (HE.out _ HC.out).mono ?_
  rintro e w1 ⟨rfl, hC1⟩
  clear HC; have HC := Lib.hid hC1; clear hC1
  go_wp2_with fail
  refine (HPK.out _ HC.out).mono ?_
  rintro e w1 ⟨rfl, hC1⟩
  clear HC; have HC := Lib.hid hC1; clear hC1
  go_wp2_with fail
  refine (HNUM.out _ HC.out).mono ?_
  intro e w2 hrd
  have hen := hrd.ends
  have HRD := Lib.hid hrd; clear hrd
  rcases hen with rfl | ⟨cc, rfl⟩
  · go_wp2_with fail
    go_end0
    exact HRD.out
  · go_wp2_with fail
    exact ⟨rfl, HRD.out⟩
theorem tk_dig57 {W w0 w : World} {lb fb : Nat} {s : ByteArray} {x : LexSt} {r : List UInt8} (h : Cur W w0 lb fb s x w) (np : Bool) (hx : x.text = ⟨#[]⟩ ∧ x.base = 0) (hr : s.data.toList.drop x.pos = r) (hl : 0 < r.length) (hc : byteAt r 0 = 57) :
    Calls Tryz.prog 52 #[.pointer (some ⟨lb, 0, none⟩), .bool np] w (ReadN W w0 lb fb s x np (number false r)) := by
  have hpos := h.pos
  have hsz := h.sz
  have hrl : r.length = s.size - x.pos := by rw [← hr]; exact h.len
  have HE : Hid (∀ w1, Cur W w0 lb fb s x w1 → Calls Tryz.prog 57 #[.pointer (some ⟨lb, 0, none⟩)] w1 (Did W w0 lb fb s (.bool false) x)) := Lib.hid (fun w1 h1 => by have := eofR h1; rw [show decide (s.size ≤ x.pos) = false from by simp; omega] at this; exact this)
  have HPK : Hid (∀ w1, Cur W w0 lb fb s x w1 → Calls Tryz.prog 65 #[.pointer (some ⟨lb, 0, none⟩), .int .i64 0] w1 (Did W w0 lb fb s (.int .u8 (byteAt r 0)) x)) := Lib.hid (fun w1 h1 => by have := peekR h1 0 0 rfl (by rw [hr]; exact hl); rw [hr] at this; exact this)
  have HSK : Hid (∀ w1, Cur W w0 lb fb s x w1 → Calls Tryz.prog 66 #[.pointer (some ⟨lb, 0, none⟩)] w1 (Did W w0 lb fb s (.int .u8 (byteAt r 0)) { x with pos := x.pos + 1 })) := Lib.hid (fun w1 h1 => by have := skipR h1 (by omega); rw [← hr, byteAt_drop]; exact this)
  have HIS : Hid (∀ w1, Cur W w0 lb fb s x w1 → ∀ c : Int, Calls Tryz.prog 61 #[.pointer (some ⟨lb, 0, none⟩), .int .i64 1, .int .u8 c] w1 (Did W w0 lb fb s (.bool (isAt r 1 c)) x)) := Lib.hid (fun w1 h1 c => by have := peekIsR h1 1 1 c rfl (by omega); rw [hr] at this; exact this)
  have HS2 : Hid (2 ≤ r.length → ∀ w1, Cur W w0 lb fb s x w1 → Calls Tryz.prog 60 #[.pointer (some ⟨lb, 0, none⟩), .int .i64 2] w1 (Did W w0 lb fb s (.tuple #[]) { x with pos := x.pos + 2 })) := Lib.hid (fun h2 w1 h1 => skipNR h1 2 2 rfl (by omega))
  have HNUM : Hid (∀ w1, Cur W w0 lb fb s x w1 → Calls Tryz.prog 69 #[.pointer (some ⟨lb, 0, none⟩), .bool np] w1 (ReadN W w0 lb fb s x np (number false r))) := Lib.hid (fun w1 h1 => (consumeNumber_any h1 np hx).mono fun e w' hh => ReadN.of_number hr hpos hl (.inl (by rw [hc]; rfl)) (by rw [hr] at hh; exact hh))
  rw [hc] at HPK HSK
  generalize number false r = NR at *
  have HC := Lib.hid h; have HX := Lib.hid hx
  clear h hx hr
  go_enter Tryz.func52, Tryz.ntmps52
  go_wp2_with fail
  refine (HE.out _ HC.out).mono ?_
  rintro e w1 ⟨rfl, hC1⟩
  clear HC; have HC := Lib.hid hC1; clear hC1
  go_wp2_with fail
  refine (HPK.out _ HC.out).mono ?_
  rintro e w1 ⟨rfl, hC1⟩
  clear HC; have HC := Lib.hid hC1; clear hC1
  go_wp2_with fail
  refine (HNUM.out _ HC.out).mono ?_
  intro e w2 hrd
  have hen := hrd.ends
  have HRD := Lib.hid hrd; clear hrd
  rcases hen with rfl | ⟨cc, rfl⟩
  · go_wp2_with fail
    go_end0
    exact HRD.out
  · go_wp2_with fail
    exact ⟨rfl, HRD.out⟩
end Go.Proofs.YtcelnnjjakiehaaGreatDoor
