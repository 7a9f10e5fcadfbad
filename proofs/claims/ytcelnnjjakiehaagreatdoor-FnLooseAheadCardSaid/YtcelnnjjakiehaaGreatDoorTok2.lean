/-
  Tokens of one byte or two: the cases of consumeToken.
-/
import Derived.Test.YtcelnnjjakiehaaGreatDoorTok1
namespace Go.Proofs.YtcelnnjjakiehaaGreatDoor
open Go.RowKit
set_option linter.unusedVariables false
set_option maxRecDepth 1000000
set_option maxHeartbeats 16000000

theorem tk_two60 {W w0 w : World} {lb fb : Nat} {s : ByteArray} {x : LexSt} {r : List UInt8} (h : Cur W w0 lb fb s x w) (np : Bool) (hx : x.text = ⟨#[]⟩ ∧ x.base = 0) (hr : s.data.toList.drop x.pos = r) (hl : 0 < r.length) (hc : byteAt r 0 = 60) :
    Calls Tryz.prog 52 #[.pointer (some ⟨lb, 0, none⟩), .bool np] w (ReadN W w0 lb fb s x np (twoSym r 60 [60, 61, 62])) := by
  have hpos := h.pos
  have hsz := h.sz
  have hrl : r.length = s.size - x.pos := by rw [← hr]; exact h.len
  have HE : Hid (∀ w1, Cur W w0 lb fb s x w1 → Calls Tryz.prog 57 #[.pointer (some ⟨lb, 0, none⟩)] w1 (Did W w0 lb fb s (.bool false) x)) := Lib.hid (fun w1 h1 => by have := eofR h1; rw [show decide (s.size ≤ x.pos) = false from by simp; omega] at this; exact this)
  have HPK : Hid (∀ w1, Cur W w0 lb fb s x w1 → Calls Tryz.prog 65 #[.pointer (some ⟨lb, 0, none⟩), .int .i64 0] w1 (Did W w0 lb fb s (.int .u8 (byteAt r 0)) x)) := Lib.hid (fun w1 h1 => by have := peekR h1 0 0 rfl (by rw [hr]; exact hl); rw [hr] at this; exact this)
  have HSK : Hid (∀ w1, Cur W w0 lb fb s x w1 → Calls Tryz.prog 66 #[.pointer (some ⟨lb, 0, none⟩)] w1 (Did W w0 lb fb s (.int .u8 (byteAt r 0)) { x with pos := x.pos + 1 })) := Lib.hid (fun w1 h1 => by have := skipR h1 (by omega); rw [← hr, byteAt_drop]; exact this)
  have HIS : Hid (∀ w1, Cur W w0 lb fb s x w1 → ∀ c : Int, Calls Tryz.prog 61 #[.pointer (some ⟨lb, 0, none⟩), .int .i64 1, .int .u8 c] w1 (Did W w0 lb fb s (.bool (isAt r 1 c)) x)) := Lib.hid (fun w1 h1 c => by have := peekIsR h1 1 1 c rfl (by omega); rw [hr] at this; exact this)
  have HS2 : Hid (2 ≤ r.length → ∀ w1, Cur W w0 lb fb s x w1 → Calls Tryz.prog 60 #[.pointer (some ⟨lb, 0, none⟩), .int .i64 2] w1 (Did W w0 lb fb s (.tuple #[]) { x with pos := x.pos + 2 })) := Lib.hid (fun h2 w1 h1 => skipNR h1 2 2 rfl (by omega))
  rw [hc] at HPK HSK
  cases hd60 : isAt r 1 60 with
  | true =>
    have hrs : twoSym r 60 [60, 61, 62] = sym [60, 60] := by simp [twoSym, hd60]
    rw [hrs]
    have h2 := len_two hd60
    have HI60 : Hid (∀ w1, Cur W w0 lb fb s x w1 → Calls Tryz.prog 61 #[.pointer (some ⟨lb, 0, none⟩), .int .i64 1, .int .u8 60] w1 (Did W w0 lb fb s (.bool true) x)) := Lib.hid (fun w1 h1 => by have := HIS.out w1 h1 60; rw [hd60] at this; exact this)
    clear hrs hd60
    have HC := Lib.hid h; have HX := Lib.hid hx
    clear h hx hr
    go_enter Tryz.func52, Tryz.ntmps52
    go_wp2_with fail
    refine (HE.out _ HC.out).mono ?_
    rintro e w1 ⟨rfl, hC1⟩
    clear HC; have HC := Lib.hid hC1; clear hC1
    go_wp2_with fail
    refine (HPK.out _ HC.out).mono ?_
    rintro e w1 ⟨rfl, hC1⟩
    clear HC; have HC := Lib.hid hC1; clear hC1
    go_wp2_with fail
    refine (HI60.out _ HC.out).mono ?_
    rintro e w1 ⟨rfl, hC1⟩
    clear HC; have HC := Lib.hid hC1; clear hC1
    go_wp2_with fail
    refine (HS2.out h2 _ HC.out).mono ?_
    rintro e w1 ⟨rfl, hC1⟩
    clear HC; have HC := Lib.hid hC1; clear hC1
    have k1 := (HC.out.lex.cell 1).1; have f1 := (HC.out.lex.cell 1).2
    simp only [LexSt.cells, List.getElem?_toArray, List.getElem?_cons_succ, List.getElem?_cons_zero] at k1
    go_wp2_with fail
    go_end0
    refine ReadN.of_ok (by show x.pos + 2 ≤ s.size; omega) (fun _ => by show 0 < 2; omega) ?_
    rw [took_sym x HX.out]
    exact ⟨rfl, HC.out.set 1 _ _ rfl (by show x.pos + 2 ≤ s.size; omega)⟩
  | false =>
    cases hd61 : isAt r 1 61 with
    | true =>
      have hrs : twoSym r 60 [60, 61, 62] = sym [60, 61] := by simp [twoSym, hd60, hd61]
      rw [hrs]
      have h2 := len_two hd61
      have HI60 : Hid (∀ w1, Cur W w0 lb fb s x w1 → Calls Tryz.prog 61 #[.pointer (some ⟨lb, 0, none⟩), .int .i64 1, .int .u8 60] w1 (Did W w0 lb fb s (.bool false) x)) := Lib.hid (fun w1 h1 => by have := HIS.out w1 h1 60; rw [hd60] at this; exact this)
      have HI61 : Hid (∀ w1, Cur W w0 lb fb s x w1 → Calls Tryz.prog 61 #[.pointer (some ⟨lb, 0, none⟩), .int .i64 1, .int .u8 61] w1 (Did W w0 lb fb s (.bool true) x)) := Lib.hid (fun w1 h1 => by have := HIS.out w1 h1 61; rw [hd61] at this; exact this)
      clear hrs hd60 hd61
      have HC := Lib.hid h; have HX := Lib.hid hx
      clear h hx hr
      go_enter Tryz.func52, Tryz.ntmps52
      go_wp2_with fail
      refine (HE.out _ HC.out).mono ?_
      rintro e w1 ⟨rfl, hC1⟩
      clear HC; have HC := Lib.hid hC1; clear hC1
      go_wp2_with fail
      refine (HPK.out _ HC.out).mono ?_
      rintro e w1 ⟨rfl, hC1⟩
      clear HC; have HC := Lib.hid hC1; clear hC1
      go_wp2_with fail
      refine (HI60.out _ HC.out).mono ?_
      rintro e w1 ⟨rfl, hC1⟩
      clear HC; have HC := Lib.hid hC1; clear hC1
      go_wp2_with fail
      refine (HI61.out _ HC.out).mono ?_
      rintro e w1 ⟨rfl, hC1⟩
      clear HC; have HC := Lib.hid hC1; clear hC1
      go_wp2_with fail
      refine (HS2.out h2 _ HC.out).mono ?_
      rintro e w1 ⟨rfl, hC1⟩
      clear HC; have HC := Lib.hid hC1; clear hC1
      have k1 := (HC.out.lex.cell 1).1; have f1 := (HC.out.lex.cell 1).2
      simp only [LexSt.cells, List.getElem?_toArray, List.getElem?_cons_succ, List.getElem?_cons_zero] at k1
      go_wp2_with fail
      go_end0
      refine ReadN.of_ok (by show x.pos + 2 ≤ s.size; omega) (fun _ => by show 0 < 2; omega) ?_
      rw [took_sym x HX.out]
      exact ⟨rfl, HC.out.set 1 _ _ rfl (by show x.pos + 2 ≤ s.size; omega)⟩
    | false =>
      cases hd62 : isAt r 1 62 with
      | true =>
        have hrs : twoSym r 60 [60, 61, 62] = sym [60, 62] := by simp [twoSym, hd60, hd61, hd62]
        rw [hrs]
        have h2 := len_two hd62
        have HI60 : Hid (∀ w1, Cur W w0 lb fb s x w1 → Calls Tryz.prog 61 #[.pointer (some ⟨lb, 0, none⟩), .int .i64 1, .int .u8 60] w1 (Did W w0 lb fb s (.bool false) x)) := Lib.hid (fun w1 h1 => by have := HIS.out w1 h1 60; rw [hd60] at this; exact this)
        have HI61 : Hid (∀ w1, Cur W w0 lb fb s x w1 → Calls Tryz.prog 61 #[.pointer (some ⟨lb, 0, none⟩), .int .i64 1, .int .u8 61] w1 (Did W w0 lb fb s (.bool false) x)) := Lib.hid (fun w1 h1 => by have := HIS.out w1 h1 61; rw [hd61] at this; exact this)
        have HI62 : Hid (∀ w1, Cur W w0 lb fb s x w1 → Calls Tryz.prog 61 #[.pointer (some ⟨lb, 0, none⟩), .int .i64 1, .int .u8 62] w1 (Did W w0 lb fb s (.bool true) x)) := Lib.hid (fun w1 h1 => by have := HIS.out w1 h1 62; rw [hd62] at this; exact this)
        clear hrs hd60 hd61 hd62
        have HC := Lib.hid h; have HX := Lib.hid hx
        clear h hx hr
        go_enter Tryz.func52, Tryz.ntmps52
        go_wp2_with fail
        refine (HE.out _ HC.out).mono ?_
        rintro e w1 ⟨rfl, hC1⟩
        clear HC; have HC := Lib.hid hC1; clear hC1
        go_wp2_with fail
        refine (HPK.out _ HC.out).mono ?_
        rintro e w1 ⟨rfl, hC1⟩
        clear HC; have HC := Lib.hid hC1; clear hC1
        go_wp2_with fail
        refine (HI60.out _ HC.out).mono ?_
        rintro e w1 ⟨rfl, hC1⟩
        clear HC; have HC := Lib.hid hC1; clear hC1
        go_wp2_with fail
        refine (HI61.out _ HC.out).mono ?_
        rintro e w1 ⟨rfl, hC1⟩
        clear HC; have HC := Lib.hid hC1; clear hC1
        go_wp2_with fail
        refine (HI62.out _ HC.out).mono ?_
        rintro e w1 ⟨rfl, hC1⟩
        clear HC; have HC := Lib.hid hC1; clear hC1
        go_wp2_with fail
        refine (HS2.out h2 _ HC.out).mono ?_
        rintro e w1 ⟨rfl, hC1⟩
        clear HC; have HC := Lib.hid hC1; clear hC1
        have k1 := (HC.out.lex.cell 1).1; have f1 := (HC.out.lex.cell 1).2
        simp only [LexSt.cells, List.getElem?_toArray, List.getElem?_cons_succ, List.getElem?_cons_zero] at k1
        go_wp2_with fail
        go_end0
        refine ReadN.of_ok (by show x.pos + 2 ≤ s.size; omega) (fun _ => by show 0 < 2; omega) ?_
        rw [took_sym x HX.out]
        exact ⟨rfl, HC.out.set 1 _ _ rfl (by show x.pos + 2 ≤ s.size; omega)⟩
      | false =>
        have hrs : twoSym r 60 [60, 61, 62] = sym [60] := by simp [twoSym, hd60, hd61, hd62]
        rw [hrs]
        have HI60 : Hid (∀ w1, Cur W w0 lb fb s x w1 → Calls Tryz.prog 61 #[.pointer (some ⟨lb, 0, none⟩), .int .i64 1, .int .u8 60] w1 (Did W w0 lb fb s (.bool false) x)) := Lib.hid (fun w1 h1 => by have := HIS.out w1 h1 60; rw [hd60] at this; exact this)
        have HI61 : Hid (∀ w1, Cur W w0 lb fb s x w1 → Calls Tryz.prog 61 #[.pointer (some ⟨lb, 0, none⟩), .int .i64 1, .int .u8 61] w1 (Did W w0 lb fb s (.bool false) x)) := Lib.hid (fun w1 h1 => by have := HIS.out w1 h1 61; rw [hd61] at this; exact this)
        have HI62 : Hid (∀ w1, Cur W w0 lb fb s x w1 → Calls Tryz.prog 61 #[.pointer (some ⟨lb, 0, none⟩), .int .i64 1, .int .u8 62] w1 (Did W w0 lb fb s (.bool false) x)) := Lib.hid (fun w1 h1 => by have := HIS.out w1 h1 62; rw [hd62] at this; exact this)
        clear hrs hd60 hd61 hd62
        have HC := Lib.hid h; have HX := Lib.hid hx
        clear h hx hr
        go_enter Tryz.func52, Tryz.ntmps52
        go_wp2_with fail
        refine (HE.out _ HC.out).mono ?_
        rintro e w1 ⟨rfl, hC1⟩
        clear HC; have HC := Lib.hid hC1; clear hC1
        go_wp2_with fail
        refine (HPK.out _ HC.out).mono ?_
        rintro e w1 ⟨rfl, hC1⟩
        clear HC; have HC := Lib.hid hC1; clear hC1
        go_wp2_with fail
        refine (HI60.out _ HC.out).mono ?_
        rintro e w1 ⟨rfl, hC1⟩
        clear HC; have HC := Lib.hid hC1; clear hC1
        go_wp2_with fail
        refine (HI61.out _ HC.out).mono ?_
        rintro e w1 ⟨rfl, hC1⟩
        clear HC; have HC := Lib.hid hC1; clear hC1
        go_wp2_with fail
        refine (HI62.out _ HC.out).mono ?_
        rintro e w1 ⟨rfl, hC1⟩
        clear HC; have HC := Lib.hid hC1; clear hC1
        go_wp2_with fail
        refine (HSK.out _ HC.out).mono ?_
        rintro e w1 ⟨rfl, hC1⟩
        clear HC; have HC := Lib.hid hC1; clear hC1
        have k1 := (HC.out.lex.cell 1).1; have f1 := (HC.out.lex.cell 1).2
        simp only [LexSt.cells, List.getElem?_toArray, List.getElem?_cons_succ, List.getElem?_cons_zero] at k1
        go_wp2_with fail
        go_end0
        refine ReadN.of_ok (by show x.pos + 1 ≤ s.size; omega) (fun _ => by show 0 < 1; omega) ?_
        rw [took_sym x HX.out]
        exact ⟨rfl, HC.out.set 1 _ _ rfl (by show x.pos + 1 ≤ s.size; omega)⟩
theorem tk_two62 {W w0 w : World} {lb fb : Nat} {s : ByteArray} {x : LexSt} {r : List UInt8} (h : Cur W w0 lb fb s x w) (np : Bool) (hx : x.text = ⟨#[]⟩ ∧ x.base = 0) (hr : s.data.toList.drop x.pos = r) (hl : 0 < r.length) (hc : byteAt r 0 = 62) :
    Calls Tryz.prog 52 #[.pointer (some ⟨lb, 0, none⟩), .bool np] w (ReadN W w0 lb fb s x np (twoSym r 62 [62, 61])) := by
  have hpos := h.pos
  have hsz := h.sz
  have hrl : r.length = s.size - x.pos := by rw [← hr]; exact h.len
  have HE : Hid (∀ w1, Cur W w0 lb fb s x w1 → Calls Tryz.prog 57 #[.pointer (some ⟨lb, 0, none⟩)] w1 (Did W w0 lb fb s (.bool false) x)) := Lib.hid (fun w1 h1 => by have := eofR h1; rw [show decide (s.size ≤ x.pos) = false from by simp; omega] at this; exact this)
  have HPK : Hid (∀ w1, Cur W w0 lb fb s x w1 → Calls Tryz.prog 65 #[.pointer (some ⟨lb, 0, none⟩), .int .i64 0] w1 (Did W w0 lb fb s (.int .u8 (byteAt r 0)) x)) := Lib.hid (fun w1 h1 => by have := peekR h1 0 0 rfl (by rw [hr]; exact hl); rw [hr] at this; exact this)
  have HSK : Hid (∀ w1, Cur W w0 lb fb s x w1 → Calls Tryz.prog 66 #[.pointer (some ⟨lb, 0, none⟩)] w1 (Did W w0 lb fb s (.int .u8 (byteAt r 0)) { x with pos := x.pos + 1 })) := Lib.hid (fun w1 h1 => by have := skipR h1 (by omega); rw [← hr, byteAt_drop]; exact this)
  have HIS : Hid (∀ w1, Cur W w0 lb fb s x w1 → ∀ c : Int, Calls Tryz.prog 61 #[.pointer (some ⟨lb, 0, none⟩), .int .i64 1, .int .u8 c] w1 (Did W w0 lb fb s (.bool (isAt r 1 c)) x)) := Lib.hid (fun w1 h1 c => by have := peekIsR h1 1 1 c rfl (by omega); rw [hr] at this; exact this)
  have HS2 : Hid (2 ≤ r.length → ∀ w1, Cur W w0 lb fb s x w1 → Calls Tryz.prog 60 #[.pointer (some ⟨lb, 0, none⟩), .int .i64 2] w1 (Did W w0 lb fb s (.tuple #[]) { x with pos := x.pos + 2 })) := Lib.hid (fun h2 w1 h1 => skipNR h1 2 2 rfl (by omega))
  rw [hc] at HPK HSK
  cases hd62 : isAt r 1 62 with
  | true =>
    have hrs : twoSym r 62 [62, 61] = sym [62, 62] := by simp [twoSym, hd62]
    rw [hrs]
    have h2 := len_two hd62
    have HI62 : Hid (∀ w1, Cur W w0 lb fb s x w1 → Calls Tryz.prog 61 #[.pointer (some ⟨lb, 0, none⟩), .int .i64 1, .int .u8 62] w1 (Did W w0 lb fb s (.bool true) x)) := Lib.hid (fun w1 h1 => by have := HIS.out w1 h1 62; rw [hd62] at this; exact this)
    clear hrs hd62
    have HC := Lib.hid h; have HX := Lib.hid hx
    clear h hx hr
    go_enter Tryz.func52, Tryz.ntmps52
    go_wp2_with fail
    refine (HE.out _ HC.out).mono ?_
    rintro e w1 ⟨rfl, hC1⟩
    clear HC; have HC := Lib.hid hC1; clear hC1
    go_wp2_with fail
    refine (HPK.out _ HC.out).mono ?_
    rintro e w1 ⟨rfl, hC1⟩
    clear HC; have HC := Lib.hid hC1; clear hC1
    go_wp2_with fail
    refine (HI62.out _ HC.out).mono ?_
    rintro e w1 ⟨rfl, hC1⟩
    clear HC; have HC := Lib.hid hC1; clear hC1
    go_wp2_with fail
    refine (HS2.out h2 _ HC.out).mono ?_
    rintro e w1 ⟨rfl, hC1⟩
    clear HC; have HC := Lib.hid hC1; clear hC1
    have k1 := (HC.out.lex.cell 1).1; have f1 := (HC.out.lex.cell 1).2
    simp only [LexSt.cells, List.getElem?_toArray, List.getElem?_cons_succ, List.getElem?_cons_zero] at k1
    go_wp2_with fail
    go_end0
    refine ReadN.of_ok (by show x.pos + 2 ≤ s.size; omega) (fun _ => by show 0 < 2; omega) ?_
    rw [took_sym x HX.out]
    exact ⟨rfl, HC.out.set 1 _ _ rfl (by show x.pos + 2 ≤ s.size; omega)⟩
  | false =>
    cases hd61 : isAt r 1 61 with
    | true =>
      have hrs : twoSym r 62 [62, 61] = sym [62, 61] := by simp [twoSym, hd62, hd61]
      rw [hrs]
      have h2 := len_two hd61
      have HI62 : Hid (∀ w1, Cur W w0 lb fb s x w1 → Calls Tryz.prog 61 #[.pointer (some ⟨lb, 0, none⟩), .int .i64 1, .int .u8 62] w1 (Did W w0 lb fb s (.bool false) x)) := Lib.hid (fun w1 h1 => by have := HIS.out w1 h1 62; rw [hd62] at this; exact this)
      have HI61 : Hid (∀ w1, Cur W w0 lb fb s x w1 → Calls Tryz.prog 61 #[.pointer (some ⟨lb, 0, none⟩), .int .i64 1, .int .u8 61] w1 (Did W w0 lb fb s (.bool true) x)) := Lib.hid (fun w1 h1 => by have := HIS.out w1 h1 61; rw [hd61] at this; exact this)
      clear hrs hd62 hd61
      have HC := Lib.hid h; have HX := Lib.hid hx
      clear h hx hr
      go_enter Tryz.func52, Tryz.ntmps52
      go_wp2_with fail
      refine (HE.out _ HC.out).mono ?_
      rintro e w1 ⟨rfl, hC1⟩
      clear HC; have HC := Lib.hid hC1; clear hC1
      go_wp2_with fail
      refine (HPK.out _ HC.out).mono ?_
      rintro e w1 ⟨rfl, hC1⟩
      clear HC; have HC := Lib.hid hC1; clear hC1
      go_wp2_with fail
      refine (HI62.out _ HC.out).mono ?_
      rintro e w1 ⟨rfl, hC1⟩
      clear HC; have HC := Lib.hid hC1; clear hC1
      go_wp2_with fail
      refine (HI61.out _ HC.out).mono ?_
      rintro e w1 ⟨rfl, hC1⟩
      clear HC; have HC := Lib.hid hC1; clear hC1
      go_wp2_with fail
      refine (HS2.out h2 _ HC.out).mono ?_
      rintro e w1 ⟨rfl, hC1⟩
      clear HC; have HC := Lib.hid hC1; clear hC1
      have k1 := (HC.out.lex.cell 1).1; have f1 := (HC.out.lex.cell 1).2
      simp only [LexSt.cells, List.getElem?_toArray, List.getElem?_cons_succ, List.getElem?_cons_zero] at k1
      go_wp2_with fail
      go_end0
      refine ReadN.of_ok (by show x.pos + 2 ≤ s.size; omega) (fun _ => by show 0 < 2; omega) ?_
      rw [took_sym x HX.out]
      exact ⟨rfl, HC.out.set 1 _ _ rfl (by show x.pos + 2 ≤ s.size; omega)⟩
    | false =>
      have hrs : twoSym r 62 [62, 61] = sym [62] := by simp [twoSym, hd62, hd61]
      rw [hrs]
      have HI62 : Hid (∀ w1, Cur W w0 lb fb s x w1 → Calls Tryz.prog 61 #[.pointer (some ⟨lb, 0, none⟩), .int .i64 1, .int .u8 62] w1 (Did W w0 lb fb s (.bool false) x)) := Lib.hid (fun w1 h1 => by have := HIS.out w1 h1 62; rw [hd62] at this; exact this)
      have HI61 : Hid (∀ w1, Cur W w0 lb fb s x w1 → Calls Tryz.prog 61 #[.pointer (some ⟨lb, 0, none⟩), .int .i64 1, .int .u8 61] w1 (Did W w0 lb fb s (.bool false) x)) := Lib.hid (fun w1 h1 => by have := HIS.out w1 h1 61; rw [hd61] at this; exact this)
      clear hrs hd62 hd61
      have HC := Lib.hid h; have HX := Lib.hid hx
      clear h hx hr
      go_enter Tryz.func52, Tryz.ntmps52
      go_wp2_with fail
      refine (HE.out _ HC.out).mono ?_
      rintro e w1 ⟨rfl, hC1⟩
      clear HC; have HC := Lib.hid hC1; clear hC1
      go_wp2_with fail
      refine (HPK.out _ HC.out).mono ?_
      rintro e w1 ⟨rfl, hC1⟩
      clear HC; have HC := Lib.hid hC1; clear hC1
      go_wp2_with fail
      refine (HI62.out _ HC.out).mono ?_
      rintro e w1 ⟨rfl, hC1⟩
      clear HC; have HC := Lib.hid hC1; clear hC1
      go_wp2_with fail
      refine (HI61.out _ HC.out).mono ?_
      rintro e w1 ⟨rfl, hC1⟩
      clear HC; have HC := Lib.hid hC1; clear hC1
      go_wp2_with fail
      refine (HSK.out _ HC.out).mono ?_
      rintro e w1 ⟨rfl, hC1⟩
      clear HC; have HC := Lib.hid hC1; clear hC1
      have k1 := (HC.out.lex.cell 1).1; have f1 := (HC.out.lex.cell 1).2
      simp only [LexSt.cells, List.getElem?_toArray, List.getElem?_cons_succ, List.getElem?_cons_zero] at k1
      go_wp2_with fail
      go_end0
      refine ReadN.of_ok (by show x.pos + 1 ≤ s.size; omega) (fun _ => by show 0 < 1; omega) ?_
      rw [took_sym x HX.out]
      exact ⟨rfl, HC.out.set 1 _ _ rfl (by show x.pos + 1 ≤ s.size; omega)⟩
theorem tk_two43 {W w0 w : World} {lb fb : Nat} {s : ByteArray} {x : LexSt} {r : List UInt8} (h : Cur W w0 lb fb s x w) (np : Bool) (hx : x.text = ⟨#[]⟩ ∧ x.base = 0) (hr : s.data.toList.drop x.pos = r) (hl : 0 < r.length) (hc : byteAt r 0 = 43) :
    Calls Tryz.prog 52 #[.pointer (some ⟨lb, 0, none⟩), .bool np] w (ReadN W w0 lb fb s x np (twoSym r 43 [61])) := by
  have hpos := h.pos
  have hsz := h.sz
  have hrl : r.length = s.size - x.pos := by rw [← hr]; exact h.len
  have HE : Hid (∀ w1, Cur W w0 lb fb s x w1 → Calls Tryz.prog 57 #[.pointer (some ⟨lb, 0, none⟩)] w1 (Did W w0 lb fb s (.bool false) x)) := Lib.hid (fun w1 h1 => by have := eofR h1; rw [show decide (s.size ≤ x.pos) = false from by simp; omega] at this; exact this)
  have HPK : Hid (∀ w1, Cur W w0 lb fb s x w1 → Calls Tryz.prog 65 #[.pointer (some ⟨lb, 0, none⟩), .int .i64 0] w1 (Did W w0 lb fb s (.int .u8 (byteAt r 0)) x)) := Lib.hid (fun w1 h1 => by have := peekR h1 0 0 rfl (by rw [hr]; exact hl); rw [hr] at this; exact this)
  have HSK : Hid (∀ w1, Cur W w0 lb fb s x w1 → Calls Tryz.prog 66 #[.pointer (some ⟨lb, 0, none⟩)] w1 (Did W w0 lb fb s (.int .u8 (byteAt r 0)) { x with pos := x.pos + 1 })) := Lib.hid (fun w1 h1 => by have := skipR h1 (by omega); rw [← hr, byteAt_drop]; exact this)
  have HIS : Hid (∀ w1, Cur W w0 lb fb s x w1 → ∀ c : Int, Calls Tryz.prog 61 #[.pointer (some ⟨lb, 0, none⟩), .int .i64 1, .int .u8 c] w1 (Did W w0 lb fb s (.bool (isAt r 1 c)) x)) := Lib.hid (fun w1 h1 c => by have := peekIsR h1 1 1 c rfl (by omega); rw [hr] at this; exact this)
  have HS2 : Hid (2 ≤ r.length → ∀ w1, Cur W w0 lb fb s x w1 → Calls Tryz.prog 60 #[.pointer (some ⟨lb, 0, none⟩), .int .i64 2] w1 (Did W w0 lb fb s (.tuple #[]) { x with pos := x.pos + 2 })) := Lib.hid (fun h2 w1 h1 => skipNR h1 2 2 rfl (by omega))
  rw [hc] at HPK HSK
  cases hd61 : isAt r 1 61 with
  | true =>
    have hrs : twoSym r 43 [61] = sym [43, 61] := by simp [twoSym, hd61]
    rw [hrs]
    have h2 := len_two hd61
    have HI61 : Hid (∀ w1, Cur W w0 lb fb s x w1 → Calls Tryz.prog 61 #[.pointer (some ⟨lb, 0, none⟩), .int .i64 1, .int .u8 61] w1 (Did W w0 lb fb s (.bool true) x)) := Lib.hid (fun w1 h1 => by have := HIS.out w1 h1 61; rw [hd61] at this; exact this)
    clear hrs hd61
    have HC := Lib.hid h; have HX := Lib.hid hx
    clear h hx hr
    go_enter Tryz.func52, Tryz.ntmps52
    go_wp2_with fail
    refine (HE.out _ HC.out).mono ?_
    rintro e w1 ⟨rfl, hC1⟩
    clear HC; have HC := Lib.hid hC1; clear hC1
    go_wp2_with fail
    refine (HPK.out _ HC.out).mono ?_
    rintro e w1 ⟨rfl, hC1⟩
    clear HC; have HC := Lib.hid hC1; clear hC1
    go_wp2_with fail
    refine (HI61.out _ HC.out).mono ?_
    rintro e w1 ⟨rfl, hC1⟩
    clear HC; have HC := Lib.hid hC1; clear hC1
    go_wp2_with fail
    refine (HS2.out h2 _ HC.out).mono ?_
    rintro e w1 ⟨rfl, hC1⟩
    clear HC; have HC := Lib.hid hC1; clear hC1
    have k1 := (HC.out.lex.cell 1).1; have f1 := (HC.out.lex.cell 1).2
    simp only [LexSt.cells, List.getElem?_toArray, List.getElem?_cons_succ, List.getElem?_cons_zero] at k1
    go_wp2_with fail
    go_end0
    refine ReadN.of_ok (by show x.pos + 2 ≤ s.size; omega) (fun _ => by show 0 < 2; omega) ?_
    rw [took_sym x HX.out]
    exact ⟨rfl, HC.out.set 1 _ _ rfl (by show x.pos + 2 ≤ s.size; omega)⟩
  | false =>
    have hrs : twoSym r 43 [61] = sym [43] := by simp [twoSym, hd61]
    rw [hrs]
    have HI61 : Hid (∀ w1, Cur W w0 lb fb s x w1 → Calls Tryz.prog 61 #[.pointer (some ⟨lb, 0, none⟩), .int .i64 1, .int .u8 61] w1 (Did W w0 lb fb s (.bool false) x)) := Lib.hid (fun w1 h1 => by have := HIS.out w1 h1 61; rw [hd61] at this; exact this)
    clear hrs hd61
    have HC := Lib.hid h; have HX := Lib.hid hx
    clear h hx hr
    go_enter Tryz.func52, Tryz.ntmps52
    go_wp2_with fail
    refine (HE.out _ HC.out).mono ?_
    rintro e w1 ⟨rfl, hC1⟩
    clear HC; have HC := Lib.hid hC1; clear hC1
    go_wp2_with fail
    refine (HPK.out _ HC.out).mono ?_
    rintro e w1 ⟨rfl, hC1⟩
    clear HC; have HC := Lib.hid hC1; clear hC1
    go_wp2_with fail
    refine (HI61.out _ HC.out).mono ?_
    rintro e w1 ⟨rfl, hC1⟩
    clear HC; have HC := Lib.hid hC1; clear hC1
    go_wp2_with fail
    refine (HSK.out _ HC.out).mono ?_
    rintro e w1 ⟨rfl, hC1⟩
    clear HC; have HC := Lib.hid hC1; clear hC1
    have k1 := (HC.out.lex.cell 1).1; have f1 := (HC.out.lex.cell 1).2
    simp only [LexSt.cells, List.getElem?_toArray, List.getElem?_cons_succ, List.getElem?_cons_zero] at k1
    go_wp2_with fail
    go_end0
    refine ReadN.of_ok (by show x.pos + 1 ≤ s.size; omega) (fun _ => by show 0 < 1; omega) ?_
    rw [took_sym x HX.out]
    exact ⟨rfl, HC.out.set 1 _ _ rfl (by show x.pos + 1 ≤ s.size; omega)⟩
theorem tk_two45 {W w0 w : World} {lb fb : Nat} {s : ByteArray} {x : LexSt} {r : List UInt8} (h : Cur W w0 lb fb s x w) (np : Bool) (hx : x.text = ⟨#[]⟩ ∧ x.base = 0) (hr : s.data.toList.drop x.pos = r) (hl : 0 < r.length) (hc : byteAt r 0 = 45) :
    Calls Tryz.prog 52 #[.pointer (some ⟨lb, 0, none⟩), .bool np] w (ReadN W w0 lb fb s x np (twoSym r 45 [61, 62])) := by
  have hpos := h.pos
  have hsz := h.sz
  have hrl : r.length = s.size - x.pos := by rw [← hr]; exact h.len
  have HE : Hid (∀ w1, Cur W w0 lb fb s x w1 → Calls Tryz.prog 57 #[.pointer (some ⟨lb, 0, none⟩)] w1 (Did W w0 lb fb s (.bool false) x)) := Lib.hid (fun w1 h1 => by have := eofR h1; rw [show decide (s.size ≤ x.pos) = false from by simp; omega] at this; exact this)
  have HPK : Hid (∀ w1, Cur W w0 lb fb s x w1 → Calls Tryz.prog 65 #[.pointer (some ⟨lb, 0, none⟩), .int .i64 0] w1 (Did W w0 lb fb s (.int .u8 (byteAt r 0)) x)) := Lib.hid (fun w1 h1 => by have := peekR h1 0 0 rfl (by rw [hr]; exact hl); rw [hr] at this; exact this)
  have HSK : Hid (∀ w1, Cur W w0 lb fb s x w1 → Calls Tryz.prog 66 #[.pointer (some ⟨lb, 0, none⟩)] w1 (Did W w0 lb fb s (.int .u8 (byteAt r 0)) { x with pos := x.pos + 1 })) := Lib.hid (fun w1 h1 => by have := skipR h1 (by omega); rw [← hr, byteAt_drop]; exact this)
  have HIS : Hid (∀ w1, Cur W w0 lb fb s x w1 → ∀ c : Int, Calls Tryz.prog 61 #[.pointer (some ⟨lb, 0, none⟩), .int .i64 1, .int .u8 c] w1 (Did W w0 lb fb s (.bool (isAt r 1 c)) x)) := Lib.hid (fun w1 h1 c => by have := peekIsR h1 1 1 c rfl (by omega); rw [hr] at this; exact this)
  have HS2 : Hid (2 ≤ r.length → ∀ w1, Cur W w0 lb fb s x w1 → Calls Tryz.prog 60 #[.pointer (some ⟨lb, 0, none⟩), .int .i64 2] w1 (Did W w0 lb fb s (.tuple #[]) { x with pos := x.pos + 2 })) := Lib.hid (fun h2 w1 h1 => skipNR h1 2 2 rfl (by omega))
  rw [hc] at HPK HSK
  cases hd61 : isAt r 1 61 with
  | true =>
    have hrs : twoSym r 45 [61, 62] = sym [45, 61] := by simp [twoSym, hd61]
    rw [hrs]
    have h2 := len_two hd61
    have HI61 : Hid (∀ w1, Cur W w0 lb fb s x w1 → Calls Tryz.prog 61 #[.pointer (some ⟨lb, 0, none⟩), .int .i64 1, .int .u8 61] w1 (Did W w0 lb fb s (.bool true) x)) := Lib.hid (fun w1 h1 => by have := HIS.out w1 h1 61; rw [hd61] at this; exact this)
    clear hrs hd61
    have HC := Lib.hid h; have HX := Lib.hid hx
    clear h hx hr
    go_enter Tryz.func52, Tryz.ntmps52
    go_wp2_with fail
    refine (HE.out _ HC.out).mono ?_
    rintro e w1 ⟨rfl, hC1⟩
    clear HC; have HC := Lib.hid hC1; clear hC1
    go_wp2_with fail
    refine (HPK.out _ HC.out).mono ?_
    rintro e w1 ⟨rfl, hC1⟩
    clear HC; have HC := Lib.hid hC1; clear hC1
    go_wp2_with fail
    refine (HI61.out _ HC.out).mono ?_
    rintro e w1 ⟨rfl, hC1⟩
    clear HC; have HC := Lib.hid hC1; clear hC1
    go_wp2_with fail
    refine (HS2.out h2 _ HC.out).mono ?_
    rintro e w1 ⟨rfl, hC1⟩
    clear HC; have HC := Lib.hid hC1; clear hC1
    have k1 := (HC.out.lex.cell 1).1; have f1 := (HC.out.lex.cell 1).2
    simp only [LexSt.cells, List.getElem?_toArray, List.getElem?_cons_succ, List.getElem?_cons_zero] at k1
    go_wp2_with fail
    go_end0
    refine ReadN.of_ok (by show x.pos + 2 ≤ s.size; omega) (fun _ => by show 0 < 2; omega) ?_
    rw [took_sym x HX.out]
    exact ⟨rfl, HC.out.set 1 _ _ rfl (by show x.pos + 2 ≤ s.size; omega)⟩
  | false =>
    cases hd62 : isAt r 1 62 with
    | true =>
      have hrs : twoSym r 45 [61, 62] = sym [45, 62] := by simp [twoSym, hd61, hd62]
      rw [hrs]
      have h2 := len_two hd62
      have HI61 : Hid (∀ w1, Cur W w0 lb fb s x w1 → Calls Tryz.prog 61 #[.pointer (some ⟨lb, 0, none⟩), .int .i64 1, .int .u8 61] w1 (Did W w0 lb fb s (.bool false) x)) := Lib.hid (fun w1 h1 => by have := HIS.out w1 h1 61; rw [hd61] at this; exact this)
      have HI62 : Hid (∀ w1, Cur W w0 lb fb s x w1 → Calls Tryz.prog 61 #[.pointer (some ⟨lb, 0, none⟩), .int .i64 1, .int .u8 62] w1 (Did W w0 lb fb s (.bool true) x)) := Lib.hid (fun w1 h1 => by have := HIS.out w1 h1 62; rw [hd62] at this; exact this)
      clear hrs hd61 hd62
      have HC := Lib.hid h; have HX := Lib.hid hx
      clear h hx hr
      go_enter Tryz.func52, Tryz.ntmps52
      go_wp2_with fail
      refine (HE.out _ HC.out).mono ?_
      rintro e w1 ⟨rfl, hC1⟩
      clear HC; have HC := Lib.hid hC1; clear hC1
      go_wp2_with fail
      refine (HPK.out _ HC.out).mono ?_
      rintro e w1 ⟨rfl, hC1⟩
      clear HC; have HC := Lib.hid hC1; clear hC1
      go_wp2_with fail
      refine (HI61.out _ HC.out).mono ?_
      rintro e w1 ⟨rfl, hC1⟩
      clear HC; have HC := Lib.hid hC1; clear hC1
      go_wp2_with fail
      refine (HI62.out _ HC.out).mono ?_
      rintro e w1 ⟨rfl, hC1⟩
      clear HC; have HC := Lib.hid hC1; clear hC1
      go_wp2_with fail
      refine (HS2.out h2 _ HC.out).mono ?_
      rintro e w1 ⟨rfl, hC1⟩
      clear HC; have HC := Lib.hid hC1; clear hC1
      have k1 := (HC.out.lex.cell 1).1; have f1 := (HC.out.lex.cell 1).2
      simp only [LexSt.cells, List.getElem?_toArray, List.getElem?_cons_succ, List.getElem?_cons_zero] at k1
      go_wp2_with fail
      go_end0
      refine ReadN.of_ok (by show x.pos + 2 ≤ s.size; omega) (fun _ => by show 0 < 2; omega) ?_
      rw [took_sym x HX.out]
      exact ⟨rfl, HC.out.set 1 _ _ rfl (by show x.pos + 2 ≤ s.size; omega)⟩
    | false =>
      have hrs : twoSym r 45 [61, 62] = sym [45] := by simp [twoSym, hd61, hd62]
      rw [hrs]
      have HI61 : Hid (∀ w1, Cur W w0 lb fb s x w1 → Calls Tryz.prog 61 #[.pointer (some ⟨lb, 0, none⟩), .int .i64 1, .int .u8 61] w1 (Did W w0 lb fb s (.bool false) x)) := Lib.hid (fun w1 h1 => by have := HIS.out w1 h1 61; rw [hd61] at this; exact this)
      have HI62 : Hid (∀ w1, Cur W w0 lb fb s x w1 → Calls Tryz.prog 61 #[.pointer (some ⟨lb, 0, none⟩), .int .i64 1, .int .u8 62] w1 (Did W w0 lb fb s (.bool false) x)) := Lib.hid (fun w1 h1 => by have := HIS.out w1 h1 62; rw [hd62] at this; exact this)
      clear hrs hd61 hd62
      have HC := Lib.hid h; have HX := Lib.hid hx
      clear h hx hr
      go_enter Tryz.func52, Tryz.ntmps52
      go_wp2_with fail
      refine (HE.out _ HC.out).mono ?_
      rintro e w1 ⟨rfl, hC1⟩
      clear HC; have HC := Lib.hid hC1; clear hC1
      go_wp2_with fail
      refine (HPK.out _ HC.out).mono ?_
      rintro e w1 ⟨rfl, hC1⟩
      clear HC; have HC := Lib.hid hC1; clear hC1
      go_wp2_with fail
      refine (HI61.out _ HC.out).mono ?_
      rintro e w1 ⟨rfl, hC1⟩
      clear HC; have HC := Lib.hid hC1; clear hC1
      go_wp2_with fail
      refine (HI62.out _ HC.out).mono ?_
      rintro e w1 ⟨rfl, hC1⟩
      clear HC; have HC := Lib.hid hC1; clear hC1
      go_wp2_with fail
      refine (HSK.out _ HC.out).mono ?_
      rintro e w1 ⟨rfl, hC1⟩
      clear HC; have HC := Lib.hid hC1; clear hC1
      have k1 := (HC.out.lex.cell 1).1; have f1 := (HC.out.lex.cell 1).2
      simp only [LexSt.cells, List.getElem?_toArray, List.getElem?_cons_succ, List.getElem?_cons_zero] at k1
      go_wp2_with fail
      go_end0
      refine ReadN.of_ok (by show x.pos + 1 ≤ s.size; omega) (fun _ => by show 0 < 1; omega) ?_
      rw [took_sym x HX.out]
      exact ⟨rfl, HC.out.set 1 _ _ rfl (by show x.pos + 1 ≤ s.size; omega)⟩
theorem tk_two61 {W w0 w : World} {lb fb : Nat} {s : ByteArray} {x : LexSt} {r : List UInt8} (h : Cur W w0 lb fb s x w) (np : Bool) (hx : x.text = ⟨#[]⟩ ∧ x.base = 0) (hr : s.data.toList.drop x.pos = r) (hl : 0 < r.length) (hc : byteAt r 0 = 61) :
    Calls Tryz.prog 52 #[.pointer (some ⟨lb, 0, none⟩), .bool np] w (ReadN W w0 lb fb s x np (twoSym r 61 [62])) := by
  have hpos := h.pos
  have hsz := h.sz
  have hrl : r.length = s.size - x.pos := by rw [← hr]; exact h.len
  have HE : Hid (∀ w1, Cur W w0 lb fb s x w1 → Calls Tryz.prog 57 #[.pointer (some ⟨lb, 0, none⟩)] w1 (Did W w0 lb fb s (.bool false) x)) := Lib.hid (fun w1 h1 => by have := eofR h1; rw [show decide (s.size ≤ x.pos) = false from by simp; omega] at this; exact this)
  have HPK : Hid (∀ w1, Cur W w0 lb fb s x w1 → Calls Tryz.prog 65 #[.pointer (some ⟨lb, 0, none⟩), .int .i64 0] w1 (Did W w0 lb fb s (.int .u8 (byteAt r 0)) x)) := Lib.hid (fun w1 h1 => by have := peekR h1 0 0 rfl (by rw [hr]; exact hl); rw [hr] at this; exact this)
  have HSK : Hid (∀ w1, Cur W w0 lb fb s x w1 → Calls Tryz.prog 66 #[.pointer (some ⟨lb, 0, none⟩)] w1 (Did W w0 lb fb s (.int .u8 (byteAt r 0)) { x with pos := x.pos + 1 })) := Lib.hid (fun w1 h1 => by have := skipR h1 (by omega); rw [← hr, byteAt_drop]; exact this)
  have HIS : Hid (∀ w1, Cur W w0 lb fb s x w1 → ∀ c : Int, Calls Tryz.prog 61 #[.pointer (some ⟨lb, 0, none⟩), .int .i64 1, .int .u8 c] w1 (Did W w0 lb fb s (.bool (isAt r 1 c)) x)) := Lib.hid (fun w1 h1 c => by have := peekIsR h1 1 1 c rfl (by omega); rw [hr] at this; exact this)
  have HS2 : Hid (2 ≤ r.length → ∀ w1, Cur W w0 lb fb s x w1 → Calls Tryz.prog 60 #[.pointer (some ⟨lb, 0, none⟩), .int .i64 2] w1 (Did W w0 lb fb s (.tuple #[]) { x with pos := x.pos + 2 })) := Lib.hid (fun h2 w1 h1 => skipNR h1 2 2 rfl (by omega))
  rw [hc] at HPK HSK
  cases hd62 : isAt r 1 62 with
  | true =>
    have hrs : twoSym r 61 [62] = sym [61, 62] := by simp [twoSym, hd62]
    rw [hrs]
    have h2 := len_two hd62
    have HI62 : Hid (∀ w1, Cur W w0 lb fb s x w1 → Calls Tryz.prog 61 #[.pointer (some ⟨lb, 0, none⟩), .int .i64 1, .int .u8 62] w1 (Did W w0 lb fb s (.bool true) x)) := Lib.hid (fun w1 h1 => by have := HIS.out w1 h1 62; rw [hd62] at this; exact this)
    clear hrs hd62
    have HC := Lib.hid h; have HX := Lib.hid hx
    clear h hx hr
    go_enter Tryz.func52, Tryz.ntmps52
    go_wp2_with fail
    refine (HE.out _ HC.out).mono ?_
    rintro e w1 ⟨rfl, hC1⟩
    clear HC; have HC := Lib.hid hC1; clear hC1
    go_wp2_with fail
    refine (HPK.out _ HC.out).mono ?_
    rintro e w1 ⟨rfl, hC1⟩
    clear HC; have HC := Lib.hid hC1; clear hC1
    go_wp2_with fail
    refine (HI62.out _ HC.out).mono ?_
    rintro e w1 ⟨rfl, hC1⟩
    clear HC; have HC := Lib.hid hC1; clear hC1
    go_wp2_with fail
    refine (HS2.out h2 _ HC.out).mono ?_
    rintro e w1 ⟨rfl, hC1⟩
    clear HC; have HC := Lib.hid hC1; clear hC1
    have k1 := (HC.out.lex.cell 1).1; have f1 := (HC.out.lex.cell 1).2
    simp only [LexSt.cells, List.getElem?_toArray, List.getElem?_cons_succ, List.getElem?_cons_zero] at k1
    go_wp2_with fail
    go_end0
    refine ReadN.of_ok (by show x.pos + 2 ≤ s.size; omega) (fun _ => by show 0 < 2; omega) ?_
    rw [took_sym x HX.out]
    exact ⟨rfl, HC.out.set 1 _ _ rfl (by show x.pos + 2 ≤ s.size; omega)⟩
  | false =>
    have hrs : twoSym r 61 [62] = sym [61] := by simp [twoSym, hd62]
    rw [hrs]
    have HI62 : Hid (∀ w1, Cur W w0 lb fb s x w1 → Calls Tryz.prog 61 #[.pointer (some ⟨lb, 0, none⟩), .int .i64 1, .int .u8 62] w1 (Did W w0 lb fb s (.bool false) x)) := Lib.hid (fun w1 h1 => by have := HIS.out w1 h1 62; rw [hd62] at this; exact this)
    clear hrs hd62
    have HC := Lib.hid h; have HX := Lib.hid hx
    clear h hx hr
    go_enter Tryz.func52, Tryz.ntmps52
    go_wp2_with fail
    refine (HE.out _ HC.out).mono ?_
    rintro e w1 ⟨rfl, hC1⟩
    clear HC; have HC := Lib.hid hC1; clear hC1
    go_wp2_with fail
    refine (HPK.out _ HC.out).mono ?_
    rintro e w1 ⟨rfl, hC1⟩
    clear HC; have HC := Lib.hid hC1; clear hC1
    go_wp2_with fail
    refine (HI62.out _ HC.out).mono ?_
    rintro e w1 ⟨rfl, hC1⟩
    clear HC; have HC := Lib.hid hC1; clear hC1
    go_wp2_with fail
    refine (HSK.out _ HC.out).mono ?_
    rintro e w1 ⟨rfl, hC1⟩
    clear HC; have HC := Lib.hid hC1; clear hC1
    have k1 := (HC.out.lex.cell 1).1; have f1 := (HC.out.lex.cell 1).2
    simp only [LexSt.cells, List.getElem?_toArray, List.getElem?_cons_succ, List.getElem?_cons_zero] at k1
    go_wp2_with fail
    go_end0
    refine ReadN.of_ok (by show x.pos + 1 ≤ s.size; omega) (fun _ => by show 0 < 1; omega) ?_
    rw [took_sym x HX.out]
    exact ⟨rfl, HC.out.set 1 _ _ rfl (by show x.pos + 1 ≤ s.size; omega)⟩
theorem tk_two124 {W w0 w : World} {lb fb : Nat} {s : ByteArray} {x : LexSt} {r : List UInt8} (h : Cur W w0 lb fb s x w) (np : Bool) (hx : x.text = ⟨#[]⟩ ∧ x.base = 0) (hr : s.data.toList.drop x.pos = r) (hl : 0 < r.length) (hc : byteAt r 0 = 124) :
    Calls Tryz.prog 52 #[.pointer (some ⟨lb, 0, none⟩), .bool np] w (ReadN W w0 lb fb s x np (twoSym r 124 [62, 124])) := by
  have hpos := h.pos
  have hsz := h.sz
  have hrl : r.length = s.size - x.pos := by rw [← hr]; exact h.len
  have HE : Hid (∀ w1, Cur W w0 lb fb s x w1 → Calls Tryz.prog 57 #[.pointer (some ⟨lb, 0, none⟩)] w1 (Did W w0 lb fb s (.bool false) x)) := Lib.hid (fun w1 h1 => by have := eofR h1; rw [show decide (s.size ≤ x.pos) = false from by simp; omega] at this; exact this)
  have HPK : Hid (∀ w1, Cur W w0 lb fb s x w1 → Calls Tryz.prog 65 #[.pointer (some ⟨lb, 0, none⟩), .int .i64 0] w1 (Did W w0 lb fb s (.int .u8 (byteAt r 0)) x)) := Lib.hid (fun w1 h1 => by have := peekR h1 0 0 rfl (by rw [hr]; exact hl); rw [hr] at this; exact this)
  have HSK : Hid (∀ w1, Cur W w0 lb fb s x w1 → Calls Tryz.prog 66 #[.pointer (some ⟨lb, 0, none⟩)] w1 (Did W w0 lb fb s (.int .u8 (byteAt r 0)) { x with pos := x.pos + 1 })) := Lib.hid (fun w1 h1 => by have := skipR h1 (by omega); rw [← hr, byteAt_drop]; exact this)
  have HIS : Hid (∀ w1, Cur W w0 lb fb s x w1 → ∀ c : Int, Calls Tryz.prog 61 #[.pointer (some ⟨lb, 0, none⟩), .int .i64 1, .int .u8 c] w1 (Did W w0 lb fb s (.bool (isAt r 1 c)) x)) := Lib.hid (fun w1 h1 c => by have := peekIsR h1 1 1 c rfl (by omega); rw [hr] at this; exact this)
  have HS2 : Hid (2 ≤ r.length → ∀ w1, Cur W w0 lb fb s x w1 → Calls Tryz.prog 60 #[.pointer (some ⟨lb, 0, none⟩), .int .i64 2] w1 (Did W w0 lb fb s (.tuple #[]) { x with pos := x.pos + 2 })) := Lib.hid (fun h2 w1 h1 => skipNR h1 2 2 rfl (by omega))
  rw [hc] at HPK HSK
  cases hd62 : isAt r 1 62 with
  | true =>
    have hrs : twoSym r 124 [62, 124] = sym [124, 62] := by simp [twoSym, hd62]
    rw [hrs]
    have h2 := len_two hd62
    have HI62 : Hid (∀ w1, Cur W w0 lb fb s x w1 → Calls Tryz.prog 61 #[.pointer (some ⟨lb, 0, none⟩), .int .i64 1, .int .u8 62] w1 (Did W w0 lb fb s (.bool true) x)) := Lib.hid (fun w1 h1 => by have := HIS.out w1 h1 62; rw [hd62] at this; exact this)
    clear hrs hd62
    have HC := Lib.hid h; have HX := Lib.hid hx
    clear h hx hr
    go_enter Tryz.func52, Tryz.ntmps52
    go_wp2_with fail
    refine (HE.out _ HC.out).mono ?_
    rintro e w1 ⟨rfl, hC1⟩
    clear HC; have HC := Lib.hid hC1; clear hC1
    go_wp2_with fail
    refine (HPK.out _ HC.out).mono ?_
    rintro e w1 ⟨rfl, hC1⟩
    clear HC; have HC := Lib.hid hC1; clear hC1
    go_wp2_with fail
    refine (HI62.out _ HC.out).mono ?_
    rintro e w1 ⟨rfl, hC1⟩
    clear HC; have HC := Lib.hid hC1; clear hC1
    go_wp2_with fail
    refine (HS2.out h2 _ HC.out).mono ?_
    rintro e w1 ⟨rfl, hC1⟩
    clear HC; have HC := Lib.hid hC1; clear hC1
    have k1 := (HC.out.lex.cell 1).1; have f1 := (HC.out.lex.cell 1).2
    simp only [LexSt.cells, List.getElem?_toArray, List.getElem?_cons_succ, List.getElem?_cons_zero] at k1
    go_wp2_with fail
    go_end0
    refine ReadN.of_ok (by show x.pos + 2 ≤ s.size; omega) (fun _ => by show 0 < 2; omega) ?_
    rw [took_sym x HX.out]
    exact ⟨rfl, HC.out.set 1 _ _ rfl (by show x.pos + 2 ≤ s.size; omega)⟩
  | false =>
    cases hd124 : isAt r 1 124 with
    | true =>
      have hrs : twoSym r 124 [62, 124] = sym [124, 124] := by simp [twoSym, hd62, hd124]
      rw [hrs]
      have h2 := len_two hd124
      have HI62 : Hid (∀ w1, Cur W w0 lb fb s x w1 → Calls Tryz.prog 61 #[.pointer (some ⟨lb, 0, none⟩), .int .i64 1, .int .u8 62] w1 (Did W w0 lb fb s (.bool false) x)) := Lib.hid (fun w1 h1 => by have := HIS.out w1 h1 62; rw [hd62] at this; exact this)
      have HI124 : Hid (∀ w1, Cur W w0 lb fb s x w1 → Calls Tryz.prog 61 #[.pointer (some ⟨lb, 0, none⟩), .int .i64 1, .int .u8 124] w1 (Did W w0 lb fb s (.bool true) x)) := Lib.hid (fun w1 h1 => by have := HIS.out w1 h1 124; rw [hd124] at this; exact this)
      clear hrs hd62 hd124
      have HC := Lib.hid h; have HX := Lib.hid hx
      clear h hx hr
      go_enter Tryz.func52, Tryz.ntmps52
      go_wp2_with fail
      refine (HE.out _ HC.out).mono ?_
      rintro e w1 ⟨rfl, hC1⟩
      clear HC; have HC := Lib.hid hC1; clear hC1
      go_wp2_with fail
      refine (HPK.out _ HC.out).mono ?_
      rintro e w1 ⟨rfl, hC1⟩
      clear HC; have HC := Lib.hid hC1; clear hC1
      go_wp2_with fail
      refine (HI62.out _ HC.out).mono ?_
      rintro e w1 ⟨rfl, hC1⟩
      clear HC; have HC := Lib.hid hC1; clear hC1
      go_wp2_with fail
      refine (HI124.out _ HC.out).mono ?_
      rintro e w1 ⟨rfl, hC1⟩
      clear HC; have HC := Lib.hid hC1; clear hC1
      go_wp2_with fail
      refine (HS2.out h2 _ HC.out).mono ?_
      rintro e w1 ⟨rfl, hC1⟩
      clear HC; have HC := Lib.hid hC1; clear hC1
      have k1 := (HC.out.lex.cell 1).1; have f1 := (HC.out.lex.cell 1).2
      simp only [LexSt.cells, List.getElem?_toArray, List.getElem?_cons_succ, List.getElem?_cons_zero] at k1
      go_wp2_with fail
      go_end0
      refine ReadN.of_ok (by show x.pos + 2 ≤ s.size; omega) (fun _ => by show 0 < 2; omega) ?_
      rw [took_sym x HX.out]
      exact ⟨rfl, HC.out.set 1 _ _ rfl (by show x.pos + 2 ≤ s.size; omega)⟩
    | false =>
      have hrs : twoSym r 124 [62, 124] = sym [124] := by simp [twoSym, hd62, hd124]
      rw [hrs]
      have HI62 : Hid (∀ w1, Cur W w0 lb fb s x w1 → Calls Tryz.prog 61 #[.pointer (some ⟨lb, 0, none⟩), .int .i64 1, .int .u8 62] w1 (Did W w0 lb fb s (.bool false) x)) := Lib.hid (fun w1 h1 => by have := HIS.out w1 h1 62; rw [hd62] at this; exact this)
      have HI124 : Hid (∀ w1, Cur W w0 lb fb s x w1 → Calls Tryz.prog 61 #[.pointer (some ⟨lb, 0, none⟩), .int .i64 1, .int .u8 124] w1 (Did W w0 lb fb s (.bool false) x)) := Lib.hid (fun w1 h1 => by have := HIS.out w1 h1 124; rw [hd124] at this; exact this)
      clear hrs hd62 hd124
      have HC := Lib.hid h; have HX := Lib.hid hx
      clear h hx hr
      go_enter Tryz.func52, Tryz.ntmps52
      go_wp2_with fail
      refine (HE.out _ HC.out).mono ?_
      rintro e w1 ⟨rfl, hC1⟩
      clear HC; have HC := Lib.hid hC1; clear hC1
      go_wp2_with fail
      refine (HPK.out _ HC.out).mono ?_
      rintro e w1 ⟨rfl, hC1⟩
      clear HC; have HC := Lib.hid hC1; clear hC1
      go_wp2_with fail
      refine (HI62.out _ HC.out).mono ?_
      rintro e w1 ⟨rfl, hC1⟩
      clear HC; have HC := Lib.hid hC1; clear hC1
      go_wp2_with fail
      refine (HI124.out _ HC.out).mono ?_
      rintro e w1 ⟨rfl, hC1⟩
      clear HC; have HC := Lib.hid hC1; clear hC1
      go_wp2_with fail
      refine (HSK.out _ HC.out).mono ?_
      rintro e w1 ⟨rfl, hC1⟩
      clear HC; have HC := Lib.hid hC1; clear hC1
      have k1 := (HC.out.lex.cell 1).1; have f1 := (HC.out.lex.cell 1).2
      simp only [LexSt.cells, List.getElem?_toArray, List.getElem?_cons_succ, List.getElem?_cons_zero] at k1
      go_wp2_with fail
      go_end0
      refine ReadN.of_ok (by show x.pos + 1 ≤ s.size; omega) (fun _ => by show 0 < 1; omega) ?_
      rw [took_sym x HX.out]
      exact ⟨rfl, HC.out.set 1 _ _ rfl (by show x.pos + 1 ≤ s.size; omega)⟩
theorem tk_two33 {W w0 w : World} {lb fb : Nat} {s : ByteArray} {x : LexSt} {r : List UInt8} (h : Cur W w0 lb fb s x w) (np : Bool) (hx : x.text = ⟨#[]⟩ ∧ x.base = 0) (hr : s.data.toList.drop x.pos = r) (hl : 0 < r.length) (hc : byteAt r 0 = 33) :
    Calls Tryz.prog 52 #[.pointer (some ⟨lb, 0, none⟩), .bool np] w (ReadN W w0 lb fb s x np (twoSym r 33 [61])) := by
  have hpos := h.pos
  have hsz := h.sz
  have hrl : r.length = s.size - x.pos := by rw [← hr]; exact h.len
  have HE : Hid (∀ w1, Cur W w0 lb fb s x w1 → Calls Tryz.prog 57 #[.pointer (some ⟨lb, 0, none⟩)] w1 (Did W w0 lb fb s (.bool false) x)) := Lib.hid (fun w1 h1 => by have := eofR h1; rw [show decide (s.size ≤ x.pos) = false from by simp; omega] at this; exact this)
  have HPK : Hid (∀ w1, Cur W w0 lb fb s x w1 → Calls Tryz.prog 65 #[.pointer (some ⟨lb, 0, none⟩), .int .i64 0] w1 (Did W w0 lb fb s (.int .u8 (byteAt r 0)) x)) := Lib.hid (fun w1 h1 => by have := peekR h1 0 0 rfl (by rw [hr]; exact hl); rw [hr] at this; exact this)
  have HSK : Hid (∀ w1, Cur W w0 lb fb s x w1 → Calls Tryz.prog 66 #[.pointer (some ⟨lb, 0, none⟩)] w1 (Did W w0 lb fb s (.int .u8 (byteAt r 0)) { x with pos := x.pos + 1 })) := Lib.hid (fun w1 h1 => by have := skipR h1 (by omega); rw [← hr, byteAt_drop]; exact this)
  have HIS : Hid (∀ w1, Cur W w0 lb fb s x w1 → ∀ c : Int, Calls Tryz.prog 61 #[.pointer (some ⟨lb, 0, none⟩), .int .i64 1, .int .u8 c] w1 (Did W w0 lb fb s (.bool (isAt r 1 c)) x)) := Lib.hid (fun w1 h1 c => by have := peekIsR h1 1 1 c rfl (by omega); rw [hr] at this; exact this)
  have HS2 : Hid (2 ≤ r.length → ∀ w1, Cur W w0 lb fb s x w1 → Calls Tryz.prog 60 #[.pointer (some ⟨lb, 0, none⟩), .int .i64 2] w1 (Did W w0 lb fb s (.tuple #[]) { x with pos := x.pos + 2 })) := Lib.hid (fun h2 w1 h1 => skipNR h1 2 2 rfl (by omega))
  rw [hc] at HPK HSK
  cases hd61 : isAt r 1 61 with
  | true =>
    have hrs : twoSym r 33 [61] = sym [33, 61] := by simp [twoSym, hd61]
    rw [hrs]
    have h2 := len_two hd61
    have HI61 : Hid (∀ w1, Cur W w0 lb fb s x w1 → Calls Tryz.prog 61 #[.pointer (some ⟨lb, 0, none⟩), .int .i64 1, .int .u8 61] w1 (Did W w0 lb fb s (.bool true) x)) := Lib.hid (fun w1 h1 => by have := HIS.out w1 h1 61; rw [hd61] at this; exact this)
    clear hrs hd61
    have HC := Lib.hid h; have HX := Lib.hid hx
    clear h hx hr
    go_enter Tryz.func52, Tryz.ntmps52
    go_wp2_with fail
    refine (HE.out _ HC.out).mono ?_
    rintro e w1 ⟨rfl, hC1⟩
    clear HC; have HC := Lib.hid hC1; clear hC1
    go_wp2_with fail
    refine (HPK.out _ HC.out).mono ?_
    rintro e w1 ⟨rfl, hC1⟩
    clear HC; have HC := Lib.hid hC1; clear hC1
    go_wp2_with fail
    refine (HI61.out _ HC.out).mono ?_
    rintro e w1 ⟨rfl, hC1⟩
    clear HC; have HC := Lib.hid hC1; clear hC1
    go_wp2_with fail
    refine (HS2.out h2 _ HC.out).mono ?_
    rintro e w1 ⟨rfl, hC1⟩
    clear HC; have HC := Lib.hid hC1; clear hC1
    have k1 := (HC.out.lex.cell 1).1; have f1 := (HC.out.lex.cell 1).2
    simp only [LexSt.cells, List.getElem?_toArray, List.getElem?_cons_succ, List.getElem?_cons_zero] at k1
    go_wp2_with fail
    go_end0
    refine ReadN.of_ok (by show x.pos + 2 ≤ s.size; omega) (fun _ => by show 0 < 2; omega) ?_
    rw [took_sym x HX.out]
    exact ⟨rfl, HC.out.set 1 _ _ rfl (by show x.pos + 2 ≤ s.size; omega)⟩
  | false =>
    have hrs : twoSym r 33 [61] = sym [33] := by simp [twoSym, hd61]
    rw [hrs]
    have HI61 : Hid (∀ w1, Cur W w0 lb fb s x w1 → Calls Tryz.prog 61 #[.pointer (some ⟨lb, 0, none⟩), .int .i64 1, .int .u8 61] w1 (Did W w0 lb fb s (.bool false) x)) := Lib.hid (fun w1 h1 => by have := HIS.out w1 h1 61; rw [hd61] at this; exact this)
    clear hrs hd61
    have HC := Lib.hid h; have HX := Lib.hid hx
    clear h hx hr
    go_enter Tryz.func52, Tryz.ntmps52
    go_wp2_with fail
    refine (HE.out _ HC.out).mono ?_
    rintro e w1 ⟨rfl, hC1⟩
    clear HC; have HC := Lib.hid hC1; clear hC1
    go_wp2_with fail
    refine (HPK.out _ HC.out).mono ?_
    rintro e w1 ⟨rfl, hC1⟩
    clear HC; have HC := Lib.hid hC1; clear hC1
    go_wp2_with fail
    refine (HI61.out _ HC.out).mono ?_
    rintro e w1 ⟨rfl, hC1⟩
    clear HC; have HC := Lib.hid hC1; clear hC1
    go_wp2_with fail
    refine (HSK.out _ HC.out).mono ?_
    rintro e w1 ⟨rfl, hC1⟩
    clear HC; have HC := Lib.hid hC1; clear hC1
    have k1 := (HC.out.lex.cell 1).1; have f1 := (HC.out.lex.cell 1).2
    simp only [LexSt.cells, List.getElem?_toArray, List.getElem?_cons_succ, List.getElem?_cons_zero] at k1
    go_wp2_with fail
    go_end0
    refine ReadN.of_ok (by show x.pos + 1 ≤ s.size; omega) (fun _ => by show 0 < 1; omega) ?_
    rw [took_sym x HX.out]
    exact ⟨rfl, HC.out.set 1 _ _ rfl (by show x.pos + 1 ≤ s.size; omega)⟩
end Go.Proofs.YtcelnnjjakiehaaGreatDoor
