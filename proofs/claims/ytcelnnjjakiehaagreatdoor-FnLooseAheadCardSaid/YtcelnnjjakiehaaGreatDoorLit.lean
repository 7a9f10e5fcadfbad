/-
  The contracts of consumeString, consumeBytes, consumeRawString, consumeRawBytes.
-/
import Derived.Test.YtcelnnjjakiehaaGreatDoorQuoN
namespace Go.Proofs.YtcelnnjjakiehaaGreatDoor
open Go.RowKit
set_option linter.unusedVariables false
set_option maxRecDepth 1000000
set_option maxHeartbeats 16000000

theorem took_text (x : LexSt) (hx : x.text = ⟨#[]⟩ ∧ x.base = 0) (k t : List UInt8) (n : Nat) : x.took ⟨k, t, 0, n, none⟩ = { x with kind := ⟨k.toArray⟩, pos := x.pos + n, text := ⟨t.toArray⟩ } := by
  cases x
  obtain ⟨h1, h2⟩ := hx
  simp only at h1 h2
  subst h1 h2
  rfl
theorem delim_drop (l : List UInt8) (p : Nat) : delim l p = delim (l.drop p) 0 := by
  unfold delim
  rw [isAt_drop, isAt_drop, byteAt_drop]
  simp only [List.getD_eq_getElem?_getD, List.getElem?_drop, Nat.add_zero, Nat.zero_add]
theorem delim_len (r : List UInt8) : (delim r 0).length = 1 ∨ (delim r 0).length = 3 := by
  unfold delim
  split
  · exact .inr rfl
  · exact .inl rfl
theorem delim_le (r : List UInt8) (hl : 0 < r.length) : (delim r 0).length ≤ r.length := by
  unfold delim
  split
  · next h =>
    rw [Bool.and_eq_true] at h
    rcases Nat.lt_or_ge 2 r.length with h2 | h2
    · exact h2
    · have := h.2
      rw [isAt_out r (0 + 2) _ h2] at this; cases this
  · exact hl
theorem litRawBytes {W w0 w : World} {lb fb : Nat} {s : ByteArray} {x : LexSt} {r : List UInt8} (h : Cur W w0 lb fb s x w) (np : Bool) (hm : Mode np s) (hx : x.text = ⟨#[]⟩ ∧ x.base = 0) (hr : s.data.toList.drop x.pos = r) (hl : 0 < r.length) (hc : byteAt r 0 = 34 ∨ byteAt r 0 = 39) (hg : np = false → (qtok (delim r 0) true false false kBytes 0 r).good r.length) :
    Calls Tryz.prog 72 #[.pointer (some ⟨lb, 0, none⟩), .bool np] w (ReadN W w0 lb fb s x np (qtok (delim r 0) true false false kBytes 0 r)) := by
  have hpos := h.pos
  have hsz := h.sz
  have hrl : r.length = s.size - x.pos := by rw [← hr]; exact h.len
  have HD : Hid (∀ w1, Cur W w0 lb fb s { x with kind := ⟨#[60, 98, 121, 116, 101, 115, 62]⟩ } w1 → Calls Tryz.prog 90 #[.pointer (some ⟨lb, 0, none⟩)] w1 fun e w' => e = .returned (.string ⟨(delim r 0).toArray⟩) ∧ Below w1.heap.size w1 w') := Lib.hid (fun w1 h1 => by
    have := peekDelim_any lb fb x.pos s w1 h1.lex.rd (by omega) (by omega) (by rw [← hr, byteAt_drop] at hc; exact hc)
    rw [delim_drop s.data.toList x.pos, hr] at this; exact this)
  have hdl := delim_len r
  have hdn := delim_le r hl
  have HQ : Hid (∀ w1, Cur W w0 lb fb s { x with kind := ⟨#[60, 98, 121, 116, 101, 115, 62]⟩ } w1 → ∀ name : ByteArray, (name.toList == [105, 100, 101, 110, 116, 105, 102, 105, 101, 114]) = false → name.size ≤ 1000 → Calls Tryz.prog 71 #[.pointer (some ⟨lb, 0, none⟩), .string ⟨(delim r 0).toArray⟩, .bool true, .bool false, .string name, .bool np] w1 (QReadN W w0 lb fb s { x with kind := ⟨#[60, 98, 121, 116, 101, 115, 62]⟩ } np (qrun (delim r 0) true false false r (delim r 0).length []))) := Lib.hid (fun w1 h1 name hn hn3 => by
    have hsz2 : (⟨(delim r 0).toArray⟩ : ByteArray).size = (delim r 0).length := by show (delim r 0).toArray.size = _; simp
    have := quotedN_any h1 np hm ⟨(delim r 0).toArray⟩ true false name false (by rw [hsz2]; exact hdl) (by rw [hsz2]; show _ ≤ s.size - x.pos; omega) hn (fun hh => by cases hh) hn3 (fun hnp => by
      have h2 := hg hnp
      rw [hsz2]
      show (qrun (delim r 0) true false false (s.data.toList.drop x.pos) (delim r 0).length []).good (s.size - x.pos)
      rw [hr, ← hrl]
      unfold qtok at h2
      rw [List.drop_zero] at h2
      cases hq : qrun (delim r 0) true false false r (delim r 0).length [] with
      | ok t n => rw [hq] at h2; have h2 : 0 + n ≤ r.length := h2; show n ≤ r.length; omega
      | err p e => rw [hq] at h2; have h2 : 0 + p ≤ 0 + e ∧ 0 + e ≤ r.length := h2; show p ≤ e ∧ e ≤ r.length; omega)
    rw [hsz2] at this
    have h3 : QReadN W w0 lb fb s { x with kind := ⟨#[60, 98, 121, 116, 101, 115, 62]⟩ } np (qrun (delim r 0) true false false (s.data.toList.drop x.pos) (delim r 0).length []) = QReadN W w0 lb fb s { x with kind := ⟨#[60, 98, 121, 116, 101, 115, 62]⟩ } np (qrun (delim r 0) true false false r (delim r 0).length []) := by rw [hr]
    rw [← h3]; exact this)
  have hql := fun t n => qrun_len (delim r 0) true false false r r.length (delim r 0).length [] t n (by omega)
  have hok : ∀ t n, qrun (delim r 0) true false false r (delim r 0).length [] = .ok t n → qtok (delim r 0) true false false kBytes 0 r = .ok ⟨kBytes, t, 0, n, none⟩ := by
    intro t n hh
    unfold qtok
    rw [List.drop_zero, hh]
    show Rs.ok ⟨kBytes, t, 0, 0 + n, none⟩ = _
    rw [Nat.zero_add]
  have herr : ∀ p e, qrun (delim r 0) true false false r (delim r 0).length [] = .err p e → qtok (delim r 0) true false false kBytes 0 r = .err p e := by
    intro p e hh
    unfold qtok
    rw [List.drop_zero, hh]
    show Rs.err (0 + p) (0 + e) = _
    rw [Nat.zero_add, Nat.zero_add]
  generalize qtok (delim r 0) true false false kBytes 0 r = RS at *
  generalize qrun (delim r 0) true false false r (delim r 0).length [] = Q at *
  have HOKR := Lib.hid hok; have HERR := Lib.hid herr
  clear hok herr
  generalize (⟨(delim r 0).toArray⟩ : ByteArray) = D at *
  have k1 := (h.lex.cell 1).1; have f1 := (h.lex.cell 1).2
  simp only [LexSt.cells, List.getElem?_toArray, List.getElem?_cons_succ, List.getElem?_cons_zero] at k1
  have HC := Lib.hid h; have HX := Lib.hid hx; have HG := Lib.hid hg
  clear h hx hr hg hm
  go_enter Tryz.func72, Tryz.ntmps72
  go_wp2_with fail
  have hC1 : Cur W w0 lb fb s { x with kind := ⟨#[60, 98, 121, 116, 101, 115, 62]⟩ } (w.setCell ⟨lb, 1, none⟩ (.string ⟨#[60, 98, 121, 116, 101, 115, 62]⟩)) := HC.out.set 1 _ _ rfl hpos
  clear HC k1 f1
  have HC := Lib.hid hC1; clear hC1
  refine (HD.out _ HC.out).mono ?_
  rintro e w1 ⟨rfl, hb⟩
  have HC1 := Lib.hid (HC.out.keep hb)
  clear HC hb
  go_wp2_with fail
  refine (HQ.out _ HC1.out _ (by rw [Lib.toList_data]; rfl) (by decide)).mono ?_
  intro e w2 hq
  have hq : QReadN W w0 lb fb s { x with kind := ⟨#[60, 98, 121, 116, 101, 115, 62]⟩ } np Q e w2 := hq
  cases np with
  | true =>
    obtain ⟨b, t, n, rfl, hC, hn0, hn1, hn2⟩ := hq
    have HC := Lib.hid hC; clear hC
    have k5 := (HC.out.lex.cell 5).1; have f5 := (HC.out.lex.cell 5).2
    simp only [LexSt.cells, List.getElem?_toArray, List.getElem?_cons_succ, List.getElem?_cons_zero] at k5
    have HN := Lib.hid hn2; clear hn2
    cases b with
    | true =>
      have hC5 := HC.out.set 5 (.string ⟨t.toArray⟩) { x with kind := ⟨#[60, 98, 121, 116, 101, 115, 62]⟩, pos := x.pos + n, text := ⟨t.toArray⟩ } rfl hn1
      have k1 := (hC5.lex.cell 1).1; have f1 := (hC5.lex.cell 1).2
      simp only [LexSt.cells, List.getElem?_toArray, List.getElem?_cons_succ, List.getElem?_cons_zero] at k1
      have HC5 := Lib.hid hC5; clear hC5
      go_wp2_with fail
      go_end0
      refine ⟨⟨kBad, t, 0, n, none⟩, ?_, hn1, fun _ => hn0, ?_⟩
      · intro t' ht
        cases Q with
        | ok t2 n2 => have := (HN.out t2 n2 rfl).1; cases this
        | err p e => rw [HERR.out p e rfl] at ht; cases ht
      · rw [took_text x HX.out]
        exact ⟨rfl, HC5.out.set 1 _ _ rfl hn1⟩
    | false =>
      go_wp2_with fail
      go_end0
      refine ⟨⟨kBytes, t, 0, n, none⟩, ?_, hn1, fun _ => hn0, ?_⟩
      · intro t' ht
        cases Q with
        | ok t2 n2 =>
          obtain ⟨_, h2, h3⟩ := HN.out t2 n2 rfl
          rw [HOKR.out t2 n2 rfl] at ht
          cases ht
          rw [h2, h3]
        | err p e => rw [HERR.out p e rfl] at ht; cases ht
      · rw [took_text x HX.out]
        exact ⟨rfl, HC.out.set 5 _ _ rfl hn1⟩
  | false =>
    cases Q with
    | ok t n =>
      obtain ⟨rfl, hC⟩ : QRead W w0 lb fb s { x with kind := ⟨#[60, 98, 121, 116, 101, 115, 62]⟩ } (.ok t n) e w2 := hq
      have hn := hql t n rfl
      have hn1 : x.pos + n ≤ s.size := by omega
      have HC := Lib.hid hC; clear hC
      have k5 := (HC.out.lex.cell 5).1; have f5 := (HC.out.lex.cell 5).2
      simp only [LexSt.cells, List.getElem?_toArray, List.getElem?_cons_succ, List.getElem?_cons_zero] at k5
      go_wp2_with fail
      go_end0
      rw [HOKR.out t n rfl]
      show Did _ _ _ _ _ _ _ _ _
      rw [took_text x HX.out]
      exact ⟨rfl, HC.out.set 5 _ _ rfl hn1⟩
    | err p q =>
      obtain ⟨EB, rfl, hE⟩ : Fault W w0 lb fb (x.pos + p) e w2 := hq
      have HE := Lib.hid hE; clear hE
      go_wp2_with fail
      refine ⟨rfl, ?_⟩
      rw [HERR.out p q rfl]
      exact ⟨EB, rfl, HE.out⟩
theorem litBytes {W w0 w : World} {lb fb : Nat} {s : ByteArray} {x : LexSt} {r : List UInt8} (h : Cur W w0 lb fb s x w) (np : Bool) (hm : Mode np s) (hx : x.text = ⟨#[]⟩ ∧ x.base = 0) (hr : s.data.toList.drop x.pos = r) (hl : 0 < r.length) (hc : byteAt r 0 = 34 ∨ byteAt r 0 = 39) (hg : np = false → (qtok (delim r 0) false false false kBytes 0 r).good r.length) :
    Calls Tryz.prog 73 #[.pointer (some ⟨lb, 0, none⟩), .bool np] w (ReadN W w0 lb fb s x np (qtok (delim r 0) false false false kBytes 0 r)) := by
  have hpos := h.pos
  have hsz := h.sz
  have hrl : r.length = s.size - x.pos := by rw [← hr]; exact h.len
  have HD : Hid (∀ w1, Cur W w0 lb fb s { x with kind := ⟨#[60, 98, 121, 116, 101, 115, 62]⟩ } w1 → Calls Tryz.prog 90 #[.pointer (some ⟨lb, 0, none⟩)] w1 fun e w' => e = .returned (.string ⟨(delim r 0).toArray⟩) ∧ Below w1.heap.size w1 w') := Lib.hid (fun w1 h1 => by
    have := peekDelim_any lb fb x.pos s w1 h1.lex.rd (by omega) (by omega) (by rw [← hr, byteAt_drop] at hc; exact hc)
    rw [delim_drop s.data.toList x.pos, hr] at this; exact this)
  have hdl := delim_len r
  have hdn := delim_le r hl
  have HQ : Hid (∀ w1, Cur W w0 lb fb s { x with kind := ⟨#[60, 98, 121, 116, 101, 115, 62]⟩ } w1 → ∀ name : ByteArray, (name.toList == [105, 100, 101, 110, 116, 105, 102, 105, 101, 114]) = false → name.size ≤ 1000 → Calls Tryz.prog 71 #[.pointer (some ⟨lb, 0, none⟩), .string ⟨(delim r 0).toArray⟩, .bool false, .bool false, .string name, .bool np] w1 (QReadN W w0 lb fb s { x with kind := ⟨#[60, 98, 121, 116, 101, 115, 62]⟩ } np (qrun (delim r 0) false false false r (delim r 0).length []))) := Lib.hid (fun w1 h1 name hn hn3 => by
    have hsz2 : (⟨(delim r 0).toArray⟩ : ByteArray).size = (delim r 0).length := by show (delim r 0).toArray.size = _; simp
    have := quotedN_any h1 np hm ⟨(delim r 0).toArray⟩ false false name false (by rw [hsz2]; exact hdl) (by rw [hsz2]; show _ ≤ s.size - x.pos; omega) hn (fun hh => by cases hh) hn3 (fun hnp => by
      have h2 := hg hnp
      rw [hsz2]
      show (qrun (delim r 0) false false false (s.data.toList.drop x.pos) (delim r 0).length []).good (s.size - x.pos)
      rw [hr, ← hrl]
      unfold qtok at h2
      rw [List.drop_zero] at h2
      cases hq : qrun (delim r 0) false false false r (delim r 0).length [] with
      | ok t n => rw [hq] at h2; have h2 : 0 + n ≤ r.length := h2; show n ≤ r.length; omega
      | err p e => rw [hq] at h2; have h2 : 0 + p ≤ 0 + e ∧ 0 + e ≤ r.length := h2; show p ≤ e ∧ e ≤ r.length; omega)
    rw [hsz2] at this
    have h3 : QReadN W w0 lb fb s { x with kind := ⟨#[60, 98, 121, 116, 101, 115, 62]⟩ } np (qrun (delim r 0) false false false (s.data.toList.drop x.pos) (delim r 0).length []) = QReadN W w0 lb fb s { x with kind := ⟨#[60, 98, 121, 116, 101, 115, 62]⟩ } np (qrun (delim r 0) false false false r (delim r 0).length []) := by rw [hr]
    rw [← h3]; exact this)
  have hql := fun t n => qrun_len (delim r 0) false false false r r.length (delim r 0).length [] t n (by omega)
  have hok : ∀ t n, qrun (delim r 0) false false false r (delim r 0).length [] = .ok t n → qtok (delim r 0) false false false kBytes 0 r = .ok ⟨kBytes, t, 0, n, none⟩ := by
    intro t n hh
    unfold qtok
    rw [List.drop_zero, hh]
    show Rs.ok ⟨kBytes, t, 0, 0 + n, none⟩ = _
    rw [Nat.zero_add]
  have herr : ∀ p e, qrun (delim r 0) false false false r (delim r 0).length [] = .err p e → qtok (delim r 0) false false false kBytes 0 r = .err p e := by
    intro p e hh
    unfold qtok
    rw [List.drop_zero, hh]
    show Rs.err (0 + p) (0 + e) = _
    rw [Nat.zero_add, Nat.zero_add]
  generalize qtok (delim r 0) false false false kBytes 0 r = RS at *
  generalize qrun (delim r 0) false false false r (delim r 0).length [] = Q at *
  have HOKR := Lib.hid hok; have HERR := Lib.hid herr
  clear hok herr
  generalize (⟨(delim r 0).toArray⟩ : ByteArray) = D at *
  have k1 := (h.lex.cell 1).1; have f1 := (h.lex.cell 1).2
  simp only [LexSt.cells, List.getElem?_toArray, List.getElem?_cons_succ, List.getElem?_cons_zero] at k1
  have HC := Lib.hid h; have HX := Lib.hid hx; have HG := Lib.hid hg
  clear h hx hr hg hm
  go_enter Tryz.func73, Tryz.ntmps73
  go_wp2_with fail
  have hC1 : Cur W w0 lb fb s { x with kind := ⟨#[60, 98, 121, 116, 101, 115, 62]⟩ } (w.setCell ⟨lb, 1, none⟩ (.string ⟨#[60, 98, 121, 116, 101, 115, 62]⟩)) := HC.out.set 1 _ _ rfl hpos
  clear HC k1 f1
  have HC := Lib.hid hC1; clear hC1
  refine (HD.out _ HC.out).mono ?_
  rintro e w1 ⟨rfl, hb⟩
  have HC1 := Lib.hid (HC.out.keep hb)
  clear HC hb
  go_wp2_with fail
  refine (HQ.out _ HC1.out _ (by rw [Lib.toList_data]; rfl) (by decide)).mono ?_
  intro e w2 hq
  have hq : QReadN W w0 lb fb s { x with kind := ⟨#[60, 98, 121, 116, 101, 115, 62]⟩ } np Q e w2 := hq
  cases np with
  | true =>
    obtain ⟨b, t, n, rfl, hC, hn0, hn1, hn2⟩ := hq
    have HC := Lib.hid hC; clear hC
    have k5 := (HC.out.lex.cell 5).1; have f5 := (HC.out.lex.cell 5).2
    simp only [LexSt.cells, List.getElem?_toArray, List.getElem?_cons_succ, List.getElem?_cons_zero] at k5
    have HN := Lib.hid hn2; clear hn2
    cases b with
    | true =>
      have hC5 := HC.out.set 5 (.string ⟨t.toArray⟩) { x with kind := ⟨#[60, 98, 121, 116, 101, 115, 62]⟩, pos := x.pos + n, text := ⟨t.toArray⟩ } rfl hn1
      have k1 := (hC5.lex.cell 1).1; have f1 := (hC5.lex.cell 1).2
      simp only [LexSt.cells, List.getElem?_toArray, List.getElem?_cons_succ, List.getElem?_cons_zero] at k1
      have HC5 := Lib.hid hC5; clear hC5
      go_wp2_with fail
      go_end0
      refine ⟨⟨kBad, t, 0, n, none⟩, ?_, hn1, fun _ => hn0, ?_⟩
      · intro t' ht
        cases Q with
        | ok t2 n2 => have := (HN.out t2 n2 rfl).1; cases this
        | err p e => rw [HERR.out p e rfl] at ht; cases ht
      · rw [took_text x HX.out]
        exact ⟨rfl, HC5.out.set 1 _ _ rfl hn1⟩
    | false =>
      go_wp2_with fail
      go_end0
      refine ⟨⟨kBytes, t, 0, n, none⟩, ?_, hn1, fun _ => hn0, ?_⟩
      · intro t' ht
        cases Q with
        | ok t2 n2 =>
          obtain ⟨_, h2, h3⟩ := HN.out t2 n2 rfl
          rw [HOKR.out t2 n2 rfl] at ht
          cases ht
          rw [h2, h3]
        | err p e => rw [HERR.out p e rfl] at ht; cases ht
      · rw [took_text x HX.out]
        exact ⟨rfl, HC.out.set 5 _ _ rfl hn1⟩
  | false =>
    cases Q with
    | ok t n =>
      obtain ⟨rfl, hC⟩ : QRead W w0 lb fb s { x with kind := ⟨#[60, 98, 121, 116, 101, 115, 62]⟩ } (.ok t n) e w2 := hq
      have hn := hql t n rfl
      have hn1 : x.pos + n ≤ s.size := by omega
      have HC := Lib.hid hC; clear hC
      have k5 := (HC.out.lex.cell 5).1; have f5 := (HC.out.lex.cell 5).2
      simp only [LexSt.cells, List.getElem?_toArray, List.getElem?_cons_succ, List.getElem?_cons_zero] at k5
      go_wp2_with fail
      go_end0
      rw [HOKR.out t n rfl]
      show Did _ _ _ _ _ _ _ _ _
      rw [took_text x HX.out]
      exact ⟨rfl, HC.out.set 5 _ _ rfl hn1⟩
    | err p q =>
      obtain ⟨EB, rfl, hE⟩ : Fault W w0 lb fb (x.pos + p) e w2 := hq
      have HE := Lib.hid hE; clear hE
      go_wp2_with fail
      refine ⟨rfl, ?_⟩
      rw [HERR.out p q rfl]
      exact ⟨EB, rfl, HE.out⟩
theorem litRawString {W w0 w : World} {lb fb : Nat} {s : ByteArray} {x : LexSt} {r : List UInt8} (h : Cur W w0 lb fb s x w) (np : Bool) (hm : Mode np s) (hx : x.text = ⟨#[]⟩ ∧ x.base = 0) (hr : s.data.toList.drop x.pos = r) (hl : 0 < r.length) (hc : byteAt r 0 = 34 ∨ byteAt r 0 = 39) (hg : np = false → (qtok (delim r 0) true true false kString 0 r).good r.length) :
    Calls Tryz.prog 74 #[.pointer (some ⟨lb, 0, none⟩), .bool np] w (ReadN W w0 lb fb s x np (qtok (delim r 0) true true false kString 0 r)) := by
  have hpos := h.pos
  have hsz := h.sz
  have hrl : r.length = s.size - x.pos := by rw [← hr]; exact h.len
  have HD : Hid (∀ w1, Cur W w0 lb fb s { x with kind := ⟨#[60, 115, 116, 114, 105, 110, 103, 62]⟩ } w1 → Calls Tryz.prog 90 #[.pointer (some ⟨lb, 0, none⟩)] w1 fun e w' => e = .returned (.string ⟨(delim r 0).toArray⟩) ∧ Below w1.heap.size w1 w') := Lib.hid (fun w1 h1 => by
    have := peekDelim_any lb fb x.pos s w1 h1.lex.rd (by omega) (by omega) (by rw [← hr, byteAt_drop] at hc; exact hc)
    rw [delim_drop s.data.toList x.pos, hr] at this; exact this)
  have hdl := delim_len r
  have hdn := delim_le r hl
  have HQ : Hid (∀ w1, Cur W w0 lb fb s { x with kind := ⟨#[60, 115, 116, 114, 105, 110, 103, 62]⟩ } w1 → ∀ name : ByteArray, (name.toList == [105, 100, 101, 110, 116, 105, 102, 105, 101, 114]) = false → name.size ≤ 1000 → Calls Tryz.prog 71 #[.pointer (some ⟨lb, 0, none⟩), .string ⟨(delim r 0).toArray⟩, .bool true, .bool true, .string name, .bool np] w1 (QReadN W w0 lb fb s { x with kind := ⟨#[60, 115, 116, 114, 105, 110, 103, 62]⟩ } np (qrun (delim r 0) true true false r (delim r 0).length []))) := Lib.hid (fun w1 h1 name hn hn3 => by
    have hsz2 : (⟨(delim r 0).toArray⟩ : ByteArray).size = (delim r 0).length := by show (delim r 0).toArray.size = _; simp
    have := quotedN_any h1 np hm ⟨(delim r 0).toArray⟩ true true name false (by rw [hsz2]; exact hdl) (by rw [hsz2]; show _ ≤ s.size - x.pos; omega) hn (fun hh => by cases hh) hn3 (fun hnp => by
      have h2 := hg hnp
      rw [hsz2]
      show (qrun (delim r 0) true true false (s.data.toList.drop x.pos) (delim r 0).length []).good (s.size - x.pos)
      rw [hr, ← hrl]
      unfold qtok at h2
      rw [List.drop_zero] at h2
      cases hq : qrun (delim r 0) true true false r (delim r 0).length [] with
      | ok t n => rw [hq] at h2; have h2 : 0 + n ≤ r.length := h2; show n ≤ r.length; omega
      | err p e => rw [hq] at h2; have h2 : 0 + p ≤ 0 + e ∧ 0 + e ≤ r.length := h2; show p ≤ e ∧ e ≤ r.length; omega)
    rw [hsz2] at this
    have h3 : QReadN W w0 lb fb s { x with kind := ⟨#[60, 115, 116, 114, 105, 110, 103, 62]⟩ } np (qrun (delim r 0) true true false (s.data.toList.drop x.pos) (delim r 0).length []) = QReadN W w0 lb fb s { x with kind := ⟨#[60, 115, 116, 114, 105, 110, 103, 62]⟩ } np (qrun (delim r 0) true true false r (delim r 0).length []) := by rw [hr]
    rw [← h3]; exact this)
  have hql := fun t n => qrun_len (delim r 0) true true false r r.length (delim r 0).length [] t n (by omega)
  have hok : ∀ t n, qrun (delim r 0) true true false r (delim r 0).length [] = .ok t n → qtok (delim r 0) true true false kString 0 r = .ok ⟨kString, t, 0, n, none⟩ := by
    intro t n hh
    unfold qtok
    rw [List.drop_zero, hh]
    show Rs.ok ⟨kString, t, 0, 0 + n, none⟩ = _
    rw [Nat.zero_add]
  have herr : ∀ p e, qrun (delim r 0) true true false r (delim r 0).length [] = .err p e → qtok (delim r 0) true true false kString 0 r = .err p e := by
    intro p e hh
    unfold qtok
    rw [List.drop_zero, hh]
    show Rs.err (0 + p) (0 + e) = _
    rw [Nat.zero_add, Nat.zero_add]
  generalize qtok (delim r 0) true true false kString 0 r = RS at *
  generalize qrun (delim r 0) true true false r (delim r 0).length [] = Q at *
  have HOKR := Lib.hid hok; have HERR := Lib.hid herr
  clear hok herr
  generalize (⟨(delim r 0).toArray⟩ : ByteArray) = D at *
  have k1 := (h.lex.cell 1).1; have f1 := (h.lex.cell 1).2
  simp only [LexSt.cells, List.getElem?_toArray, List.getElem?_cons_succ, List.getElem?_cons_zero] at k1
  have HC := Lib.hid h; have HX := Lib.hid hx; have HG := Lib.hid hg
  clear h hx hr hg hm
  go_enter Tryz.func74, Tryz.ntmps74
  go_wp2_with fail
  have hC1 : Cur W w0 lb fb s { x with kind := ⟨#[60, 115, 116, 114, 105, 110, 103, 62]⟩ } (w.setCell ⟨lb, 1, none⟩ (.string ⟨#[60, 115, 116, 114, 105, 110, 103, 62]⟩)) := HC.out.set 1 _ _ rfl hpos
  clear HC k1 f1
  have HC := Lib.hid hC1; clear hC1
  refine (HD.out _ HC.out).mono ?_
  rintro e w1 ⟨rfl, hb⟩
  have HC1 := Lib.hid (HC.out.keep hb)
  clear HC hb
  go_wp2_with fail
  refine (HQ.out _ HC1.out _ (by rw [Lib.toList_data]; rfl) (by decide)).mono ?_
  intro e w2 hq
  have hq : QReadN W w0 lb fb s { x with kind := ⟨#[60, 115, 116, 114, 105, 110, 103, 62]⟩ } np Q e w2 := hq
  cases np with
  | true =>
    obtain ⟨b, t, n, rfl, hC, hn0, hn1, hn2⟩ := hq
    have HC := Lib.hid hC; clear hC
    have k5 := (HC.out.lex.cell 5).1; have f5 := (HC.out.lex.cell 5).2
    simp only [LexSt.cells, List.getElem?_toArray, List.getElem?_cons_succ, List.getElem?_cons_zero] at k5
    have HN := Lib.hid hn2; clear hn2
    cases b with
    | true =>
      have hC5 := HC.out.set 5 (.string ⟨t.toArray⟩) { x with kind := ⟨#[60, 115, 116, 114, 105, 110, 103, 62]⟩, pos := x.pos + n, text := ⟨t.toArray⟩ } rfl hn1
      have k1 := (hC5.lex.cell 1).1; have f1 := (hC5.lex.cell 1).2
      simp only [LexSt.cells, List.getElem?_toArray, List.getElem?_cons_succ, List.getElem?_cons_zero] at k1
      have HC5 := Lib.hid hC5; clear hC5
      go_wp2_with fail
      go_end0
      refine ⟨⟨kBad, t, 0, n, none⟩, ?_, hn1, fun _ => hn0, ?_⟩
      · intro t' ht
        cases Q with
        | ok t2 n2 => have := (HN.out t2 n2 rfl).1; cases this
        | err p e => rw [HERR.out p e rfl] at ht; cases ht
      · rw [took_text x HX.out]
        exact ⟨rfl, HC5.out.set 1 _ _ rfl hn1⟩
    | false =>
      go_wp2_with fail
      go_end0
      refine ⟨⟨kString, t, 0, n, none⟩, ?_, hn1, fun _ => hn0, ?_⟩
      · intro t' ht
        cases Q with
        | ok t2 n2 =>
          obtain ⟨_, h2, h3⟩ := HN.out t2 n2 rfl
          rw [HOKR.out t2 n2 rfl] at ht
          cases ht
          rw [h2, h3]
        | err p e => rw [HERR.out p e rfl] at ht; cases ht
      · rw [took_text x HX.out]
        exact ⟨rfl, HC.out.set 5 _ _ rfl hn1⟩
  | false =>
    cases Q with
    | ok t n =>
      obtain ⟨rfl, hC⟩ : QRead W w0 lb fb s { x with kind := ⟨#[60, 115, 116, 114, 105, 110, 103, 62]⟩ } (.ok t n) e w2 := hq
      have hn := hql t n rfl
      have hn1 : x.pos + n ≤ s.size := by omega
      have HC := Lib.hid hC; clear hC
      have k5 := (HC.out.lex.cell 5).1; have f5 := (HC.out.lex.cell 5).2
      simp only [LexSt.cells, List.getElem?_toArray, List.getElem?_cons_succ, List.getElem?_cons_zero] at k5
      go_wp2_with fail
      go_end0
      rw [HOKR.out t n rfl]
      show Did _ _ _ _ _ _ _ _ _
      rw [took_text x HX.out]
      exact ⟨rfl, HC.out.set 5 _ _ rfl hn1⟩
    | err p q =>
      obtain ⟨EB, rfl, hE⟩ : Fault W w0 lb fb (x.pos + p) e w2 := hq
      have HE := Lib.hid hE; clear hE
      go_wp2_with fail
      refine ⟨rfl, ?_⟩
      rw [HERR.out p q rfl]
      exact ⟨EB, rfl, HE.out⟩
theorem litString {W w0 w : World} {lb fb : Nat} {s : ByteArray} {x : LexSt} {r : List UInt8} (h : Cur W w0 lb fb s x w) (np : Bool) (hm : Mode np s) (hx : x.text = ⟨#[]⟩ ∧ x.base = 0) (hr : s.data.toList.drop x.pos = r) (hl : 0 < r.length) (hc : byteAt r 0 = 34 ∨ byteAt r 0 = 39) (hg : np = false → (qtok (delim r 0) false true false kString 0 r).good r.length) :
    Calls Tryz.prog 75 #[.pointer (some ⟨lb, 0, none⟩), .bool np] w (ReadN W w0 lb fb s x np (qtok (delim r 0) false true false kString 0 r)) := by
  have hpos := h.pos
  have hsz := h.sz
  have hrl : r.length = s.size - x.pos := by rw [← hr]; exact h.len
  have HD : Hid (∀ w1, Cur W w0 lb fb s { x with kind := ⟨#[60, 115, 116, 114, 105, 110, 103, 62]⟩ } w1 → Calls Tryz.prog 90 #[.pointer (some ⟨lb, 0, none⟩)] w1 fun e w' => e = .returned (.string ⟨(delim r 0).toArray⟩) ∧ Below w1.heap.size w1 w') := Lib.hid (fun w1 h1 => by
    have := peekDelim_any lb fb x.pos s w1 h1.lex.rd (by omega) (by omega) (by rw [← hr, byteAt_drop] at hc; exact hc)
    rw [delim_drop s.data.toList x.pos, hr] at this; exact this)
  have hdl := delim_len r
  have hdn := delim_le r hl
  have HQ : Hid (∀ w1, Cur W w0 lb fb s { x with kind := ⟨#[60, 115, 116, 114, 105, 110, 103, 62]⟩ } w1 → ∀ name : ByteArray, (name.toList == [105, 100, 101, 110, 116, 105, 102, 105, 101, 114]) = false → name.size ≤ 1000 → Calls Tryz.prog 71 #[.pointer (some ⟨lb, 0, none⟩), .string ⟨(delim r 0).toArray⟩, .bool false, .bool true, .string name, .bool np] w1 (QReadN W w0 lb fb s { x with kind := ⟨#[60, 115, 116, 114, 105, 110, 103, 62]⟩ } np (qrun (delim r 0) false true false r (delim r 0).length []))) := Lib.hid (fun w1 h1 name hn hn3 => by
    have hsz2 : (⟨(delim r 0).toArray⟩ : ByteArray).size = (delim r 0).length := by show (delim r 0).toArray.size = _; simp
    have := quotedN_any h1 np hm ⟨(delim r 0).toArray⟩ false true name false (by rw [hsz2]; exact hdl) (by rw [hsz2]; show _ ≤ s.size - x.pos; omega) hn (fun hh => by cases hh) hn3 (fun hnp => by
      have h2 := hg hnp
      rw [hsz2]
      show (qrun (delim r 0) false true false (s.data.toList.drop x.pos) (delim r 0).length []).good (s.size - x.pos)
      rw [hr, ← hrl]
      unfold qtok at h2
      rw [List.drop_zero] at h2
      cases hq : qrun (delim r 0) false true false r (delim r 0).length [] with
      | ok t n => rw [hq] at h2; have h2 : 0 + n ≤ r.length := h2; show n ≤ r.length; omega
      | err p e => rw [hq] at h2; have h2 : 0 + p ≤ 0 + e ∧ 0 + e ≤ r.length := h2; show p ≤ e ∧ e ≤ r.length; omega)
    rw [hsz2] at this
    have h3 : QReadN W w0 lb fb s { x with kind := ⟨#[60, 115, 116, 114, 105, 110, 103, 62]⟩ } np (qrun (delim r 0) false true false (s.data.toList.drop x.pos) (delim r 0).length []) = QReadN W w0 lb fb s { x with kind := ⟨#[60, 115, 116, 114, 105, 110, 103, 62]⟩ } np (qrun (delim r 0) false true false r (delim r 0).length []) := by rw [hr]
    rw [← h3]; exact this)
  have hql := fun t n => qrun_len (delim r 0) false true false r r.length (delim r 0).length [] t n (by omega)
  have hok : ∀ t n, qrun (delim r 0) false true false r (delim r 0).length [] = .ok t n → qtok (delim r 0) false true false kString 0 r = .ok ⟨kString, t, 0, n, none⟩ := by
    intro t n hh
    unfold qtok
    rw [List.drop_zero, hh]
    show Rs.ok ⟨kString, t, 0, 0 + n, none⟩ = _
    rw [Nat.zero_add]
  have herr : ∀ p e, qrun (delim r 0) false true false r (delim r 0).length [] = .err p e → qtok (delim r 0) false true false kString 0 r = .err p e := by
    intro p e hh
    unfold qtok
    rw [List.drop_zero, hh]
    show Rs.err (0 + p) (0 + e) = _
    rw [Nat.zero_add, Nat.zero_add]
  generalize qtok (delim r 0) false true false kString 0 r = RS at *
  generalize qrun (delim r 0) false true false r (delim r 0).length [] = Q at *
  have HOKR := Lib.hid hok; have HERR := Lib.hid herr
  clear hok herr
  generalize (⟨(delim r 0).toArray⟩ : ByteArray) = D at *
  have k1 := (h.lex.cell 1).1; have f1 := (h.lex.cell 1).2
  simp only [LexSt.cells, List.getElem?_toArray, List.getElem?_cons_succ, List.getElem?_cons_zero] at k1
  have HC := Lib.hid h; have HX := Lib.hid hx; have HG := Lib.hid hg
  clear h hx hr hg hm
  go_enter Tryz.func75, Tryz.ntmps75
  go_wp2_with fail
  have hC1 : Cur W w0 lb fb s { x with kind := ⟨#[60, 115, 116, 114, 105, 110, 103, 62]⟩ } (w.setCell ⟨lb, 1, none⟩ (.string ⟨#[60, 115, 116, 114, 105, 110, 103, 62]⟩)) := HC.out.set 1 _ _ rfl hpos
  clear HC k1 f1
  have HC := Lib.hid hC1; clear hC1
  refine (HD.out _ HC.out).mono ?_
  rintro e w1 ⟨rfl, hb⟩
  have HC1 := Lib.hid (HC.out.keep hb)
  clear HC hb
  go_wp2_with fail
  refine (HQ.out _ HC1.out _ (by rw [Lib.toList_data]; rfl) (by decide)).mono ?_
  intro e w2 hq
  have hq : QReadN W w0 lb fb s { x with kind := ⟨#[60, 115, 116, 114, 105, 110, 103, 62]⟩ } np Q e w2 := hq
  cases np with
  | true =>
    obtain ⟨b, t, n, rfl, hC, hn0, hn1, hn2⟩ := hq
    have HC := Lib.hid hC; clear hC
    have k5 := (HC.out.lex.cell 5).1; have f5 := (HC.out.lex.cell 5).2
    simp only [LexSt.cells, List.getElem?_toArray, List.getElem?_cons_succ, List.getElem?_cons_zero] at k5
    have HN := Lib.hid hn2; clear hn2
    cases b with
    | true =>
      have hC5 := HC.out.set 5 (.string ⟨t.toArray⟩) { x with kind := ⟨#[60, 115, 116, 114, 105, 110, 103, 62]⟩, pos := x.pos + n, text := ⟨t.toArray⟩ } rfl hn1
      have k1 := (hC5.lex.cell 1).1; have f1 := (hC5.lex.cell 1).2
      simp only [LexSt.cells, List.getElem?_toArray, List.getElem?_cons_succ, List.getElem?_cons_zero] at k1
      have HC5 := Lib.hid hC5; clear hC5
      go_wp2_with fail
      go_end0
      refine ⟨⟨kBad, t, 0, n, none⟩, ?_, hn1, fun _ => hn0, ?_⟩
      · intro t' ht
        cases Q with
        | ok t2 n2 => have := (HN.out t2 n2 rfl).1; cases this
        | err p e => rw [HERR.out p e rfl] at ht; cases ht
      · rw [took_text x HX.out]
        exact ⟨rfl, HC5.out.set 1 _ _ rfl hn1⟩
    | false =>
      go_wp2_with fail
      go_end0
      refine ⟨⟨kString, t, 0, n, none⟩, ?_, hn1, fun _ => hn0, ?_⟩
      · intro t' ht
        cases Q with
        | ok t2 n2 =>
          obtain ⟨_, h2, h3⟩ := HN.out t2 n2 rfl
          rw [HOKR.out t2 n2 rfl] at ht
          cases ht
          rw [h2, h3]
        | err p e => rw [HERR.out p e rfl] at ht; cases ht
      · rw [took_text x HX.out]
        exact ⟨rfl, HC.out.set 5 _ _ rfl hn1⟩
  | false =>
    cases Q with
    | ok t n =>
      obtain ⟨rfl, hC⟩ : QRead W w0 lb fb s { x with kind := ⟨#[60, 115, 116, 114, 105, 110, 103, 62]⟩ } (.ok t n) e w2 := hq
      have hn := hql t n rfl
      have hn1 : x.pos + n ≤ s.size := by omega
      have HC := Lib.hid hC; clear hC
      have k5 := (HC.out.lex.cell 5).1; have f5 := (HC.out.lex.cell 5).2
      simp only [LexSt.cells, List.getElem?_toArray, List.getElem?_cons_succ, List.getElem?_cons_zero] at k5
      go_wp2_with fail
      go_end0
      rw [HOKR.out t n rfl]
      show Did _ _ _ _ _ _ _ _ _
      rw [took_text x HX.out]
      exact ⟨rfl, HC.out.set 5 _ _ rfl hn1⟩
    | err p q =>
      obtain ⟨EB, rfl, hE⟩ : Fault W w0 lb fb (x.pos + p) e w2 := hq
      have HE := Lib.hid hE; clear hE
      go_wp2_with fail
      refine ⟨rfl, ?_⟩
      rw [HERR.out p q rfl]
      exact ⟨EB, rfl, HE.out⟩
end Go.Proofs.YtcelnnjjakiehaaGreatDoor
