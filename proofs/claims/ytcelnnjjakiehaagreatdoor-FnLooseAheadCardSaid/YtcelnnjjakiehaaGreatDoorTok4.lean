/-
  The last part of consumeToken: names, and bytes that begin no token.
-/
import Derived.Test.YtcelnnjjakiehaaGreatDoorTokF
import Derived.Test.YtcelnnjjakiehaaGreatDoorQuoN
import Derived.Test.YtcelnnjjakiehaaGreatDoorLit
namespace Go.Proofs.YtcelnnjjakiehaaGreatDoor
open Go.RowKit
set_option linter.unusedVariables false
set_option maxRecDepth 1000000
set_option maxHeartbeats 16000000

theorem tk_word {W w0 w : World} {lb fb : Nat} {s : ByteArray} {x : LexSt} {r : List UInt8} {np : Bool} (h : Cur W w0 lb fb s x w) (hx : x.text = ⟨#[]⟩ ∧ x.base = 0) (hr : s.data.toList.drop x.pos = r) (hl : 0 < r.length) (RS : Rs) (hRS : RS = wordTok r) (hst : idStart (byteAt r 0) = true) (l : List Value) (hll : l.length = 464) (h0 : l.getD 0 undef = .pointer (some ⟨lb, 0, none⟩)) (h1 : l.getD 1 undef = .bool np) :
    Code.wp Tryz.prog ttail (bodyPost Tryz.prog Tryz.f52 (ReadN W w0 lb fb s x np RS)) ⟨l.toArray, []⟩ w := by
  rw [TF.of l hll h0 h1]
  generalize (fun k => l.getD k undef) = t
  clear hll h0 h1
  have hpos := h.pos
  have hsz := h.sz
  have hrl : r.length = s.size - x.pos := by rw [← hr]; exact h.len
  have HE : Hid (∀ w1, Cur W w0 lb fb s x w1 → Calls Tryz.prog 57 #[.pointer (some ⟨lb, 0, none⟩)] w1 (Did W w0 lb fb s (.bool false) x)) := Lib.hid (fun w1 h1 => by have := eofR h1; rw [show decide (s.size ≤ x.pos) = false from by simp; omega] at this; exact this)
  have HPK : Hid (∀ w1, Cur W w0 lb fb s x w1 → Calls Tryz.prog 65 #[.pointer (some ⟨lb, 0, none⟩), .int .i64 0] w1 (Did W w0 lb fb s (.int .u8 (byteAt r 0)) x)) := Lib.hid (fun w1 h1 => by have := peekR h1 0 0 rfl (by rw [hr]; exact hl); rw [hr] at this; exact this)
  have HSK : Hid (∀ w1, Cur W w0 lb fb s x w1 → Calls Tryz.prog 66 #[.pointer (some ⟨lb, 0, none⟩)] w1 (Did W w0 lb fb s (.int .u8 (byteAt r 0)) { x with pos := x.pos + 1 })) := Lib.hid (fun w1 h1 => by have := skipR h1 (by omega); rw [← hr, byteAt_drop]; exact this)
  have HIS : Hid (∀ w1, Cur W w0 lb fb s x w1 → ∀ c : Int, Calls Tryz.prog 61 #[.pointer (some ⟨lb, 0, none⟩), .int .i64 1, .int .u8 c] w1 (Did W w0 lb fb s (.bool (isAt r 1 c)) x)) := Lib.hid (fun w1 h1 c => by have := peekIsR h1 1 1 c rfl (by omega); rw [hr] at this; exact this)
  have HS2 : Hid (2 ≤ r.length → ∀ w1, Cur W w0 lb fb s x w1 → Calls Tryz.prog 60 #[.pointer (some ⟨lb, 0, none⟩), .int .i64 2] w1 (Did W w0 lb fb s (.tuple #[]) { x with pos := x.pos + 2 })) := Lib.hid (fun h2 w1 h1 => skipNR h1 2 2 rfl (by omega))
  have HST : Hid (∀ w1, Calls Tryz.prog 70 #[.int .u8 (byteAt r 0)] w1 fun e w' => e = .returned (.bool (idStart (byteAt r 0))) ∧ w1 = w') := Lib.hid (fun w1 => isIdentStart_any _ w1)
  have HOK : Hid (∀ w1, Cur W w0 lb fb s x w1 → ∀ (k : Nat), k ≤ r.length → Calls Tryz.prog 63 #[.pointer (some ⟨lb, 0, none⟩), .int .i64 (k : Int)] w1 (Did W w0 lb fb s (.bool (decide (k < r.length))) x)) := Lib.hid (fun w1 h1 k hk => by have := peekOkR h1 k k rfl (by omega); rw [hr] at this; exact this)
  have HPKI : Hid (∀ w1, Cur W w0 lb fb s x w1 → ∀ (k : Nat), k < r.length → Calls Tryz.prog 65 #[.pointer (some ⟨lb, 0, none⟩), .int .i64 (k : Int)] w1 (Did W w0 lb fb s (.int .u8 (byteAt r k)) x)) := Lib.hid (fun w1 h1 k hk => by have := peekR h1 k k rfl (by rw [hr]; exact hk); rw [hr] at this; exact this)
  have hn0 := wordLen_pos r hl hst
  have hn1 := wordLen_le r
  rw [hst] at HST
  have HIN : Hid (∀ i, 0 ≤ i → i < wordLen r → idPart (byteAt r i) = true) := Lib.hid (fun i _ h1 => (wordLen_in r i h1).2)
  have HOUT : Hid (wordLen r < r.length → idPart (byteAt r (wordLen r)) = false) := Lib.hid (wordLen_at r)
  have htk : r.take (wordLen r) = sub r 0 (wordLen r) := by unfold sub; simp
  have HSLI : Hid (∀ w1, Cur W w0 lb fb s x w1 → Calls Tryz.prog 76 #[.pointer (some ⟨lb, 0, none⟩), .int .i64 0, .int .i64 (wordLen r : Int)] w1 (Did W w0 lb fb s (.string ⟨(r.take (wordLen r)).toArray⟩) x)) := Lib.hid (fun w1 h1 => by have := sliceR h1 0 (wordLen r) 0 (wordLen r) rfl rfl (by omega) (by omega) (by omega); rw [hr, ← htk] at this; exact this)
  have HSKN : Hid (∀ w1, Cur W w0 lb fb s x w1 → Calls Tryz.prog 60 #[.pointer (some ⟨lb, 0, none⟩), .int .i64 (wordLen r : Int)] w1 (Did W w0 lb fb s (.tuple #[]) { x with pos := x.pos + wordLen r })) := Lib.hid (fun w1 h1 => skipNR h1 (wordLen r) _ rfl (by omega))
  have HUP : Hid (∀ w1, Calls Tryz.prog 47 #[.string ⟨(r.take (wordLen r)).toArray⟩] w1 fun e w' => e = .returned (.string ⟨(upL (r.take (wordLen r))).toArray⟩) ∧ Below w1.heap.size w1 w') := Lib.hid (fun w1 => charUpper_any ⟨(r.take (wordLen r)).toArray⟩ w1 (by show (r.take (wordLen r)).toArray.size ≤ _; rw [List.size_toArray, List.length_take]; omega))
  have HKW : Hid (∀ w1, Calls Tryz.prog 46 #[.string ⟨(upL (r.take (wordLen r))).toArray⟩] w1 fun e w' => e = .returned (.bool (kw (upL (r.take (wordLen r))))) ∧ w1 = w') := Lib.hid (fun w1 => kw_any ⟨(upL (r.take (wordLen r))).toArray⟩ w1)
  have HRS : Hid (RS = if kw (upL (r.take (wordLen r))) = true then .ok ⟨upL (r.take (wordLen r)), [], 0, wordLen r, none⟩ else .ok ⟨kIdent, r.take (wordLen r), 0, wordLen r, none⟩) := Lib.hid hRS
  clear hRS hst htk
  generalize kw (upL (r.take (wordLen r))) = kb at *
  generalize upL (r.take (wordLen r)) = U at *
  generalize r.take (wordLen r) = V at *
  generalize wordLen r = n at *
  have HC := Lib.hid h; have HX := Lib.hid hx
  clear h hx hr
  unfold TF
  conv => arg 2; whnf
  go_wp2_with fail
  refine (HPK.out _ HC.out).mono ?_
  rintro e w1 ⟨rfl, hC1⟩
  clear HC; have HC := Lib.hid hC1; clear hC1
  go_wp2_with fail
  refine (HST.out _).mono ?_
  rintro e w2 ⟨rfl, rfl⟩
  go_wp2_with fail
  refine wp_loop_ghost_k (fun g a wx => ∃ (t : Nat → Value) (i : Nat), a = TF10 t lb np i ∧ g = r.length - i ∧ 0 ≤ i ∧ i ≤ n ∧ Cur W w0 lb fb s x wx) (r.length - 0) ⟨_, 0, TF10.of _ rfl rfl rfl rfl, rfl, Nat.le_refl _, by omega, HC.out⟩ ?_
  rintro g a wx ⟨t2, i, rfl, rfl, hi0, hi1, hC⟩ J K hJ hK
  clear HC
  have HC := Lib.hid hC; have HJ := Lib.hid hJ
  clear hC hJ
  unfold TF10
  by_cases hlt : i < r.length
  · have hok := HOK.out
    have HOK1 : Hid (∀ w1, Cur W w0 lb fb s x w1 → Calls Tryz.prog 63 #[.pointer (some ⟨lb, 0, none⟩), .int .i64 (i : Int)] w1 (Did W w0 lb fb s (.bool true) x)) := Lib.hid (fun w1 h1 => by have := hok w1 h1 i (by omega); rw [show decide (i < r.length) = true from by simpa using hlt] at this; exact this)
    clear hok
    have HPI1 : Hid (∀ w1, Cur W w0 lb fb s x w1 → Calls Tryz.prog 65 #[.pointer (some ⟨lb, 0, none⟩), .int .i64 (i : Int)] w1 (Did W w0 lb fb s (.int .u8 (byteAt r i)) x)) := Lib.hid (fun w1 h1 => HPKI.out w1 h1 i hlt)
    by_cases hin : i < n
    · have hid := HIN.out i hi0 hin
      have HID : Hid (∀ w1, Calls Tryz.prog 64 #[.int .u8 (byteAt r i)] w1 fun e w' => e = .returned (.bool true) ∧ w1 = w') := Lib.hid (fun w1 => by have := isIdentPart_any (byteAt r i) w1; rw [hid] at this; exact this)
      clear hid
      generalize byteAt r i = ci at *
      go_wp2_with fail
      refine (HOK1.out _ HC.out).mono ?_
      rintro e w1 ⟨rfl, hC1⟩
      clear HC; have HC := Lib.hid hC1; clear hC1
      go_wp2_with fail
      refine (HPI1.out _ HC.out).mono ?_
      rintro e w1 ⟨rfl, hC1⟩
      clear HC; have HC := Lib.hid hC1; clear hC1
      go_wp2_with fail
      refine (HID.out _).mono ?_
      rintro e w2 ⟨rfl, rfl⟩
      go_wp2_with fail
      refine Handed.intro (r.length - (i + 1)) (by omega) ?_
      exact HJ.out _ _ _ ⟨_, i + 1, TF10.of _ rfl rfl rfl rfl, rfl, by omega, by omega, HC.out⟩
    · obtain rfl : n = i := by omega
      have hid := HOUT.out hlt
      have HID : Hid (∀ w1, Calls Tryz.prog 64 #[.int .u8 (byteAt r (n))] w1 fun e w' => e = .returned (.bool false) ∧ w1 = w') := Lib.hid (fun w1 => by have := isIdentPart_any (byteAt r (n)) w1; rw [hid] at this; exact this)
      clear hid HIN HOUT
      generalize byteAt r (n) = ci at *
      go_wp2_with fail
      refine (HOK1.out _ HC.out).mono ?_
      rintro e w1 ⟨rfl, hC1⟩
      clear HC; have HC := Lib.hid hC1; clear hC1
      go_wp2_with fail
      refine (HPI1.out _ HC.out).mono ?_
      rintro e w1 ⟨rfl, hC1⟩
      clear HC; have HC := Lib.hid hC1; clear hC1
      go_wp2_with fail
      refine (HID.out _).mono ?_
      rintro e w2 ⟨rfl, rfl⟩
      go_wp2_with fail
      refine (HSLI.out _ HC.out).mono ?_
      rintro e w1 ⟨rfl, hC1⟩
      clear HC; have HC := Lib.hid hC1; clear hC1
      go_wp2_with fail
      refine (HSKN.out _ HC.out).mono ?_
      rintro e w1 ⟨rfl, hC1⟩
      clear HC; have HC := Lib.hid hC1; clear hC1
      go_wp2_with fail
      refine (HUP.out _).mono ?_
      rintro e w3 ⟨rfl, hb⟩
      have HC3 := Lib.hid (HC.out.keep hb)
      clear HC hb
      have HC := HC3; clear HC3
      go_wp2_with fail
      refine (HKW.out _).mono ?_
      rintro e w4 ⟨rfl, rfl⟩
      have k1 := (HC.out.lex.cell 1).1; have f1 := (HC.out.lex.cell 1).2
      have k5 := (HC.out.lex.cell 5).1; have f5 := (HC.out.lex.cell 5).2
      simp only [LexSt.cells, List.getElem?_toArray, List.getElem?_cons_succ, List.getElem?_cons_zero] at k1 k5
      cases hkb : kb with
      | true =>
        have hrs := HRS.out
        rw [hkb, if_pos rfl] at hrs
        subst hkb
        have HRS2 := Lib.hid hrs; clear hrs HRS
        go_wp2_with fail
        go_end0
        rw [HRS2.out]
        refine ReadN.of_ok (by show x.pos + n ≤ s.size; omega) (fun _ => hn0) ?_
        rw [took_sym x HX.out]
        exact ⟨rfl, HC.out.set 1 _ _ rfl (by show x.pos + n ≤ s.size; omega)⟩
      | false =>
        have hrs := HRS.out
        rw [hkb, if_neg (by decide)] at hrs
        subst hkb
        have HRS2 := Lib.hid hrs; clear hrs HRS
        go_wp2_with fail
        go_end0
        rw [HRS2.out]
        refine ReadN.of_ok (by show x.pos + n ≤ s.size; omega) (fun _ => hn0) ?_
        rw [took_text x HX.out]
        exact ⟨rfl, (HC.out.set 1 (.string ⟨kIdent.toArray⟩) { x with kind := ⟨kIdent.toArray⟩, pos := x.pos + n } rfl (by show x.pos + n ≤ s.size; omega)).set 5 _ _ rfl (by show x.pos + n ≤ s.size; omega)⟩
  · obtain rfl : n = i := by omega
    have hok := HOK.out
    have HOK1 : Hid (∀ w1, Cur W w0 lb fb s x w1 → Calls Tryz.prog 63 #[.pointer (some ⟨lb, 0, none⟩), .int .i64 ((n : Nat) : Int)] w1 (Did W w0 lb fb s (.bool false) x)) := Lib.hid (fun w1 h1 => by have := hok w1 h1 (n) (by omega); rw [show decide ((n) < r.length) = false from by simpa using hlt] at this; exact this)
    clear hok HIN HOUT
    go_wp2_with fail
    refine (HOK1.out _ HC.out).mono ?_
    rintro e w1 ⟨rfl, hC1⟩
    clear HC; have HC := Lib.hid hC1; clear hC1
    go_wp2_with fail
    refine (HSLI.out _ HC.out).mono ?_
    rintro e w1 ⟨rfl, hC1⟩
    clear HC; have HC := Lib.hid hC1; clear hC1
    go_wp2_with fail
    refine (HSKN.out _ HC.out).mono ?_
    rintro e w1 ⟨rfl, hC1⟩
    clear HC; have HC := Lib.hid hC1; clear hC1
    go_wp2_with fail
    refine (HUP.out _).mono ?_
    rintro e w3 ⟨rfl, hb⟩
    have HC3 := Lib.hid (HC.out.keep hb)
    clear HC hb
    have HC := HC3; clear HC3
    go_wp2_with fail
    refine (HKW.out _).mono ?_
    rintro e w4 ⟨rfl, rfl⟩
    have k1 := (HC.out.lex.cell 1).1; have f1 := (HC.out.lex.cell 1).2
    have k5 := (HC.out.lex.cell 5).1; have f5 := (HC.out.lex.cell 5).2
    simp only [LexSt.cells, List.getElem?_toArray, List.getElem?_cons_succ, List.getElem?_cons_zero] at k1 k5
    cases hkb : kb with
    | true =>
      have hrs := HRS.out
      rw [hkb, if_pos rfl] at hrs
      subst hkb
      have HRS2 := Lib.hid hrs; clear hrs HRS
      go_wp2_with fail
      go_end0
      rw [HRS2.out]
      refine ReadN.of_ok (by show x.pos + n ≤ s.size; omega) (fun _ => hn0) ?_
      rw [took_sym x HX.out]
      exact ⟨rfl, HC.out.set 1 _ _ rfl (by show x.pos + n ≤ s.size; omega)⟩
    | false =>
      have hrs := HRS.out
      rw [hkb, if_neg (by decide)] at hrs
      subst hkb
      have HRS2 := Lib.hid hrs; clear hrs HRS
      go_wp2_with fail
      go_end0
      rw [HRS2.out]
      refine ReadN.of_ok (by show x.pos + n ≤ s.size; omega) (fun _ => hn0) ?_
      rw [took_text x HX.out]
      exact ⟨rfl, (HC.out.set 1 (.string ⟨kIdent.toArray⟩) { x with kind := ⟨kIdent.toArray⟩, pos := x.pos + n } rfl (by show x.pos + n ≤ s.size; omega)).set 5 _ _ rfl (by show x.pos + n ≤ s.size; omega)⟩
theorem tk_bad {W w0 w : World} {lb fb : Nat} {s : ByteArray} {x : LexSt} {r : List UInt8} {np : Bool} (h : Cur W w0 lb fb s x w) (hx : x.text = ⟨#[]⟩ ∧ x.base = 0) (hr : s.data.toList.drop x.pos = r) (hl : 0 < r.length) (RS : Rs) (hRS : RS = .err 0 0) (hst : idStart (byteAt r 0) = false) (l : List Value) (hll : l.length = 464) (h0 : l.getD 0 undef = .pointer (some ⟨lb, 0, none⟩)) (h1 : l.getD 1 undef = .bool np) :
    Code.wp Tryz.prog ttail (bodyPost Tryz.prog Tryz.f52 (ReadN W w0 lb fb s x np RS)) ⟨l.toArray, []⟩ w := by
  rw [TF.of l hll h0 h1]
  generalize (fun k => l.getD k undef) = t
  clear hll h0 h1
  have hpos := h.pos
  have hsz := h.sz
  have hrl : r.length = s.size - x.pos := by rw [← hr]; exact h.len
  have HE : Hid (∀ w1, Cur W w0 lb fb s x w1 → Calls Tryz.prog 57 #[.pointer (some ⟨lb, 0, none⟩)] w1 (Did W w0 lb fb s (.bool false) x)) := Lib.hid (fun w1 h1 => by have := eofR h1; rw [show decide (s.size ≤ x.pos) = false from by simp; omega] at this; exact this)
  have HPK : Hid (∀ w1, Cur W w0 lb fb s x w1 → Calls Tryz.prog 65 #[.pointer (some ⟨lb, 0, none⟩), .int .i64 0] w1 (Did W w0 lb fb s (.int .u8 (byteAt r 0)) x)) := Lib.hid (fun w1 h1 => by have := peekR h1 0 0 rfl (by rw [hr]; exact hl); rw [hr] at this; exact this)
  have HSK : Hid (∀ w1, Cur W w0 lb fb s x w1 → Calls Tryz.prog 66 #[.pointer (some ⟨lb, 0, none⟩)] w1 (Did W w0 lb fb s (.int .u8 (byteAt r 0)) { x with pos := x.pos + 1 })) := Lib.hid (fun w1 h1 => by have := skipR h1 (by omega); rw [← hr, byteAt_drop]; exact this)
  have HIS : Hid (∀ w1, Cur W w0 lb fb s x w1 → ∀ c : Int, Calls Tryz.prog 61 #[.pointer (some ⟨lb, 0, none⟩), .int .i64 1, .int .u8 c] w1 (Did W w0 lb fb s (.bool (isAt r 1 c)) x)) := Lib.hid (fun w1 h1 c => by have := peekIsR h1 1 1 c rfl (by omega); rw [hr] at this; exact this)
  have HS2 : Hid (2 ≤ r.length → ∀ w1, Cur W w0 lb fb s x w1 → Calls Tryz.prog 60 #[.pointer (some ⟨lb, 0, none⟩), .int .i64 2] w1 (Did W w0 lb fb s (.tuple #[]) { x with pos := x.pos + 2 })) := Lib.hid (fun h2 w1 h1 => skipNR h1 2 2 rfl (by omega))
  have HST : Hid (∀ w1, Calls Tryz.prog 70 #[.int .u8 (byteAt r 0)] w1 fun e w' => e = .returned (.bool (idStart (byteAt r 0))) ∧ w1 = w') := Lib.hid (fun w1 => isIdentStart_any _ w1)
  rw [hst] at HST
  subst hRS
  have HE2 : Hid (∀ w1, Cur W w0 lb fb s x w1 → ∀ msg, Calls Tryz.prog 77 #[.pointer (some ⟨lb, 0, none⟩), .string msg] w1 fun e w' => ∃ EB, e = .returned (.pointer (some ⟨EB, 0, none⟩)) ∧ ErrAt W w0 lb fb w' EB x.pos) := Lib.hid (fun w1 h1 msg => errorf_any h1 msg)
  clear hst
  have HC := Lib.hid h; have HX := Lib.hid hx
  clear h hx hr
  unfold TF
  conv => arg 2; whnf
  cases np with
  | true =>
    go_wp2_with fail
    refine (HPK.out _ HC.out).mono ?_
    rintro e w1 ⟨rfl, hC1⟩
    clear HC; have HC := Lib.hid hC1; clear hC1
    go_wp2_with fail
    refine (HST.out _).mono ?_
    rintro e w2 ⟨rfl, rfl⟩
    go_wp2_with fail
    refine (HSK.out _ HC.out).mono ?_
    rintro e w1 ⟨rfl, hC1⟩
    clear HC; have HC := Lib.hid hC1; clear hC1
    have k1 := (HC.out.lex.cell 1).1; have f1 := (HC.out.lex.cell 1).2
    simp only [LexSt.cells, List.getElem?_toArray, List.getElem?_cons_succ, List.getElem?_cons_zero] at k1
    go_wp2_with fail
    go_end0
    refine ⟨⟨kBad, [], 0, 1, none⟩, (fun t' ht => by cases ht), (by show x.pos + 1 ≤ s.size; omega), (fun _ => by show 0 < 1; omega), ?_⟩
    rw [took_sym x HX.out]
    exact ⟨rfl, HC.out.set 1 _ _ rfl (by show x.pos + 1 ≤ s.size; omega)⟩
  | false =>
    go_wp2_with fail
    refine (HPK.out _ HC.out).mono ?_
    rintro e w1 ⟨rfl, hC1⟩
    clear HC; have HC := Lib.hid hC1; clear hC1
    go_wp2_with fail
    refine (HST.out _).mono ?_
    rintro e w2 ⟨rfl, rfl⟩
    go_wp2_with fail
    refine (HE2.out _ HC.out _).mono ?_
    rintro e w3 ⟨EB, rfl, hE⟩
    have HE3 := Lib.hid hE; clear hE
    go_wp2_with fail
    exact ⟨rfl, EB, rfl, HE3.out⟩
end Go.Proofs.YtcelnnjjakiehaaGreatDoor
