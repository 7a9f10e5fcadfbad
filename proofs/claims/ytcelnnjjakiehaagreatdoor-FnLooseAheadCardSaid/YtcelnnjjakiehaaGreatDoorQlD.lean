/-
  Rounds of consumeQuotedContent: its end.
  Rounds of consumeQuotedContent: its faults.
  Rounds of consumeQuotedContent: escapes as they stand.
  Rounds of consumeQuotedContent: no escape.
-/
import Derived.Test.YtcelnnjjakiehaaGreatDoorQlC1
import Derived.StillTailTactics
namespace Go.Proofs.YtcelnnjjakiehaaGreatDoor
open Go.RowKit
set_option linter.unusedVariables false
set_option maxRecDepth 1000000
set_option maxHeartbeats 16000000

theorem q_close {W w0 wx : World} {lb fb B i : Nat} {s q nm : ByteArray} {x : LexSt} {raw uni np he ident : Bool} {v : Value} {acc : List UInt8} {R : QR} {r : List UInt8} (t : Nat → Value) (hr : s.data.toList.drop x.pos = r) (hq : q.size = 1 ∨ q.size = 3) (hnm : (nm.toList == [105, 100, 101, 110, 116, 105, 102, 105, 101, 114]) = ident) (hi : i < r.length) (hacc : acc.length ≤ 4 * i)
    (hQ : QAt W w0 lb fb s x B v acc wx) (hrun : Link np he (qrun q.data.toList raw uni ident r i acc) R) (hgood : np = false → R.good r.length) (hcalm : np = true → calm r) (hc : q.data.toList.isPrefixOf (r.drop i) = true) (hid : ident = false ∨ acc ≠ []) {Kx : Act → World → Prop} {Post : Ending → World → Prop} (hPost : ∀ e w', QReadN W w0 lb fb s x np R e w' → Post e w') (J : Nat → Act → World → Prop) (K : Act → World → Prop)
    (hJ : ∀ g a w, QInv W w0 lb fb s x B q raw uni nm np ident r R g a w → J g a w) (hK : ∀ a w, Handed J (r.length - i) a w → K a w) :
    Code.wp Tryz.prog qbody (Exit.then K (Exit.inBlock 0 (Exit.then Kx (bodyPost Tryz.prog Tryz.f71 Post)))) (QFrame t lb q raw uni nm np he i v) wx := by
  have hsz := hQ.cur.sz
  have hpos := hQ.cur.pos
  have hrl : r.length = s.size - x.pos := by rw [← hr]; exact hQ.cur.len
  have hPK : Hid (∀ (acc' : List UInt8) (v' : Value) (w1 : World), QAt W w0 lb fb s x B v' acc' w1 → ∀ (k : Nat) (j : Int), j = k → k < r.length → Calls Tryz.prog 65 #[.pointer (some ⟨lb, 0, none⟩), .int .i64 j] w1 fun e w' => e = .returned (.int .u8 (byteAt r k)) ∧ QAt W w0 lb fb s x B v' acc' w') := Lib.hid (fun acc' v' w1 h1 k j hj hk => by have := peekQ h1 k j hj (by rw [hr]; exact hk); rw [hr] at this; exact this)
  have hOK : Hid (∀ (acc' : List UInt8) (v' : Value) (w1 : World), QAt W w0 lb fb s x B v' acc' w1 → ∀ (k : Nat) (j : Int), j = k → k < r.length → Calls Tryz.prog 63 #[.pointer (some ⟨lb, 0, none⟩), .int .i64 j] w1 fun e w' => e = .returned (.bool true) ∧ QAt W w0 lb fb s x B v' acc' w') := Lib.hid (fun acc' v' w1 h1 k j hj hk => by have := peekOkQ h1 k j hj (by omega); rw [hr, show decide (k < r.length) = true from by simpa using hk] at this; exact this)
  have hSL : Hid (∀ (acc' : List UInt8) (v' : Value) (w1 : World), QAt W w0 lb fb s x B v' acc' w1 → ∀ (a b : Nat) (j k : Int), j = a → k = b → a ≤ b → b ≤ 2000000 → a ≤ r.length → Calls Tryz.prog 76 #[.pointer (some ⟨lb, 0, none⟩), .int .i64 j, .int .i64 k] w1 fun e w' => e = .returned (.string ⟨(sub r a b).toArray⟩) ∧ QAt W w0 lb fb s x B v' acc' w') := Lib.hid (fun acc' v' w1 h1 a b j k hj hk hab hb ha => by have := sliceQ h1 a b j k hj hk hab hb (by rw [hr]; exact ha); rw [hr] at this; exact this)
  rw [qrun_in _ _ _ _ _ _ _ hi] at hrun
  have hql : i + q.size ≤ r.length := by
    have := (List.isPrefixOf_iff_prefix.1 hc).length_le
    rw [ba_toList_length, List.length_drop] at this; omega
  have hst : qstep q.data.toList raw uni r i = .close := by unfold qstep; rw [if_pos hc]
  rw [hst] at hrun
  have hrun : Link np he (QR.ok acc (i + q.size)) R := by
    have e : (if ident = true ∧ acc = [] then QR.err 0 (i + q.data.toList.length) else QR.ok acc (i + q.data.toList.length)) = QR.ok acc (i + q.size) := by
      rw [ba_toList_length, if_neg (by rintro ⟨h1, h2⟩; rcases hid with h | h; rw [h1] at h; exact absurd h (by decide); exact h h2)]
    rw [← e]; exact hrun
  have hn0 : 0 < i + q.size := by omega
  have hn1 : x.pos + (i + q.size) ≤ s.size := by omega
  have hSK := fun w1 (h1 : QAt W w0 lb fb s x B v acc w1) => skipNQ h1 (i + q.size) ((i : Int) + (q.size : Int)) (by omega) (by omega)
  have hsub : ((⟨(sub r i (i + q.size)).toArray⟩ : ByteArray).toList == q.toList) = true := by rw [sub_pre]; exact hc
  have HSL2 : Hid (∀ w1, QAt W w0 lb fb s x B v acc w1 → Calls Tryz.prog 76 #[.pointer (some ⟨lb, 0, none⟩), .int .i64 (i : Int), .int .i64 ((i : Int) + (q.size : Int))] w1 fun e w' => e = .returned (.string ⟨(sub r i (i + q.size)).toArray⟩) ∧ QAt W w0 lb fb s x B v acc w') := Lib.hid (fun w1 h1 => hSL.out acc v w1 h1 i (i + q.size) _ _ rfl (by omega) (by omega) (by omega) (Nat.le_of_lt hi))
  generalize (⟨(sub r i (i + q.size)).toArray⟩ : ByteArray) = S at *
  obtain ⟨i0, hinf, hz0, hz1, hz2⟩ := info_parts info_u8q
  have HOK2 : Hid (∀ w1, QAt W w0 lb fb s x B v acc w1 → Calls Tryz.prog 63 #[.pointer (some ⟨lb, 0, none⟩), .int .i64 (i : Int)] w1 fun e w' => e = .returned (.bool true) ∧ QAt W w0 lb fb s x B v acc w') := Lib.hid (fun w1 h1 => hOK.out acc v w1 h1 i _ rfl hi)
  have HQ := Lib.hid hQ; have HPost := Lib.hid hPost; have HJ := Lib.hid hJ; have HNM := Lib.hid hnm; have HRr := Lib.hid hr
  have HSK := Lib.hid hSK; have HRUN := Lib.hid hrun
  clear hrun hQ hPost hgood hcalm hst hJ hr hnm hSK hOK hPK hSL hc
  have hown := HQ.out.own
  have hsh := hown.shape
  have hcv2 := fun (w1 : World) (h : Own w1 B 5 1 v acc.length (bv acc)) => run_string_Own (P := Tryz.prog) (w := w1) h 33 9 Tryz.underlying33 Tryz.underlying5 Tryz.underlying9
  have HCV := Lib.hid hcv2; clear hcv2 hown
  cases he with
  | false =>
    have HR := Lib.hid (HRUN.out.eq rfl)
    clear HRUN
    unfold QFrame
    conv => arg 2; whnf
    rcases hsh with ⟨rfl, hz, _⟩ | ⟨g, cap, rfl, _, _, _, _⟩
    · have hacc0 : acc = [] := List.eq_nil_of_length_eq_zero hz
      have hif : ident = false := hid.resolve_right (fun h => h hacc0)
      have hnmf : (nm.toList == [105, 100, 101, 110, 116, 105, 102, 105, 101, 114]) = false := by rw [HNM.out, hif]
      clear hid hif hz hacc0
      go_wp2_with fail
      refine (HOK2.out _ HQ.out).mono ?_
      rintro e w1 ⟨rfl, hQ1⟩
      clear HQ; have HQ := Lib.hid hQ1; clear hQ1
      go_wp2_with fail
      refine (HSL2.out _ HQ.out).mono ?_
      rintro e w1 ⟨rfl, hQ1⟩
      clear HQ; have HQ := Lib.hid hQ1; clear hQ1
      go_wp2_with fail
      refine (HSK.out _ HQ.out).mono ?_
      rintro e w1 ⟨rfl, hQ1⟩
      have HCV1 := HCV.out _ hQ1.own
      have HQ2 := Lib.hid hQ1; clear hQ1
      go_wp2_with fail
      exact HPost.out _ _ (by rw [← HR.out]; exact QReadN.ok rfl HQ2.out.cur hn0 hn1)
    · by_cases ha : acc = []
      · have hif : ident = false := hid.resolve_right (fun h => h ha)
        have hnmf : (nm.toList == [105, 100, 101, 110, 116, 105, 102, 105, 101, 114]) = false := by rw [HNM.out, hif]
        have hlz : ((acc.length : Int) == 0) = true := by rw [ha]; rfl
        clear hid hif ha
        go_wp2_with fail
        refine (HOK2.out _ HQ.out).mono ?_
        rintro e w1 ⟨rfl, hQ1⟩
        clear HQ; have HQ := Lib.hid hQ1; clear hQ1
        go_wp2_with fail
        refine (HSL2.out _ HQ.out).mono ?_
        rintro e w1 ⟨rfl, hQ1⟩
        clear HQ; have HQ := Lib.hid hQ1; clear hQ1
        go_wp2_with fail
        refine (HSK.out _ HQ.out).mono ?_
        rintro e w1 ⟨rfl, hQ1⟩
        have HCV1 := HCV.out _ hQ1.own
        have HQ2 := Lib.hid hQ1; clear hQ1
        go_wp2_with fail
        exact HPost.out _ _ (by rw [← HR.out]; exact QReadN.ok rfl HQ2.out.cur hn0 hn1)
      · have hlz : ((acc.length : Int) == 0) = false := by
          rw [beq_eq_false_iff_ne]
          intro e
          exact ha (List.eq_nil_of_length_eq_zero (by omega))
        clear hid ha
        go_wp2_with fail
        refine (HOK2.out _ HQ.out).mono ?_
        rintro e w1 ⟨rfl, hQ1⟩
        clear HQ; have HQ := Lib.hid hQ1; clear hQ1
        go_wp2_with fail
        refine (HSL2.out _ HQ.out).mono ?_
        rintro e w1 ⟨rfl, hQ1⟩
        clear HQ; have HQ := Lib.hid hQ1; clear hQ1
        go_wp2_with fail
        refine (HSK.out _ HQ.out).mono ?_
        rintro e w1 ⟨rfl, hQ1⟩
        have HCV1 := HCV.out _ hQ1.own
        have HQ2 := Lib.hid hQ1; clear hQ1
        go_wp2_with fail
        exact HPost.out _ _ (by rw [← HR.out]; exact QReadN.ok rfl HQ2.out.cur hn0 hn1)
  | true =>
    obtain ⟨hnp, hbad⟩ := HRUN.out.bad rfl
    subst hnp
    have HBAD := Lib.hid hbad
    clear HRUN hbad
    unfold QFrame
    conv => arg 2; whnf
    rcases hsh with ⟨rfl, hz, _⟩ | ⟨g, cap, rfl, _, _, _, _⟩
    · have hacc0 : acc = [] := List.eq_nil_of_length_eq_zero hz
      have hif : ident = false := hid.resolve_right (fun h => h hacc0)
      have hnmf : (nm.toList == [105, 100, 101, 110, 116, 105, 102, 105, 101, 114]) = false := by rw [HNM.out, hif]
      clear hid hif hz hacc0
      go_wp2_with fail
      refine (HOK2.out _ HQ.out).mono ?_
      rintro e w1 ⟨rfl, hQ1⟩
      clear HQ; have HQ := Lib.hid hQ1; clear hQ1
      go_wp2_with fail
      refine (HSL2.out _ HQ.out).mono ?_
      rintro e w1 ⟨rfl, hQ1⟩
      clear HQ; have HQ := Lib.hid hQ1; clear hQ1
      go_wp2_with fail
      refine (HSK.out _ HQ.out).mono ?_
      rintro e w1 ⟨rfl, hQ1⟩
      have HCV1 := HCV.out _ hQ1.own
      have HQ2 := Lib.hid hQ1; clear hQ1
      go_wp2_with fail
      exact HPost.out _ _ (QReadN.loose HBAD.out rfl HQ2.out.cur hn0 hn1)
    · by_cases ha : acc = []
      · have hif : ident = false := hid.resolve_right (fun h => h ha)
        have hnmf : (nm.toList == [105, 100, 101, 110, 116, 105, 102, 105, 101, 114]) = false := by rw [HNM.out, hif]
        have hlz : ((acc.length : Int) == 0) = true := by rw [ha]; rfl
        clear hid hif ha
        go_wp2_with fail
        refine (HOK2.out _ HQ.out).mono ?_
        rintro e w1 ⟨rfl, hQ1⟩
        clear HQ; have HQ := Lib.hid hQ1; clear hQ1
        go_wp2_with fail
        refine (HSL2.out _ HQ.out).mono ?_
        rintro e w1 ⟨rfl, hQ1⟩
        clear HQ; have HQ := Lib.hid hQ1; clear hQ1
        go_wp2_with fail
        refine (HSK.out _ HQ.out).mono ?_
        rintro e w1 ⟨rfl, hQ1⟩
        have HCV1 := HCV.out _ hQ1.own
        have HQ2 := Lib.hid hQ1; clear hQ1
        go_wp2_with fail
        exact HPost.out _ _ (QReadN.loose HBAD.out rfl HQ2.out.cur hn0 hn1)
      · have hlz : ((acc.length : Int) == 0) = false := by
          rw [beq_eq_false_iff_ne]
          intro e
          exact ha (List.eq_nil_of_length_eq_zero (by omega))
        clear hid ha
        go_wp2_with fail
        refine (HOK2.out _ HQ.out).mono ?_
        rintro e w1 ⟨rfl, hQ1⟩
        clear HQ; have HQ := Lib.hid hQ1; clear hQ1
        go_wp2_with fail
        refine (HSL2.out _ HQ.out).mono ?_
        rintro e w1 ⟨rfl, hQ1⟩
        clear HQ; have HQ := Lib.hid hQ1; clear hQ1
        go_wp2_with fail
        refine (HSK.out _ HQ.out).mono ?_
        rintro e w1 ⟨rfl, hQ1⟩
        have HCV1 := HCV.out _ hQ1.own
        have HQ2 := Lib.hid hQ1; clear hQ1
        go_wp2_with fail
        exact HPost.out _ _ (QReadN.loose HBAD.out rfl HQ2.out.cur hn0 hn1)
end Go.Proofs.YtcelnnjjakiehaaGreatDoor
namespace Go.Proofs.YtcelnnjjakiehaaGreatDoor
open Go.RowKit
set_option linter.unusedVariables false
set_option maxRecDepth 1000000
set_option maxHeartbeats 16000000

theorem q_nl {W w0 wx : World} {lb fb B i : Nat} {s q nm : ByteArray} {x : LexSt} {raw uni np he ident : Bool} {v : Value} {acc : List UInt8} {R : QR} {r : List UInt8} (t : Nat → Value) (hr : s.data.toList.drop x.pos = r) (hq : q.size = 1 ∨ q.size = 3) (hnm : (nm.toList == [105, 100, 101, 110, 116, 105, 102, 105, 101, 114]) = ident) (hi : i < r.length) (hacc : acc.length ≤ 4 * i)
    (hQ : QAt W w0 lb fb s x B v acc wx) (hrun : Link np he (qrun q.data.toList raw uni ident r i acc) R) (hgood : np = false → R.good r.length) (hcalm : np = true → calm r) (hc : q.data.toList.isPrefixOf (r.drop i) = false) (h92 : byteAt r i = 10) (hq1 : q.size = 1) {Kx : Act → World → Prop} {Post : Ending → World → Prop} (hPost : ∀ e w', QReadN W w0 lb fb s x np R e w' → Post e w') (J : Nat → Act → World → Prop) (K : Act → World → Prop)
    (hJ : ∀ g a w, QInv W w0 lb fb s x B q raw uni nm np ident r R g a w → J g a w) (hK : ∀ a w, Handed J (r.length - i) a w → K a w) :
    Code.wp Tryz.prog qbody (Exit.then K (Exit.inBlock 0 (Exit.then Kx (bodyPost Tryz.prog Tryz.f71 Post)))) (QFrame t lb q raw uni nm np he i v) wx := by
  have hsz := hQ.cur.sz
  have hpos := hQ.cur.pos
  have hrl : r.length = s.size - x.pos := by rw [← hr]; exact hQ.cur.len
  have hPK : Hid (∀ (acc' : List UInt8) (v' : Value) (w1 : World), QAt W w0 lb fb s x B v' acc' w1 → ∀ (k : Nat) (j : Int), j = k → k < r.length → Calls Tryz.prog 65 #[.pointer (some ⟨lb, 0, none⟩), .int .i64 j] w1 fun e w' => e = .returned (.int .u8 (byteAt r k)) ∧ QAt W w0 lb fb s x B v' acc' w') := Lib.hid (fun acc' v' w1 h1 k j hj hk => by have := peekQ h1 k j hj (by rw [hr]; exact hk); rw [hr] at this; exact this)
  have hOK : Hid (∀ (acc' : List UInt8) (v' : Value) (w1 : World), QAt W w0 lb fb s x B v' acc' w1 → ∀ (k : Nat) (j : Int), j = k → k < r.length → Calls Tryz.prog 63 #[.pointer (some ⟨lb, 0, none⟩), .int .i64 j] w1 fun e w' => e = .returned (.bool true) ∧ QAt W w0 lb fb s x B v' acc' w') := Lib.hid (fun acc' v' w1 h1 k j hj hk => by have := peekOkQ h1 k j hj (by omega); rw [hr, show decide (k < r.length) = true from by simpa using hk] at this; exact this)
  have hSL : Hid (∀ (acc' : List UInt8) (v' : Value) (w1 : World), QAt W w0 lb fb s x B v' acc' w1 → ∀ (a b : Nat) (j k : Int), j = a → k = b → a ≤ b → b ≤ 2000000 → a ≤ r.length → Calls Tryz.prog 76 #[.pointer (some ⟨lb, 0, none⟩), .int .i64 j, .int .i64 k] w1 fun e w' => e = .returned (.string ⟨(sub r a b).toArray⟩) ∧ QAt W w0 lb fb s x B v' acc' w') := Lib.hid (fun acc' v' w1 h1 a b j k hj hk hab hb ha => by have := sliceQ h1 a b j k hj hk hab hb (by rw [hr]; exact ha); rw [hr] at this; exact this)
  rw [qrun_in _ _ _ _ _ _ _ hi] at hrun
  have hst : qstep q.data.toList raw uni r i = .fault 0 i 0 := by
    unfold qstep
    rw [hc, if_neg (by decide), if_neg (by rw [h92]; decide), if_pos ⟨h92, by rw [ba_toList_length]; omega⟩]
  rw [hst] at hrun
  have hrun : Link np he (QR.err 0 i) R := hrun
  have hsub : ((⟨(sub r i (i + q.size)).toArray⟩ : ByteArray).toList == q.toList) = false := by rw [sub_pre]; exact hc
  have HSL2 : Hid (∀ w1, QAt W w0 lb fb s x B v acc w1 → Calls Tryz.prog 76 #[.pointer (some ⟨lb, 0, none⟩), .int .i64 (i : Int), .int .i64 ((i : Int) + (q.size : Int))] w1 fun e w' => e = .returned (.string ⟨(sub r i (i + q.size)).toArray⟩) ∧ QAt W w0 lb fb s x B v acc w') := Lib.hid (fun w1 h1 => hSL.out acc v w1 h1 i (i + q.size) _ _ rfl (by omega) (by omega) (by omega) (Nat.le_of_lt hi))
  generalize (⟨(sub r i (i + q.size)).toArray⟩ : ByteArray) = S at *
  obtain ⟨i0, hinf, hz0, hz1, hz2⟩ := info_parts info_u8q
  have HOK2 : Hid (∀ w1, QAt W w0 lb fb s x B v acc w1 → Calls Tryz.prog 63 #[.pointer (some ⟨lb, 0, none⟩), .int .i64 (i : Int)] w1 fun e w' => e = .returned (.bool true) ∧ QAt W w0 lb fb s x B v acc w') := Lib.hid (fun w1 h1 => hOK.out acc v w1 h1 i _ rfl hi)
  have hcb := byteAt_bd r i
  have HPK2 : Hid (∀ w1, QAt W w0 lb fb s x B v acc w1 → Calls Tryz.prog 65 #[.pointer (some ⟨lb, 0, none⟩), .int .i64 (i : Int)] w1 fun e w' => e = .returned (.int .u8 (byteAt r i)) ∧ QAt W w0 lb fb s x B v acc w') := Lib.hid (fun w1 h1 => hPK.out acc v w1 h1 i _ rfl hi)
  rw [h92] at HPK2
  have HQ := Lib.hid hQ; have HPost := Lib.hid hPost; have HJ := Lib.hid hJ; have HNM := Lib.hid hnm; have HRr := Lib.hid hr; have HRUN := Lib.hid hrun
  clear hrun hQ hPost hgood hcalm hst hJ hr hnm hOK hPK hSL hc
  have b3 : ((q.size : Int) != 3) = true := by rw [hq1]; rfl
  clear hq1 h92
  cases np with
  | false =>
    obtain ⟨h1, h2⟩ := HRUN.out.strict
    subst h1; subst h2
    clear HRUN
    unfold QFrame
    conv => arg 2; whnf
    go_wp2_with fail
    refine (HOK2.out _ HQ.out).mono ?_
    rintro e w1 ⟨rfl, hQ1⟩
    clear HQ; have HQ := Lib.hid hQ1; clear hQ1
    go_wp2_with fail
    refine (HSL2.out _ HQ.out).mono ?_
    rintro e w1 ⟨rfl, hQ1⟩
    clear HQ; have HQ := Lib.hid hQ1; clear hQ1
    go_wp2_with fail
    refine (HPK2.out _ HQ.out).mono ?_
    rintro e w1 ⟨rfl, hQ1⟩
    clear HQ; have HQ := Lib.hid hQ1; clear hQ1
    go_wp2_with fail
    obtain ⟨c0, c9, c1⟩ := HQ.out.cur.lex.rd
    go_still_tail 11, (by kernel_rfl)
    clear c0 c9 c1
    change wpList _ _ _ _ _ (w1.drewN 1)
    have HQ2 := Lib.hid (HQ.out.drewN 1)
    clear HQ
    generalize w1.drewN 1 = w2 at *
    obtain ⟨c0, c9, c1⟩ := HQ2.out.cur.lex.rd
    go_wp2_with fail
    refine (panicfAtQ HQ2.out 0 i _ _ _ (by omega) (by omega) (by omega) (by omega)).mono ?_
    rintro e w9 ⟨EB, rfl, hE⟩
    have HE := Lib.hid hE; clear hE
    go_wp2_with fail
    exact ⟨rfl, HPost.out _ _ (QReadN.fault ⟨EB, rfl, HE.out⟩)⟩
  | true =>
    have HBAD := Lib.hid HRUN.out.err
    clear HRUN
    unfold QFrame
    conv => arg 2; whnf
    go_wp2_with fail
    refine (HOK2.out _ HQ.out).mono ?_
    rintro e w1 ⟨rfl, hQ1⟩
    clear HQ; have HQ := Lib.hid hQ1; clear hQ1
    go_wp2_with fail
    refine (HSL2.out _ HQ.out).mono ?_
    rintro e w1 ⟨rfl, hQ1⟩
    clear HQ; have HQ := Lib.hid hQ1; clear hQ1
    go_wp2_with fail
    refine (HPK2.out _ HQ.out).mono ?_
    rintro e w1 ⟨rfl, hQ1⟩
    clear HQ; have HQ := Lib.hid hQ1; clear hQ1
    go_wp2_with fail
    refine Handed.intro (r.length - (i + 1)) (by omega) ?_
    exact HJ.out _ _ _ (QInv.of acc _ rfl rfl rfl rfl rfl rfl rfl rfl rfl (by show _ = _; rfl) rfl rfl (by omega) (by omega) HQ.out (Link.loose HBAD.out))
theorem q_empty {W w0 wx : World} {lb fb B i : Nat} {s q nm : ByteArray} {x : LexSt} {raw uni np he ident : Bool} {v : Value} {acc : List UInt8} {R : QR} {r : List UInt8} (t : Nat → Value) (hr : s.data.toList.drop x.pos = r) (hq : q.size = 1 ∨ q.size = 3) (hnm : (nm.toList == [105, 100, 101, 110, 116, 105, 102, 105, 101, 114]) = ident) (hi : i < r.length) (hacc : acc.length ≤ 4 * i)
    (hQ : QAt W w0 lb fb s x B v acc wx) (hrun : Link np he (qrun q.data.toList raw uni ident r i acc) R) (hgood : np = false → R.good r.length) (hcalm : np = true → calm r) (hc : q.data.toList.isPrefixOf (r.drop i) = true) (hid : ident = true) (hac : acc = []) {Kx : Act → World → Prop} {Post : Ending → World → Prop} (hPost : ∀ e w', QReadN W w0 lb fb s x np R e w' → Post e w') (J : Nat → Act → World → Prop) (K : Act → World → Prop)
    (hJ : ∀ g a w, QInv W w0 lb fb s x B q raw uni nm np ident r R g a w → J g a w) (hK : ∀ a w, Handed J (r.length - i) a w → K a w) :
    Code.wp Tryz.prog qbody (Exit.then K (Exit.inBlock 0 (Exit.then Kx (bodyPost Tryz.prog Tryz.f71 Post)))) (QFrame t lb q raw uni nm np he i v) wx := by
  have hsz := hQ.cur.sz
  have hpos := hQ.cur.pos
  have hrl : r.length = s.size - x.pos := by rw [← hr]; exact hQ.cur.len
  have hPK : Hid (∀ (acc' : List UInt8) (v' : Value) (w1 : World), QAt W w0 lb fb s x B v' acc' w1 → ∀ (k : Nat) (j : Int), j = k → k < r.length → Calls Tryz.prog 65 #[.pointer (some ⟨lb, 0, none⟩), .int .i64 j] w1 fun e w' => e = .returned (.int .u8 (byteAt r k)) ∧ QAt W w0 lb fb s x B v' acc' w') := Lib.hid (fun acc' v' w1 h1 k j hj hk => by have := peekQ h1 k j hj (by rw [hr]; exact hk); rw [hr] at this; exact this)
  have hOK : Hid (∀ (acc' : List UInt8) (v' : Value) (w1 : World), QAt W w0 lb fb s x B v' acc' w1 → ∀ (k : Nat) (j : Int), j = k → k < r.length → Calls Tryz.prog 63 #[.pointer (some ⟨lb, 0, none⟩), .int .i64 j] w1 fun e w' => e = .returned (.bool true) ∧ QAt W w0 lb fb s x B v' acc' w') := Lib.hid (fun acc' v' w1 h1 k j hj hk => by have := peekOkQ h1 k j hj (by omega); rw [hr, show decide (k < r.length) = true from by simpa using hk] at this; exact this)
  have hSL : Hid (∀ (acc' : List UInt8) (v' : Value) (w1 : World), QAt W w0 lb fb s x B v' acc' w1 → ∀ (a b : Nat) (j k : Int), j = a → k = b → a ≤ b → b ≤ 2000000 → a ≤ r.length → Calls Tryz.prog 76 #[.pointer (some ⟨lb, 0, none⟩), .int .i64 j, .int .i64 k] w1 fun e w' => e = .returned (.string ⟨(sub r a b).toArray⟩) ∧ QAt W w0 lb fb s x B v' acc' w') := Lib.hid (fun acc' v' w1 h1 a b j k hj hk hab hb ha => by have := sliceQ h1 a b j k hj hk hab hb (by rw [hr]; exact ha); rw [hr] at this; exact this)
  rw [qrun_in _ _ _ _ _ _ _ hi] at hrun
  have hql : i + q.size ≤ r.length := by
    have := (List.isPrefixOf_iff_prefix.1 hc).length_le
    rw [ba_toList_length, List.length_drop] at this; omega
  have hst : qstep q.data.toList raw uni r i = .close := by unfold qstep; rw [if_pos hc]
  rw [hst] at hrun
  have hrun : Link np he (QR.err 0 (i + q.size)) R := by
    have e : (if ident = true ∧ acc = [] then QR.err 0 (i + q.data.toList.length) else QR.ok acc (i + q.data.toList.length)) = QR.err 0 (i + q.size) := by
      rw [ba_toList_length, if_pos ⟨hid, hac⟩]
    rw [← e]; exact hrun
  have hn0 : 0 < i + q.size := by omega
  have hn1 : x.pos + (i + q.size) ≤ s.size := by omega
  have hSK := fun w1 (h1 : QAt W w0 lb fb s x B v acc w1) => skipNQ h1 (i + q.size) ((i : Int) + (q.size : Int)) (by omega) (by omega)
  have hsub : ((⟨(sub r i (i + q.size)).toArray⟩ : ByteArray).toList == q.toList) = true := by rw [sub_pre]; exact hc
  have HSL2 : Hid (∀ w1, QAt W w0 lb fb s x B v acc w1 → Calls Tryz.prog 76 #[.pointer (some ⟨lb, 0, none⟩), .int .i64 (i : Int), .int .i64 ((i : Int) + (q.size : Int))] w1 fun e w' => e = .returned (.string ⟨(sub r i (i + q.size)).toArray⟩) ∧ QAt W w0 lb fb s x B v acc w') := Lib.hid (fun w1 h1 => hSL.out acc v w1 h1 i (i + q.size) _ _ rfl (by omega) (by omega) (by omega) (Nat.le_of_lt hi))
  generalize (⟨(sub r i (i + q.size)).toArray⟩ : ByteArray) = S at *
  obtain ⟨i0, hinf, hz0, hz1, hz2⟩ := info_parts info_u8q
  have HOK2 : Hid (∀ w1, QAt W w0 lb fb s x B v acc w1 → Calls Tryz.prog 63 #[.pointer (some ⟨lb, 0, none⟩), .int .i64 (i : Int)] w1 fun e w' => e = .returned (.bool true) ∧ QAt W w0 lb fb s x B v acc w') := Lib.hid (fun w1 h1 => hOK.out acc v w1 h1 i _ rfl hi)
  have HQ := Lib.hid hQ; have HPost := Lib.hid hPost; have HJ := Lib.hid hJ; have HNM := Lib.hid hnm; have HRr := Lib.hid hr; have HRUN := Lib.hid hrun
  have HSK := Lib.hid hSK
  have hnmt : (nm.toList == [105, 100, 101, 110, 116, 105, 102, 105, 101, 114]) = true := by rw [hnm, hid]
  have hlz : ((acc.length : Int) == 0) = true := by rw [hac]; rfl
  have hsh := hQ.own.shape
  clear hrun hQ hPost hgood hcalm hst hJ hr hnm hSK hOK hPK hSL hc hid hac
  cases np with
  | false =>
    obtain ⟨h1, h2⟩ := HRUN.out.strict
    subst h1; subst h2
    clear HRUN
    unfold QFrame
    conv => arg 2; whnf
    rcases hsh with ⟨rfl, hz, _⟩ | ⟨g, cap, rfl, _, _, _, _⟩
    · clear hz
      go_wp2_with fail
      refine (HOK2.out _ HQ.out).mono ?_
      rintro e w1 ⟨rfl, hQ1⟩
      clear HQ; have HQ := Lib.hid hQ1; clear hQ1
      go_wp2_with fail
      refine (HSL2.out _ HQ.out).mono ?_
      rintro e w1 ⟨rfl, hQ1⟩
      clear HQ; have HQ := Lib.hid hQ1; clear hQ1
      go_wp2_with fail
      obtain ⟨c0, c9, c1⟩ := HQ.out.cur.lex.rd
      go_still_tail 14, (by kernel_rfl)
      clear c0 c9 c1
      change wpList _ _ _ _ _ (w1.drewN 1)
      have HQ2 := Lib.hid (HQ.out.drewN 1)
      clear HQ
      generalize w1.drewN 1 = w2 at *
      obtain ⟨c0, c9, c1⟩ := HQ2.out.cur.lex.rd
      go_wp2_with fail
      refine (panicfAtQ HQ2.out 0 (i + q.size) _ _ _ (by omega) (by omega) (by omega) (by omega)).mono ?_
      rintro e w9 ⟨EB, rfl, hE⟩
      have HE := Lib.hid hE; clear hE
      go_wp2_with fail
      exact ⟨rfl, HPost.out _ _ (QReadN.fault ⟨EB, rfl, HE.out⟩)⟩
    ·
      go_wp2_with fail
      refine (HOK2.out _ HQ.out).mono ?_
      rintro e w1 ⟨rfl, hQ1⟩
      clear HQ; have HQ := Lib.hid hQ1; clear hQ1
      go_wp2_with fail
      refine (HSL2.out _ HQ.out).mono ?_
      rintro e w1 ⟨rfl, hQ1⟩
      clear HQ; have HQ := Lib.hid hQ1; clear hQ1
      go_wp2_with fail
      obtain ⟨c0, c9, c1⟩ := HQ.out.cur.lex.rd
      go_still_tail 14, (by kernel_rfl)
      clear c0 c9 c1
      change wpList _ _ _ _ _ (w1.drewN 1)
      have HQ2 := Lib.hid (HQ.out.drewN 1)
      clear HQ
      generalize w1.drewN 1 = w2 at *
      obtain ⟨c0, c9, c1⟩ := HQ2.out.cur.lex.rd
      go_wp2_with fail
      refine (panicfAtQ HQ2.out 0 (i + q.size) _ _ _ (by omega) (by omega) (by omega) (by omega)).mono ?_
      rintro e w9 ⟨EB, rfl, hE⟩
      have HE := Lib.hid hE; clear hE
      go_wp2_with fail
      exact ⟨rfl, HPost.out _ _ (QReadN.fault ⟨EB, rfl, HE.out⟩)⟩
  | true =>
    have HBAD := Lib.hid HRUN.out.err
    clear HRUN
    unfold QFrame
    conv => arg 2; whnf
    rcases hsh with ⟨rfl, hz, _⟩ | ⟨g, cap, rfl, _, _, _, _⟩
    · clear hz
      go_wp2_with fail
      refine (HOK2.out _ HQ.out).mono ?_
      rintro e w1 ⟨rfl, hQ1⟩
      clear HQ; have HQ := Lib.hid hQ1; clear hQ1
      go_wp2_with fail
      refine (HSL2.out _ HQ.out).mono ?_
      rintro e w1 ⟨rfl, hQ1⟩
      clear HQ; have HQ := Lib.hid hQ1; clear hQ1
      go_wp2_with fail
      refine (HSK.out _ HQ.out).mono ?_
      rintro e w1 ⟨rfl, hQ1⟩
      have HQ2 := Lib.hid hQ1; clear hQ1
      go_wp2_with fail
      exact HPost.out _ _ (QReadN.loose HBAD.out rfl HQ2.out.cur hn0 hn1)
    ·
      go_wp2_with fail
      refine (HOK2.out _ HQ.out).mono ?_
      rintro e w1 ⟨rfl, hQ1⟩
      clear HQ; have HQ := Lib.hid hQ1; clear hQ1
      go_wp2_with fail
      refine (HSL2.out _ HQ.out).mono ?_
      rintro e w1 ⟨rfl, hQ1⟩
      clear HQ; have HQ := Lib.hid hQ1; clear hQ1
      go_wp2_with fail
      refine (HSK.out _ HQ.out).mono ?_
      rintro e w1 ⟨rfl, hQ1⟩
      have HQ2 := Lib.hid hQ1; clear hQ1
      go_wp2_with fail
      exact HPost.out _ _ (QReadN.loose HBAD.out rfl HQ2.out.cur hn0 hn1)
theorem q_esc_eof {W w0 wx : World} {lb fb B i : Nat} {s q nm : ByteArray} {x : LexSt} {raw uni np he ident : Bool} {v : Value} {acc : List UInt8} {R : QR} {r : List UInt8} (t : Nat → Value) (hr : s.data.toList.drop x.pos = r) (hq : q.size = 1 ∨ q.size = 3) (hnm : (nm.toList == [105, 100, 101, 110, 116, 105, 102, 105, 101, 114]) = ident) (hi : i < r.length) (hacc : acc.length ≤ 4 * i)
    (hQ : QAt W w0 lb fb s x B v acc wx) (hrun : Link np he (qrun q.data.toList raw uni ident r i acc) R) (hgood : np = false → R.good r.length) (hcalm : np = true → calm r) (hc : q.data.toList.isPrefixOf (r.drop i) = false) (h92 : byteAt r i = 92) (hle : r.length ≤ i + 1) {Kx : Act → World → Prop} {Post : Ending → World → Prop} (hPost : ∀ e w', QReadN W w0 lb fb s x np R e w' → Post e w') (J : Nat → Act → World → Prop) (K : Act → World → Prop)
    (hJ : ∀ g a w, QInv W w0 lb fb s x B q raw uni nm np ident r R g a w → J g a w) (hK : ∀ a w, Handed J (r.length - i) a w → K a w) :
    Code.wp Tryz.prog qbody (Exit.then K (Exit.inBlock 0 (Exit.then Kx (bodyPost Tryz.prog Tryz.f71 Post)))) (QFrame t lb q raw uni nm np he i v) wx := by
  have hsz := hQ.cur.sz
  have hpos := hQ.cur.pos
  have hrl : r.length = s.size - x.pos := by rw [← hr]; exact hQ.cur.len
  have hPK : Hid (∀ (acc' : List UInt8) (v' : Value) (w1 : World), QAt W w0 lb fb s x B v' acc' w1 → ∀ (k : Nat) (j : Int), j = k → k < r.length → Calls Tryz.prog 65 #[.pointer (some ⟨lb, 0, none⟩), .int .i64 j] w1 fun e w' => e = .returned (.int .u8 (byteAt r k)) ∧ QAt W w0 lb fb s x B v' acc' w') := Lib.hid (fun acc' v' w1 h1 k j hj hk => by have := peekQ h1 k j hj (by rw [hr]; exact hk); rw [hr] at this; exact this)
  have hOK : Hid (∀ (acc' : List UInt8) (v' : Value) (w1 : World), QAt W w0 lb fb s x B v' acc' w1 → ∀ (k : Nat) (j : Int), j = k → k < r.length → Calls Tryz.prog 63 #[.pointer (some ⟨lb, 0, none⟩), .int .i64 j] w1 fun e w' => e = .returned (.bool true) ∧ QAt W w0 lb fb s x B v' acc' w') := Lib.hid (fun acc' v' w1 h1 k j hj hk => by have := peekOkQ h1 k j hj (by omega); rw [hr, show decide (k < r.length) = true from by simpa using hk] at this; exact this)
  have hSL : Hid (∀ (acc' : List UInt8) (v' : Value) (w1 : World), QAt W w0 lb fb s x B v' acc' w1 → ∀ (a b : Nat) (j k : Int), j = a → k = b → a ≤ b → b ≤ 2000000 → a ≤ r.length → Calls Tryz.prog 76 #[.pointer (some ⟨lb, 0, none⟩), .int .i64 j, .int .i64 k] w1 fun e w' => e = .returned (.string ⟨(sub r a b).toArray⟩) ∧ QAt W w0 lb fb s x B v' acc' w') := Lib.hid (fun acc' v' w1 h1 a b j k hj hk hab hb ha => by have := sliceQ h1 a b j k hj hk hab hb (by rw [hr]; exact ha); rw [hr] at this; exact this)
  rw [qrun_in _ _ _ _ _ _ _ hi] at hrun
  have hst : qstep q.data.toList raw uni r i = .fault i (i + 1) 0 := by
    unfold qstep
    rw [hc, if_neg (by decide), if_pos h92, if_neg (by omega)]
  rw [hst] at hrun
  have hrun : Link np he (QR.err i (i + 1)) R := hrun
  have hOKF : Hid (∀ w1, QAt W w0 lb fb s x B v acc w1 → Calls Tryz.prog 63 #[.pointer (some ⟨lb, 0, none⟩), .int .i64 ((i : Int) + 1)] w1 fun e w' => e = .returned (.bool false) ∧ QAt W w0 lb fb s x B v acc w') := Lib.hid (fun w1 h1 => by have := peekOkQ h1 (i + 1) ((i : Int) + 1) (by omega) (by omega); rw [hr, show decide (i + 1 < r.length) = false from by simp; omega] at this; exact this)
  have HCM : Hid (np = true → False) := Lib.hid (fun h => by have := calm_in (hcalm h) hi h92; omega)
  have hsub : ((⟨(sub r i (i + q.size)).toArray⟩ : ByteArray).toList == q.toList) = false := by rw [sub_pre]; exact hc
  have HSL2 : Hid (∀ w1, QAt W w0 lb fb s x B v acc w1 → Calls Tryz.prog 76 #[.pointer (some ⟨lb, 0, none⟩), .int .i64 (i : Int), .int .i64 ((i : Int) + (q.size : Int))] w1 fun e w' => e = .returned (.string ⟨(sub r i (i + q.size)).toArray⟩) ∧ QAt W w0 lb fb s x B v acc w') := Lib.hid (fun w1 h1 => hSL.out acc v w1 h1 i (i + q.size) _ _ rfl (by omega) (by omega) (by omega) (Nat.le_of_lt hi))
  generalize (⟨(sub r i (i + q.size)).toArray⟩ : ByteArray) = S at *
  obtain ⟨i0, hinf, hz0, hz1, hz2⟩ := info_parts info_u8q
  have HOK2 : Hid (∀ w1, QAt W w0 lb fb s x B v acc w1 → Calls Tryz.prog 63 #[.pointer (some ⟨lb, 0, none⟩), .int .i64 (i : Int)] w1 fun e w' => e = .returned (.bool true) ∧ QAt W w0 lb fb s x B v acc w') := Lib.hid (fun w1 h1 => hOK.out acc v w1 h1 i _ rfl hi)
  have hcb := byteAt_bd r i
  have HPK2 : Hid (∀ w1, QAt W w0 lb fb s x B v acc w1 → Calls Tryz.prog 65 #[.pointer (some ⟨lb, 0, none⟩), .int .i64 (i : Int)] w1 fun e w' => e = .returned (.int .u8 (byteAt r i)) ∧ QAt W w0 lb fb s x B v acc w') := Lib.hid (fun w1 h1 => hPK.out acc v w1 h1 i _ rfl hi)
  rw [h92] at HPK2
  have HQ := Lib.hid hQ; have HPost := Lib.hid hPost; have HJ := Lib.hid hJ; have HNM := Lib.hid hnm; have HRr := Lib.hid hr; have HRUN := Lib.hid hrun
  clear hrun hQ hPost hgood hcalm hst hJ hr hnm hOK hPK hSL hc h92
  cases np with
  | false =>
    obtain ⟨h1, h2⟩ := HRUN.out.strict
    subst h1; subst h2
    clear HRUN
    unfold QFrame
    conv => arg 2; whnf
    go_wp2_with fail
    refine (HOK2.out _ HQ.out).mono ?_
    rintro e w1 ⟨rfl, hQ1⟩
    clear HQ; have HQ := Lib.hid hQ1; clear hQ1
    go_wp2_with fail
    refine (HSL2.out _ HQ.out).mono ?_
    rintro e w1 ⟨rfl, hQ1⟩
    clear HQ; have HQ := Lib.hid hQ1; clear hQ1
    go_wp2_with fail
    refine (HPK2.out _ HQ.out).mono ?_
    rintro e w1 ⟨rfl, hQ1⟩
    clear HQ; have HQ := Lib.hid hQ1; clear hQ1
    go_wp2_with fail
    refine (hOKF.out _ HQ.out).mono ?_
    rintro e w1 ⟨rfl, hQ1⟩
    clear HQ; have HQ := Lib.hid hQ1; clear hQ1
    go_wp2_with fail
    obtain ⟨c0, c9, c1⟩ := HQ.out.cur.lex.rd
    go_still_tail 14, (by kernel_rfl)
    clear c0 c9 c1
    change wpList _ _ _ _ _ (w1.drewN 1)
    have HQ2 := Lib.hid (HQ.out.drewN 1)
    clear HQ
    generalize w1.drewN 1 = w2 at *
    obtain ⟨c0, c9, c1⟩ := HQ2.out.cur.lex.rd
    go_wp2_with fail
    refine (panicfAtQ HQ2.out i (i + 1) _ _ _ (by omega) (by omega) (by omega) (by omega)).mono ?_
    rintro e w9 ⟨EB, rfl, hE⟩
    have HE := Lib.hid hE; clear hE
    go_wp2_with fail
    exact ⟨rfl, HPost.out _ _ (QReadN.fault ⟨EB, rfl, HE.out⟩)⟩
  | true => exact (HCM.out rfl).elim
end Go.Proofs.YtcelnnjjakiehaaGreatDoor
namespace Go.Proofs.YtcelnnjjakiehaaGreatDoor
open Go.RowKit
set_option linter.unusedVariables false
set_option maxRecDepth 1000000
set_option maxHeartbeats 16000000

theorem q_raw {W w0 wx : World} {lb fb B i : Nat} {s q nm : ByteArray} {x : LexSt} {raw uni np he ident : Bool} {v : Value} {acc : List UInt8} {R : QR} {r : List UInt8} (t : Nat → Value) (hr : s.data.toList.drop x.pos = r) (hq : q.size = 1 ∨ q.size = 3) (hnm : (nm.toList == [105, 100, 101, 110, 116, 105, 102, 105, 101, 114]) = ident) (hi : i < r.length) (hacc : acc.length ≤ 4 * i)
    (hQ : QAt W w0 lb fb s x B v acc wx) (hrun : Link np he (qrun q.data.toList raw uni ident r i acc) R) (hgood : np = false → R.good r.length) (hcalm : np = true → calm r) (hc : q.data.toList.isPrefixOf (r.drop i) = false) (h92 : byteAt r i = 92) (hlt : i + 1 < r.length) (hraw : raw = true) {Kx : Act → World → Prop} {Post : Ending → World → Prop} (hPost : ∀ e w', QReadN W w0 lb fb s x np R e w' → Post e w') (J : Nat → Act → World → Prop) (K : Act → World → Prop)
    (hJ : ∀ g a w, QInv W w0 lb fb s x B q raw uni nm np ident r R g a w → J g a w) (hK : ∀ a w, Handed J (r.length - i) a w → K a w) :
    Code.wp Tryz.prog qbody (Exit.then K (Exit.inBlock 0 (Exit.then Kx (bodyPost Tryz.prog Tryz.f71 Post)))) (QFrame t lb q raw uni nm np he i v) wx := by
  have hsz := hQ.cur.sz
  have hpos := hQ.cur.pos
  have hrl : r.length = s.size - x.pos := by rw [← hr]; exact hQ.cur.len
  have hPK : Hid (∀ (acc' : List UInt8) (v' : Value) (w1 : World), QAt W w0 lb fb s x B v' acc' w1 → ∀ (k : Nat) (j : Int), j = k → k < r.length → Calls Tryz.prog 65 #[.pointer (some ⟨lb, 0, none⟩), .int .i64 j] w1 fun e w' => e = .returned (.int .u8 (byteAt r k)) ∧ QAt W w0 lb fb s x B v' acc' w') := Lib.hid (fun acc' v' w1 h1 k j hj hk => by have := peekQ h1 k j hj (by rw [hr]; exact hk); rw [hr] at this; exact this)
  have hOK : Hid (∀ (acc' : List UInt8) (v' : Value) (w1 : World), QAt W w0 lb fb s x B v' acc' w1 → ∀ (k : Nat) (j : Int), j = k → k < r.length → Calls Tryz.prog 63 #[.pointer (some ⟨lb, 0, none⟩), .int .i64 j] w1 fun e w' => e = .returned (.bool true) ∧ QAt W w0 lb fb s x B v' acc' w') := Lib.hid (fun acc' v' w1 h1 k j hj hk => by have := peekOkQ h1 k j hj (by omega); rw [hr, show decide (k < r.length) = true from by simpa using hk] at this; exact this)
  have hSL : Hid (∀ (acc' : List UInt8) (v' : Value) (w1 : World), QAt W w0 lb fb s x B v' acc' w1 → ∀ (a b : Nat) (j k : Int), j = a → k = b → a ≤ b → b ≤ 2000000 → a ≤ r.length → Calls Tryz.prog 76 #[.pointer (some ⟨lb, 0, none⟩), .int .i64 j, .int .i64 k] w1 fun e w' => e = .returned (.string ⟨(sub r a b).toArray⟩) ∧ QAt W w0 lb fb s x B v' acc' w') := Lib.hid (fun acc' v' w1 h1 a b j k hj hk hab hb ha => by have := sliceQ h1 a b j k hj hk hab hb (by rw [hr]; exact ha); rw [hr] at this; exact this)
  rw [qrun_in _ _ _ _ _ _ _ hi] at hrun
  subst hraw
  have hst : qstep q.data.toList true uni r i = .next 1 [92, r.getD (i + 1) 0] := by
    unfold qstep
    rw [hc, if_neg (by decide), if_pos h92, if_pos hlt]; rfl
  rw [hst] at hrun
  have hsub : ((⟨(sub r i (i + q.size)).toArray⟩ : ByteArray).toList == q.toList) = false := by rw [sub_pre]; exact hc
  have HSL2 : Hid (∀ w1, QAt W w0 lb fb s x B v acc w1 → Calls Tryz.prog 76 #[.pointer (some ⟨lb, 0, none⟩), .int .i64 (i : Int), .int .i64 ((i : Int) + (q.size : Int))] w1 fun e w' => e = .returned (.string ⟨(sub r i (i + q.size)).toArray⟩) ∧ QAt W w0 lb fb s x B v acc w') := Lib.hid (fun w1 h1 => hSL.out acc v w1 h1 i (i + q.size) _ _ rfl (by omega) (by omega) (by omega) (Nat.le_of_lt hi))
  generalize (⟨(sub r i (i + q.size)).toArray⟩ : ByteArray) = S at *
  obtain ⟨i0, hinf, hz0, hz1, hz2⟩ := info_parts info_u8q
  have HOK2 : Hid (∀ w1, QAt W w0 lb fb s x B v acc w1 → Calls Tryz.prog 63 #[.pointer (some ⟨lb, 0, none⟩), .int .i64 (i : Int)] w1 fun e w' => e = .returned (.bool true) ∧ QAt W w0 lb fb s x B v acc w') := Lib.hid (fun w1 h1 => hOK.out acc v w1 h1 i _ rfl hi)
  have hcb := byteAt_bd r i
  have HPK2 : Hid (∀ w1, QAt W w0 lb fb s x B v acc w1 → Calls Tryz.prog 65 #[.pointer (some ⟨lb, 0, none⟩), .int .i64 (i : Int)] w1 fun e w' => e = .returned (.int .u8 (byteAt r i)) ∧ QAt W w0 lb fb s x B v acc w') := Lib.hid (fun w1 h1 => hPK.out acc v w1 h1 i _ rfl hi)
  rw [h92] at HPK2
  have hdb := byteAt_bd r (i + 1)
  have HOK3 : Hid (∀ w1, QAt W w0 lb fb s x B v acc w1 → Calls Tryz.prog 63 #[.pointer (some ⟨lb, 0, none⟩), .int .i64 ((i : Int) + 1)] w1 fun e w' => e = .returned (.bool true) ∧ QAt W w0 lb fb s x B v acc w') := Lib.hid (fun w1 h1 => hOK.out acc v w1 h1 (i + 1) _ (by omega) hlt)
  have HPK3 : Hid (∀ w1, QAt W w0 lb fb s x B v acc w1 → Calls Tryz.prog 65 #[.pointer (some ⟨lb, 0, none⟩), .int .i64 ((i : Int) + 1)] w1 fun e w' => e = .returned (.int .u8 (byteAt r (i + 1))) ∧ QAt W w0 lb fb s x B v acc w') := Lib.hid (fun w1 h1 => hPK.out acc v w1 h1 (i + 1) _ (by omega) hlt)
  have HRUN := Lib.hid hrun; have HQ := Lib.hid hQ; have HPost := Lib.hid hPost; have HJ := Lib.hid hJ; have HNM := Lib.hid hnm; have HRr := Lib.hid hr
  have hgd : byteAt r (i + 1) = ((r.getD (i + 1) 0).toNat : Int) := rfl
  generalize hcc : byteAt r (i + 1) = c at *
  have HGD := Lib.hid hgd
  clear hrun hQ hPost hgood hcalm hst hJ hr hnm hOK hPK hSL hc h92 hcc hgd
  unfold QFrame
  conv => arg 2; whnf
  go_wp2_with fail
  refine (HOK2.out _ HQ.out).mono ?_
  rintro e w1 ⟨rfl, hQ1⟩
  clear HQ; have HQ := Lib.hid hQ1; clear hQ1
  go_wp2_with fail
  refine (HSL2.out _ HQ.out).mono ?_
  rintro e w1 ⟨rfl, hQ1⟩
  clear HQ; have HQ := Lib.hid hQ1; clear hQ1
  go_wp2_with fail
  refine (HPK2.out _ HQ.out).mono ?_
  rintro e w1 ⟨rfl, hQ1⟩
  clear HQ; have HQ := Lib.hid hQ1; clear hQ1
  go_wp2_with fail
  refine (HOK3.out _ HQ.out).mono ?_
  rintro e w1 ⟨rfl, hQ1⟩
  clear HQ; have HQ := Lib.hid hQ1; clear hQ1
  go_wp2_with fail
  refine (HPK3.out _ HQ.out).mono ?_
  rintro e w1 ⟨rfl, hQ1⟩
  clear HQ; have HQ := Lib.hid hQ1; clear hQ1
  have hown := HQ.out.own
  have hB := HQ.out.hB
  go_wp2_with (at_builtin; go_loud (refine wpList_append_Own _ rfl (.tmp 115) (.tmp 117) 33 rfl B 5 i0 (.int .u8 0) 1 1 Tryz.underlying33 hinf hz0 hz1 hz2 rfl (by decide) _ _ _ rfl (hown.alloc _) ⟨w1.heap.size, 0, none⟩ 2 2 [.int .u8 92, .int .u8 c] rfl rfl (cell_two_new _ _ _ _) (by simp [Value.oneCell']) (by unfold maxLen; omega) (by omega) (by simp; omega) ?_))
  intro v' w2 hown1 hg1 hbk hne
  go_wp2_with fail
  refine Handed.intro (r.length - (i + 1 + 1)) ?_ ?_
  · omega
  · refine HJ.out _ _ _ (QInv.of (acc ++ [92, r.getD (i + 1) 0]) _ rfl rfl rfl rfl rfl rfl rfl rfl rfl (by show _ = _; rfl) rfl rfl (by omega) (by simp; omega) ?_ HRUN.out)
    refine (HQ.out.alloc _).app hg1 ?_
    rw [HGD.out] at hown1
    simpa [bv_append, bv] using hown1
end Go.Proofs.YtcelnnjjakiehaaGreatDoor
namespace Go.Proofs.YtcelnnjjakiehaaGreatDoor
open Go.RowKit
set_option linter.unusedVariables false
set_option maxRecDepth 1000000
set_option maxHeartbeats 16000000

theorem q_other {W w0 wx : World} {lb fb B i : Nat} {s q nm : ByteArray} {x : LexSt} {raw uni np he ident : Bool} {v : Value} {acc : List UInt8} {R : QR} {r : List UInt8} (t : Nat → Value) (hr : s.data.toList.drop x.pos = r) (hq : q.size = 1 ∨ q.size = 3) (hnm : (nm.toList == [105, 100, 101, 110, 116, 105, 102, 105, 101, 114]) = ident) (hi : i < r.length) (hacc : acc.length ≤ 4 * i)
    (hQ : QAt W w0 lb fb s x B v acc wx) (hrun : Link np he (qrun q.data.toList raw uni ident r i acc) R) (hgood : np = false → R.good r.length) (hcalm : np = true → calm r) (hc : q.data.toList.isPrefixOf (r.drop i) = false) (h92 : byteAt r i = 92) (hlt : i + 1 < r.length) (hraw : raw = false) (hd : simpleEsc (byteAt r (i + 1)) = none) (hd2 : ¬ (byteAt r (i + 1) = 120 ∨ byteAt r (i + 1) = 88)) (hd3 : ¬ (byteAt r (i + 1) = 117 ∨ byteAt r (i + 1) = 85)) (hd4 : ¬ (48 ≤ byteAt r (i + 1) ∧ byteAt r (i + 1) ≤ 51)) {Kx : Act → World → Prop} {Post : Ending → World → Prop} (hPost : ∀ e w', QReadN W w0 lb fb s x np R e w' → Post e w') (J : Nat → Act → World → Prop) (K : Act → World → Prop)
    (hJ : ∀ g a w, QInv W w0 lb fb s x B q raw uni nm np ident r R g a w → J g a w) (hK : ∀ a w, Handed J (r.length - i) a w → K a w) :
    Code.wp Tryz.prog qbody (Exit.then K (Exit.inBlock 0 (Exit.then Kx (bodyPost Tryz.prog Tryz.f71 Post)))) (QFrame t lb q raw uni nm np he i v) wx := by
  have hsz := hQ.cur.sz
  have hpos := hQ.cur.pos
  have hrl : r.length = s.size - x.pos := by rw [← hr]; exact hQ.cur.len
  have hPK : Hid (∀ (acc' : List UInt8) (v' : Value) (w1 : World), QAt W w0 lb fb s x B v' acc' w1 → ∀ (k : Nat) (j : Int), j = k → k < r.length → Calls Tryz.prog 65 #[.pointer (some ⟨lb, 0, none⟩), .int .i64 j] w1 fun e w' => e = .returned (.int .u8 (byteAt r k)) ∧ QAt W w0 lb fb s x B v' acc' w') := Lib.hid (fun acc' v' w1 h1 k j hj hk => by have := peekQ h1 k j hj (by rw [hr]; exact hk); rw [hr] at this; exact this)
  have hOK : Hid (∀ (acc' : List UInt8) (v' : Value) (w1 : World), QAt W w0 lb fb s x B v' acc' w1 → ∀ (k : Nat) (j : Int), j = k → k < r.length → Calls Tryz.prog 63 #[.pointer (some ⟨lb, 0, none⟩), .int .i64 j] w1 fun e w' => e = .returned (.bool true) ∧ QAt W w0 lb fb s x B v' acc' w') := Lib.hid (fun acc' v' w1 h1 k j hj hk => by have := peekOkQ h1 k j hj (by omega); rw [hr, show decide (k < r.length) = true from by simpa using hk] at this; exact this)
  have hSL : Hid (∀ (acc' : List UInt8) (v' : Value) (w1 : World), QAt W w0 lb fb s x B v' acc' w1 → ∀ (a b : Nat) (j k : Int), j = a → k = b → a ≤ b → b ≤ 2000000 → a ≤ r.length → Calls Tryz.prog 76 #[.pointer (some ⟨lb, 0, none⟩), .int .i64 j, .int .i64 k] w1 fun e w' => e = .returned (.string ⟨(sub r a b).toArray⟩) ∧ QAt W w0 lb fb s x B v' acc' w') := Lib.hid (fun acc' v' w1 h1 a b j k hj hk hab hb ha => by have := sliceQ h1 a b j k hj hk hab hb (by rw [hr]; exact ha); rw [hr] at this; exact this)
  rw [qrun_in _ _ _ _ _ _ _ hi] at hrun
  subst hraw
  have hst : qstep q.data.toList false uni r i = .fault i (i + 2) 1 := by
    unfold qstep
    rw [hc, if_neg (by decide), if_pos h92, if_pos hlt]
    unfold qEsc
    rw [if_neg (by decide), hd]
    simp only
    rw [if_neg hd2, if_neg hd3, if_neg hd4]
  rw [hst] at hrun
  have hrun : Link np he (QR.err i (i + 2)) R := hrun
  have hsub : ((⟨(sub r i (i + q.size)).toArray⟩ : ByteArray).toList == q.toList) = false := by rw [sub_pre]; exact hc
  have HSL2 : Hid (∀ w1, QAt W w0 lb fb s x B v acc w1 → Calls Tryz.prog 76 #[.pointer (some ⟨lb, 0, none⟩), .int .i64 (i : Int), .int .i64 ((i : Int) + (q.size : Int))] w1 fun e w' => e = .returned (.string ⟨(sub r i (i + q.size)).toArray⟩) ∧ QAt W w0 lb fb s x B v acc w') := Lib.hid (fun w1 h1 => hSL.out acc v w1 h1 i (i + q.size) _ _ rfl (by omega) (by omega) (by omega) (Nat.le_of_lt hi))
  generalize (⟨(sub r i (i + q.size)).toArray⟩ : ByteArray) = S at *
  obtain ⟨i0, hinf, hz0, hz1, hz2⟩ := info_parts info_u8q
  have HOK2 : Hid (∀ w1, QAt W w0 lb fb s x B v acc w1 → Calls Tryz.prog 63 #[.pointer (some ⟨lb, 0, none⟩), .int .i64 (i : Int)] w1 fun e w' => e = .returned (.bool true) ∧ QAt W w0 lb fb s x B v acc w') := Lib.hid (fun w1 h1 => hOK.out acc v w1 h1 i _ rfl hi)
  have hcb := byteAt_bd r i
  have HPK2 : Hid (∀ w1, QAt W w0 lb fb s x B v acc w1 → Calls Tryz.prog 65 #[.pointer (some ⟨lb, 0, none⟩), .int .i64 (i : Int)] w1 fun e w' => e = .returned (.int .u8 (byteAt r i)) ∧ QAt W w0 lb fb s x B v acc w') := Lib.hid (fun w1 h1 => hPK.out acc v w1 h1 i _ rfl hi)
  rw [h92] at HPK2
  have hdb := byteAt_bd r (i + 1)
  have HOK3 : Hid (∀ w1, QAt W w0 lb fb s x B v acc w1 → Calls Tryz.prog 63 #[.pointer (some ⟨lb, 0, none⟩), .int .i64 ((i : Int) + 1)] w1 fun e w' => e = .returned (.bool true) ∧ QAt W w0 lb fb s x B v acc w') := Lib.hid (fun w1 h1 => hOK.out acc v w1 h1 (i + 1) _ (by omega) hlt)
  have HPK3 : Hid (∀ w1, QAt W w0 lb fb s x B v acc w1 → Calls Tryz.prog 65 #[.pointer (some ⟨lb, 0, none⟩), .int .i64 ((i : Int) + 1)] w1 fun e w' => e = .returned (.int .u8 (byteAt r (i + 1))) ∧ QAt W w0 lb fb s x B v acc w') := Lib.hid (fun w1 h1 => hPK.out acc v w1 h1 (i + 1) _ (by omega) hlt)
  have HQ := Lib.hid hQ; have HPost := Lib.hid hPost; have HJ := Lib.hid hJ; have HNM := Lib.hid hnm; have HRr := Lib.hid hr; have HRUN := Lib.hid hrun
  generalize byteAt r (i + 1) = d at *
  have e97 : (d == 97) = false := by
    rw [beq_eq_false_iff_ne]; intro e; subst e; first | (exact absurd hd (by decide)) | omega
  have e98 : (d == 98) = false := by
    rw [beq_eq_false_iff_ne]; intro e; subst e; first | (exact absurd hd (by decide)) | omega
  have e102 : (d == 102) = false := by
    rw [beq_eq_false_iff_ne]; intro e; subst e; first | (exact absurd hd (by decide)) | omega
  have e110 : (d == 110) = false := by
    rw [beq_eq_false_iff_ne]; intro e; subst e; first | (exact absurd hd (by decide)) | omega
  have e114 : (d == 114) = false := by
    rw [beq_eq_false_iff_ne]; intro e; subst e; first | (exact absurd hd (by decide)) | omega
  have e116 : (d == 116) = false := by
    rw [beq_eq_false_iff_ne]; intro e; subst e; first | (exact absurd hd (by decide)) | omega
  have e118 : (d == 118) = false := by
    rw [beq_eq_false_iff_ne]; intro e; subst e; first | (exact absurd hd (by decide)) | omega
  have e92 : (d == 92) = false := by
    rw [beq_eq_false_iff_ne]; intro e; subst e; first | (exact absurd hd (by decide)) | omega
  have e63 : (d == 63) = false := by
    rw [beq_eq_false_iff_ne]; intro e; subst e; first | (exact absurd hd (by decide)) | omega
  have e34 : (d == 34) = false := by
    rw [beq_eq_false_iff_ne]; intro e; subst e; first | (exact absurd hd (by decide)) | omega
  have e39 : (d == 39) = false := by
    rw [beq_eq_false_iff_ne]; intro e; subst e; first | (exact absurd hd (by decide)) | omega
  have e96 : (d == 96) = false := by
    rw [beq_eq_false_iff_ne]; intro e; subst e; first | (exact absurd hd (by decide)) | omega
  have e120 : (d == 120) = false := by
    rw [beq_eq_false_iff_ne]; intro e; subst e; first | (exact absurd hd (by decide)) | omega
  have e88 : (d == 88) = false := by
    rw [beq_eq_false_iff_ne]; intro e; subst e; first | (exact absurd hd (by decide)) | omega
  have e117 : (d == 117) = false := by
    rw [beq_eq_false_iff_ne]; intro e; subst e; first | (exact absurd hd (by decide)) | omega
  have e85 : (d == 85) = false := by
    rw [beq_eq_false_iff_ne]; intro e; subst e; first | (exact absurd hd (by decide)) | omega
  have e48 : (d == 48) = false := by
    rw [beq_eq_false_iff_ne]; intro e; subst e; first | (exact absurd hd (by decide)) | omega
  have e49 : (d == 49) = false := by
    rw [beq_eq_false_iff_ne]; intro e; subst e; first | (exact absurd hd (by decide)) | omega
  have e50 : (d == 50) = false := by
    rw [beq_eq_false_iff_ne]; intro e; subst e; first | (exact absurd hd (by decide)) | omega
  have e51 : (d == 51) = false := by
    rw [beq_eq_false_iff_ne]; intro e; subst e; first | (exact absurd hd (by decide)) | omega
  clear hrun hQ hPost hgood hcalm hst hJ hr hnm hOK hPK hSL hc h92 hd hd2 hd3 hd4
  cases np with
  | false =>
    obtain ⟨h1, h2⟩ := HRUN.out.strict
    subst h1; subst h2
    clear HRUN
    unfold QFrame
    conv => arg 2; whnf
    go_wp2_with fail
    refine (HOK2.out _ HQ.out).mono ?_
    rintro e w1 ⟨rfl, hQ1⟩
    clear HQ; have HQ := Lib.hid hQ1; clear hQ1
    go_wp2_with fail
    refine (HSL2.out _ HQ.out).mono ?_
    rintro e w1 ⟨rfl, hQ1⟩
    clear HQ; have HQ := Lib.hid hQ1; clear hQ1
    go_wp2_with fail
    refine (HPK2.out _ HQ.out).mono ?_
    rintro e w1 ⟨rfl, hQ1⟩
    clear HQ; have HQ := Lib.hid hQ1; clear hQ1
    go_wp2_with fail
    refine (HOK3.out _ HQ.out).mono ?_
    rintro e w1 ⟨rfl, hQ1⟩
    clear HQ; have HQ := Lib.hid hQ1; clear hQ1
    go_wp2_with fail
    refine (HPK3.out _ HQ.out).mono ?_
    rintro e w1 ⟨rfl, hQ1⟩
    clear HQ; have HQ := Lib.hid hQ1; clear hQ1
    go_wp2_with fail
    obtain ⟨c0, c9, c1⟩ := HQ.out.cur.lex.rd
    go_still_tail 14, (by kernel_rfl)
    clear c0 c9 c1
    change wpList _ _ _ _ _ (w1.drewN 1)
    have HQ2 := Lib.hid (HQ.out.drewN 1)
    clear HQ
    generalize w1.drewN 1 = w2 at *
    obtain ⟨c0, c9, c1⟩ := HQ2.out.cur.lex.rd
    go_wp2_with fail
    refine (panicfAtQ HQ2.out i (i + 2) _ _ _ (by omega) (by omega) (by omega) (by omega)).mono ?_
    rintro e w9 ⟨EB, rfl, hE⟩
    have HE := Lib.hid hE; clear hE
    go_wp2_with fail
    exact ⟨rfl, HPost.out _ _ (QReadN.fault ⟨EB, rfl, HE.out⟩)⟩
  | true =>
    have HBAD := Lib.hid HRUN.out.err
    clear HRUN
    unfold QFrame
    conv => arg 2; whnf
    go_wp2_with fail
    refine (HOK2.out _ HQ.out).mono ?_
    rintro e w1 ⟨rfl, hQ1⟩
    clear HQ; have HQ := Lib.hid hQ1; clear hQ1
    go_wp2_with fail
    refine (HSL2.out _ HQ.out).mono ?_
    rintro e w1 ⟨rfl, hQ1⟩
    clear HQ; have HQ := Lib.hid hQ1; clear hQ1
    go_wp2_with fail
    refine (HPK2.out _ HQ.out).mono ?_
    rintro e w1 ⟨rfl, hQ1⟩
    clear HQ; have HQ := Lib.hid hQ1; clear hQ1
    go_wp2_with fail
    refine (HOK3.out _ HQ.out).mono ?_
    rintro e w1 ⟨rfl, hQ1⟩
    clear HQ; have HQ := Lib.hid hQ1; clear hQ1
    go_wp2_with fail
    refine (HPK3.out _ HQ.out).mono ?_
    rintro e w1 ⟨rfl, hQ1⟩
    clear HQ; have HQ := Lib.hid hQ1; clear hQ1
    go_wp2_with fail
    refine Handed.intro (r.length - (i + 1 + 1)) (by omega) ?_
    exact HJ.out _ _ _ (QInv.of acc _ rfl rfl rfl rfl rfl rfl rfl rfl rfl (by show _ = _; rfl) rfl rfl (by omega) (by omega) HQ.out (Link.loose HBAD.out))
end Go.Proofs.YtcelnnjjakiehaaGreatDoor
