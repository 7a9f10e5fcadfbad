/-
  The letters ahead of a quotation mark.
-/
import Derived.Test.YtcelnnjjakiehaaGreatDoorTokF
import Derived.Test.YtcelnnjjakiehaaGreatDoorLit
import Derived.Test.YtcelnnjjakiehaaGreatDoorTok3
import Derived.WalkMore
namespace Go.Proofs.YtcelnnjjakiehaaGreatDoor
open Go.RowKit
set_option linter.unusedVariables false
set_option maxRecDepth 1000000
set_option maxHeartbeats 16000000


def allLoops : Code → List Code
  | .loop c => c :: allLoops c
  | .seq a b => allLoops a ++ allLoops b
  | .block _ c => allLoops c
  | .scope c => allLoops c
  | .cond _ a b => allLoops a ++ allLoops b
  | _ => []
noncomputable def tbody9 : Code := ((Tryz.f52.body.map allLoops).getD []).getD 1 .skip
/-- which function reads a quoted text behind its letters -/
def litF (by_ raw : Bool) : Nat := bif by_ then (bif raw then 72 else 73) else (bif raw then 74 else 75)
theorem pfx_in (r : List UInt8) (i : Nat) (by_ ra : Bool) (h3 : i < 3) (hl : i < r.length) : pfx r (3 - i) i by_ ra =
    if !by_ && (isAt r i 66 || isAt r i 98) then pfx r (3 - (i + 1)) (i + 1) true ra
    else if !ra && (isAt r i 82 || isAt r i 114) then pfx r (3 - (i + 1)) (i + 1) by_ true
    else if isAt r i 34 || isAt r i 39 then some (i, by_, ra) else none := by
  rw [show 3 - i = (3 - (i + 1)) + 1 from by omega]
  conv => lhs; unfold pfx
  rw [if_pos hl]
def PInv (W w0 : World) (lb fb : Nat) (s : ByteArray) (x : LexSt) (np : Bool) (r : List UInt8) (P : Option (Nat × Bool × Bool)) (g : Nat) (a : Act) (w : World) : Prop :=
  ∃ (t : Nat → Value) (by_ ra : Bool) (i : Nat), a = TF9 t lb np by_ ra i ∧ g = 3 - i ∧ i ≤ 3 ∧ pfx r (3 - i) i by_ ra = P ∧ Cur W w0 lb fb s x w
theorem tk_pfx {W w0 w : World} {lb fb : Nat} {s : ByteArray} {x : LexSt} {r : List UInt8} {np : Bool} {P : Option (Nat × Bool × Bool)} {RS : Rs} (t : Nat → Value) (by_ ra : Bool) (i : Nat) (hi3 : i ≤ 3) (hP : pfx r (3 - i) i by_ ra = P) (h : Cur W w0 lb fb s x w) (hr : s.data.toList.drop x.pos = r) {Kx : Act → World → Prop}
    (hKx : P = none → ∀ (l : List Value) (hll : l.length = 464) (h0 : l.getD 0 undef = .pointer (some ⟨lb, 0, none⟩)) (h1 : l.getD 1 undef = .bool np) w', Cur W w0 lb fb s x w' → Kx ⟨l.toArray, []⟩ w')
    (hLit : ∀ i by_ ra, P = some (i, by_, ra) → ∀ w1, Cur W w0 lb fb s { x with pos := x.pos + i } w1 → Calls Tryz.prog (litF by_ ra) #[.pointer (some ⟨lb, 0, none⟩), .bool np] w1 (ReadN W w0 lb fb s x np RS))
    (J : Nat → Act → World → Prop) (K : Act → World → Prop) (hJ : ∀ g a w, PInv W w0 lb fb s x np r P g a w → J g a w) (hK : ∀ a w, Handed J (3 - i) a w → K a w) :
    Code.wp Tryz.prog tbody9 (Exit.then K (Exit.inBlock 9 (Exit.noGoto (Exit.inBlock 0 (Exit.then Kx (bodyPost Tryz.prog Tryz.f52 (ReadN W w0 lb fb s x np RS))))))) (TF9 t lb np by_ ra i) w := by
  have hpos := h.pos
  have hsz := h.sz
  have hrl : r.length = s.size - x.pos := by rw [← hr]; exact h.len
  have HOK : Hid (∀ w1, Cur W w0 lb fb s x w1 → Calls Tryz.prog 63 #[.pointer (some ⟨lb, 0, none⟩), .int .i64 (i : Int)] w1 (Did W w0 lb fb s (.bool (decide (i < r.length))) x)) := Lib.hid (fun w1 h1 => by have := peekOkR h1 i i rfl (by omega); rw [hr] at this; exact this)
  have HIS : Hid (∀ w1, Cur W w0 lb fb s x w1 → ∀ c : Int, Calls Tryz.prog 61 #[.pointer (some ⟨lb, 0, none⟩), .int .i64 (i : Int), .int .u8 c] w1 (Did W w0 lb fb s (.bool (isAt r i c)) x)) := Lib.hid (fun w1 h1 c => by have := peekIsR h1 i i c rfl (by omega); rw [hr] at this; exact this)
  have HSN : Hid (i ≤ r.length → ∀ w1, Cur W w0 lb fb s x w1 → Calls Tryz.prog 60 #[.pointer (some ⟨lb, 0, none⟩), .int .i64 (i : Int)] w1 (Did W w0 lb fb s (.tuple #[]) { x with pos := x.pos + i })) := Lib.hid (fun hh w1 h1 => skipNR h1 i _ rfl (by omega))
  have HC := Lib.hid h; have HKx := Lib.hid hKx; have HLit := Lib.hid hLit; have HJ := Lib.hid hJ
  clear h hr hKx hLit hJ
  by_cases h3 : i < 3
  · have hI3 : decide ((i : Int) < 3) = true := by simp; omega
    by_cases hl : i < r.length
    · rw [pfx_in r i by_ ra h3 hl] at hP
      rw [show decide (i < r.length) = true from by simpa using hl] at HOK
      generalize hq66 : isAt r i 66 = q66 at hP
      generalize hq98 : isAt r i 98 = q98 at hP
      generalize hq82 : isAt r i 82 = q82 at hP
      generalize hq114 : isAt r i 114 = q114 at hP
      generalize hq34 : isAt r i 34 = q34 at hP
      generalize hq39 : isAt r i 39 = q39 at hP
      have H66 : Hid (∀ w1, Cur W w0 lb fb s x w1 → Calls Tryz.prog 61 #[.pointer (some ⟨lb, 0, none⟩), .int .i64 (i : Int), .int .u8 66] w1 (Did W w0 lb fb s (.bool q66) x)) := Lib.hid (fun w1 h1 => by have := HIS.out w1 h1 66; rw [hq66] at this; exact this)
      have H98 : Hid (∀ w1, Cur W w0 lb fb s x w1 → Calls Tryz.prog 61 #[.pointer (some ⟨lb, 0, none⟩), .int .i64 (i : Int), .int .u8 98] w1 (Did W w0 lb fb s (.bool q98) x)) := Lib.hid (fun w1 h1 => by have := HIS.out w1 h1 98; rw [hq98] at this; exact this)
      have H82 : Hid (∀ w1, Cur W w0 lb fb s x w1 → Calls Tryz.prog 61 #[.pointer (some ⟨lb, 0, none⟩), .int .i64 (i : Int), .int .u8 82] w1 (Did W w0 lb fb s (.bool q82) x)) := Lib.hid (fun w1 h1 => by have := HIS.out w1 h1 82; rw [hq82] at this; exact this)
      have H114 : Hid (∀ w1, Cur W w0 lb fb s x w1 → Calls Tryz.prog 61 #[.pointer (some ⟨lb, 0, none⟩), .int .i64 (i : Int), .int .u8 114] w1 (Did W w0 lb fb s (.bool q114) x)) := Lib.hid (fun w1 h1 => by have := HIS.out w1 h1 114; rw [hq114] at this; exact this)
      have H34 : Hid (∀ w1, Cur W w0 lb fb s x w1 → Calls Tryz.prog 61 #[.pointer (some ⟨lb, 0, none⟩), .int .i64 (i : Int), .int .u8 34] w1 (Did W w0 lb fb s (.bool q34) x)) := Lib.hid (fun w1 h1 => by have := HIS.out w1 h1 34; rw [hq34] at this; exact this)
      have H39 : Hid (∀ w1, Cur W w0 lb fb s x w1 → Calls Tryz.prog 61 #[.pointer (some ⟨lb, 0, none⟩), .int .i64 (i : Int), .int .u8 39] w1 (Did W w0 lb fb s (.bool q39) x)) := Lib.hid (fun w1 h1 => by have := HIS.out w1 h1 39; rw [hq39] at this; exact this)
      clear HIS hq66 hq98 hq82 hq114 hq34 hq39
      cases by_ with
      | true =>
        cases ra with
        | true =>
          cases q34 with
          | true =>
            have hP : some (i, true, true) = P := by simpa using hP
            have HP := Lib.hid hP; clear hP
            unfold TF9
            conv => arg 2; whnf
            go_wp2_with fail
            refine (HOK.out _ HC.out).mono ?_
            rintro e w1 ⟨rfl, hC1⟩
            clear HC; have HC := Lib.hid hC1; clear hC1
            go_wp2_with fail
            refine (H34.out _ HC.out).mono ?_
            rintro e w1 ⟨rfl, hC1⟩
            clear HC; have HC := Lib.hid hC1; clear hC1
            go_wp2_with fail
            refine (HSN.out (Nat.le_of_lt hl) _ HC.out).mono ?_
            rintro e w1 ⟨rfl, hC1⟩
            clear HC; have HC := Lib.hid hC1; clear hC1
            have HL : Hid (∀ w1, Cur W w0 lb fb s { x with pos := x.pos + i } w1 → Calls Tryz.prog 72 #[.pointer (some ⟨lb, 0, none⟩), .bool np] w1 (ReadN W w0 lb fb s x np RS)) := Lib.hid (HLit.out i true true HP.out.symm)
            go_wp2_with fail
            refine (HL.out _ HC.out).mono ?_
            intro e w2 hrd
            have hen := hrd.ends
            have HRD := Lib.hid hrd; clear hrd
            rcases hen with rfl | ⟨cc, rfl⟩
            · go_wp2_with fail
              go_end0
              exact HRD.out
            · go_wp2_with fail
              exact ⟨rfl, HRD.out⟩
          | false =>
            cases q39 with
            | true =>
              have hP : some (i, true, true) = P := by simpa using hP
              have HP := Lib.hid hP; clear hP
              unfold TF9
              conv => arg 2; whnf
              go_wp2_with fail
              refine (HOK.out _ HC.out).mono ?_
              rintro e w1 ⟨rfl, hC1⟩
              clear HC; have HC := Lib.hid hC1; clear hC1
              go_wp2_with fail
              refine (H34.out _ HC.out).mono ?_
              rintro e w1 ⟨rfl, hC1⟩
              clear HC; have HC := Lib.hid hC1; clear hC1
              go_wp2_with fail
              refine (H39.out _ HC.out).mono ?_
              rintro e w1 ⟨rfl, hC1⟩
              clear HC; have HC := Lib.hid hC1; clear hC1
              go_wp2_with fail
              refine (HSN.out (Nat.le_of_lt hl) _ HC.out).mono ?_
              rintro e w1 ⟨rfl, hC1⟩
              clear HC; have HC := Lib.hid hC1; clear hC1
              have HL : Hid (∀ w1, Cur W w0 lb fb s { x with pos := x.pos + i } w1 → Calls Tryz.prog 72 #[.pointer (some ⟨lb, 0, none⟩), .bool np] w1 (ReadN W w0 lb fb s x np RS)) := Lib.hid (HLit.out i true true HP.out.symm)
              go_wp2_with fail
              refine (HL.out _ HC.out).mono ?_
              intro e w2 hrd
              have hen := hrd.ends
              have HRD := Lib.hid hrd; clear hrd
              rcases hen with rfl | ⟨cc, rfl⟩
              · go_wp2_with fail
                go_end0
                exact HRD.out
              · go_wp2_with fail
                exact ⟨rfl, HRD.out⟩
            | false =>
              have hP : none = P := by simpa using hP
              have HP := Lib.hid hP; clear hP
              unfold TF9
              conv => arg 2; whnf
              go_wp2_with fail
              refine (HOK.out _ HC.out).mono ?_
              rintro e w1 ⟨rfl, hC1⟩
              clear HC; have HC := Lib.hid hC1; clear hC1
              go_wp2_with fail
              refine (H34.out _ HC.out).mono ?_
              rintro e w1 ⟨rfl, hC1⟩
              clear HC; have HC := Lib.hid hC1; clear hC1
              go_wp2_with fail
              refine (H39.out _ HC.out).mono ?_
              rintro e w1 ⟨rfl, hC1⟩
              clear HC; have HC := Lib.hid hC1; clear hC1
              go_wp2_with fail
              exact HKx.out HP.out.symm _ rfl rfl rfl _ HC.out
        | false =>
          cases q82 with
          | true =>
            have hP : pfx r (3 - (i + 1)) (i + 1) true true = P := by simpa using hP
            have HP := Lib.hid hP; clear hP
            unfold TF9
            conv => arg 2; whnf
            go_wp2_with fail
            refine (HOK.out _ HC.out).mono ?_
            rintro e w1 ⟨rfl, hC1⟩
            clear HC; have HC := Lib.hid hC1; clear hC1
            go_wp2_with fail
            refine (H82.out _ HC.out).mono ?_
            rintro e w1 ⟨rfl, hC1⟩
            clear HC; have HC := Lib.hid hC1; clear hC1
            go_wp2_with fail
            refine Handed.intro (3 - (i + 1)) (by omega) ?_
            exact HJ.out _ _ _ ⟨_, true, true, i + 1, TF9.of _ rfl rfl rfl rfl rfl rfl, rfl, by omega, HP.out, HC.out⟩
          | false =>
            cases q114 with
            | true =>
              have hP : pfx r (3 - (i + 1)) (i + 1) true true = P := by simpa using hP
              have HP := Lib.hid hP; clear hP
              unfold TF9
              conv => arg 2; whnf
              go_wp2_with fail
              refine (HOK.out _ HC.out).mono ?_
              rintro e w1 ⟨rfl, hC1⟩
              clear HC; have HC := Lib.hid hC1; clear hC1
              go_wp2_with fail
              refine (H82.out _ HC.out).mono ?_
              rintro e w1 ⟨rfl, hC1⟩
              clear HC; have HC := Lib.hid hC1; clear hC1
              go_wp2_with fail
              refine (H114.out _ HC.out).mono ?_
              rintro e w1 ⟨rfl, hC1⟩
              clear HC; have HC := Lib.hid hC1; clear hC1
              go_wp2_with fail
              refine Handed.intro (3 - (i + 1)) (by omega) ?_
              exact HJ.out _ _ _ ⟨_, true, true, i + 1, TF9.of _ rfl rfl rfl rfl rfl rfl, rfl, by omega, HP.out, HC.out⟩
            | false =>
              cases q34 with
              | true =>
                have hP : some (i, true, false) = P := by simpa using hP
                have HP := Lib.hid hP; clear hP
                unfold TF9
                conv => arg 2; whnf
                go_wp2_with fail
                refine (HOK.out _ HC.out).mono ?_
                rintro e w1 ⟨rfl, hC1⟩
                clear HC; have HC := Lib.hid hC1; clear hC1
                go_wp2_with fail
                refine (H82.out _ HC.out).mono ?_
                rintro e w1 ⟨rfl, hC1⟩
                clear HC; have HC := Lib.hid hC1; clear hC1
                go_wp2_with fail
                refine (H114.out _ HC.out).mono ?_
                rintro e w1 ⟨rfl, hC1⟩
                clear HC; have HC := Lib.hid hC1; clear hC1
                go_wp2_with fail
                refine (H34.out _ HC.out).mono ?_
                rintro e w1 ⟨rfl, hC1⟩
                clear HC; have HC := Lib.hid hC1; clear hC1
                go_wp2_with fail
                refine (HSN.out (Nat.le_of_lt hl) _ HC.out).mono ?_
                rintro e w1 ⟨rfl, hC1⟩
                clear HC; have HC := Lib.hid hC1; clear hC1
                have HL : Hid (∀ w1, Cur W w0 lb fb s { x with pos := x.pos + i } w1 → Calls Tryz.prog 73 #[.pointer (some ⟨lb, 0, none⟩), .bool np] w1 (ReadN W w0 lb fb s x np RS)) := Lib.hid (HLit.out i true false HP.out.symm)
                go_wp2_with fail
                refine (HL.out _ HC.out).mono ?_
                intro e w2 hrd
                have hen := hrd.ends
                have HRD := Lib.hid hrd; clear hrd
                rcases hen with rfl | ⟨cc, rfl⟩
                · go_wp2_with fail
                  go_end0
                  exact HRD.out
                · go_wp2_with fail
                  exact ⟨rfl, HRD.out⟩
              | false =>
                cases q39 with
                | true =>
                  have hP : some (i, true, false) = P := by simpa using hP
                  have HP := Lib.hid hP; clear hP
                  unfold TF9
                  conv => arg 2; whnf
                  go_wp2_with fail
                  refine (HOK.out _ HC.out).mono ?_
                  rintro e w1 ⟨rfl, hC1⟩
                  clear HC; have HC := Lib.hid hC1; clear hC1
                  go_wp2_with fail
                  refine (H82.out _ HC.out).mono ?_
                  rintro e w1 ⟨rfl, hC1⟩
                  clear HC; have HC := Lib.hid hC1; clear hC1
                  go_wp2_with fail
                  refine (H114.out _ HC.out).mono ?_
                  rintro e w1 ⟨rfl, hC1⟩
                  clear HC; have HC := Lib.hid hC1; clear hC1
                  go_wp2_with fail
                  refine (H34.out _ HC.out).mono ?_
                  rintro e w1 ⟨rfl, hC1⟩
                  clear HC; have HC := Lib.hid hC1; clear hC1
                  go_wp2_with fail
                  refine (H39.out _ HC.out).mono ?_
                  rintro e w1 ⟨rfl, hC1⟩
                  clear HC; have HC := Lib.hid hC1; clear hC1
                  go_wp2_with fail
                  refine (HSN.out (Nat.le_of_lt hl) _ HC.out).mono ?_
                  rintro e w1 ⟨rfl, hC1⟩
                  clear HC; have HC := Lib.hid hC1; clear hC1
                  have HL : Hid (∀ w1, Cur W w0 lb fb s { x with pos := x.pos + i } w1 → Calls Tryz.prog 73 #[.pointer (some ⟨lb, 0, none⟩), .bool np] w1 (ReadN W w0 lb fb s x np RS)) := Lib.hid (HLit.out i true false HP.out.symm)
                  go_wp2_with fail
                  refine (HL.out _ HC.out).mono ?_
                  intro e w2 hrd
                  have hen := hrd.ends
                  have HRD := Lib.hid hrd; clear hrd
                  rcases hen with rfl | ⟨cc, rfl⟩
                  · go_wp2_with fail
                    go_end0
                    exact HRD.out
                  · go_wp2_with fail
                    exact ⟨rfl, HRD.out⟩
                | false =>
                  have hP : none = P := by simpa using hP
                  have HP := Lib.hid hP; clear hP
                  unfold TF9
                  conv => arg 2; whnf
                  go_wp2_with fail
                  refine (HOK.out _ HC.out).mono ?_
                  rintro e w1 ⟨rfl, hC1⟩
                  clear HC; have HC := Lib.hid hC1; clear hC1
                  go_wp2_with fail
                  refine (H82.out _ HC.out).mono ?_
                  rintro e w1 ⟨rfl, hC1⟩
                  clear HC; have HC := Lib.hid hC1; clear hC1
                  go_wp2_with fail
                  refine (H114.out _ HC.out).mono ?_
                  rintro e w1 ⟨rfl, hC1⟩
                  clear HC; have HC := Lib.hid hC1; clear hC1
                  go_wp2_with fail
                  refine (H34.out _ HC.out).mono ?_
                  rintro e w1 ⟨rfl, hC1⟩
                  clear HC; have HC := Lib.hid hC1; clear hC1
                  go_wp2_with fail
                  refine (H39.out _ HC.out).mono ?_
                  rintro e w1 ⟨rfl, hC1⟩
                  clear HC; have HC := Lib.hid hC1; clear hC1
                  go_wp2_with fail
                  exact HKx.out HP.out.symm _ rfl rfl rfl _ HC.out
      | false =>
        cases ra with
        | true =>
          cases q66 with
          | true =>
            have hP : pfx r (3 - (i + 1)) (i + 1) true true = P := by simpa using hP
            have HP := Lib.hid hP; clear hP
            unfold TF9
            conv => arg 2; whnf
            go_wp2_with fail
            refine (HOK.out _ HC.out).mono ?_
            rintro e w1 ⟨rfl, hC1⟩
            clear HC; have HC := Lib.hid hC1; clear hC1
            go_wp2_with fail
            refine (H66.out _ HC.out).mono ?_
            rintro e w1 ⟨rfl, hC1⟩
            clear HC; have HC := Lib.hid hC1; clear hC1
            go_wp2_with fail
            refine Handed.intro (3 - (i + 1)) (by omega) ?_
            exact HJ.out _ _ _ ⟨_, true, true, i + 1, TF9.of _ rfl rfl rfl rfl rfl rfl, rfl, by omega, HP.out, HC.out⟩
          | false =>
            cases q98 with
            | true =>
              have hP : pfx r (3 - (i + 1)) (i + 1) true true = P := by simpa using hP
              have HP := Lib.hid hP; clear hP
              unfold TF9
              conv => arg 2; whnf
              go_wp2_with fail
              refine (HOK.out _ HC.out).mono ?_
              rintro e w1 ⟨rfl, hC1⟩
              clear HC; have HC := Lib.hid hC1; clear hC1
              go_wp2_with fail
              refine (H66.out _ HC.out).mono ?_
              rintro e w1 ⟨rfl, hC1⟩
              clear HC; have HC := Lib.hid hC1; clear hC1
              go_wp2_with fail
              refine (H98.out _ HC.out).mono ?_
              rintro e w1 ⟨rfl, hC1⟩
              clear HC; have HC := Lib.hid hC1; clear hC1
              go_wp2_with fail
              refine Handed.intro (3 - (i + 1)) (by omega) ?_
              exact HJ.out _ _ _ ⟨_, true, true, i + 1, TF9.of _ rfl rfl rfl rfl rfl rfl, rfl, by omega, HP.out, HC.out⟩
            | false =>
              cases q34 with
              | true =>
                have hP : some (i, false, true) = P := by simpa using hP
                have HP := Lib.hid hP; clear hP
                unfold TF9
                conv => arg 2; whnf
                go_wp2_with fail
                refine (HOK.out _ HC.out).mono ?_
                rintro e w1 ⟨rfl, hC1⟩
                clear HC; have HC := Lib.hid hC1; clear hC1
                go_wp2_with fail
                refine (H66.out _ HC.out).mono ?_
                rintro e w1 ⟨rfl, hC1⟩
                clear HC; have HC := Lib.hid hC1; clear hC1
                go_wp2_with fail
                refine (H98.out _ HC.out).mono ?_
                rintro e w1 ⟨rfl, hC1⟩
                clear HC; have HC := Lib.hid hC1; clear hC1
                go_wp2_with fail
                refine (H34.out _ HC.out).mono ?_
                rintro e w1 ⟨rfl, hC1⟩
                clear HC; have HC := Lib.hid hC1; clear hC1
                go_wp2_with fail
                refine (HSN.out (Nat.le_of_lt hl) _ HC.out).mono ?_
                rintro e w1 ⟨rfl, hC1⟩
                clear HC; have HC := Lib.hid hC1; clear hC1
                have HL : Hid (∀ w1, Cur W w0 lb fb s { x with pos := x.pos + i } w1 → Calls Tryz.prog 74 #[.pointer (some ⟨lb, 0, none⟩), .bool np] w1 (ReadN W w0 lb fb s x np RS)) := Lib.hid (HLit.out i false true HP.out.symm)
                go_wp2_with fail
                refine (HL.out _ HC.out).mono ?_
                intro e w2 hrd
                have hen := hrd.ends
                have HRD := Lib.hid hrd; clear hrd
                rcases hen with rfl | ⟨cc, rfl⟩
                · go_wp2_with fail
                  go_end0
                  exact HRD.out
                · go_wp2_with fail
                  exact ⟨rfl, HRD.out⟩
              | false =>
                cases q39 with
                | true =>
                  have hP : some (i, false, true) = P := by simpa using hP
                  have HP := Lib.hid hP; clear hP
                  unfold TF9
                  conv => arg 2; whnf
                  go_wp2_with fail
                  refine (HOK.out _ HC.out).mono ?_
                  rintro e w1 ⟨rfl, hC1⟩
                  clear HC; have HC := Lib.hid hC1; clear hC1
                  go_wp2_with fail
                  refine (H66.out _ HC.out).mono ?_
                  rintro e w1 ⟨rfl, hC1⟩
                  clear HC; have HC := Lib.hid hC1; clear hC1
                  go_wp2_with fail
                  refine (H98.out _ HC.out).mono ?_
                  rintro e w1 ⟨rfl, hC1⟩
                  clear HC; have HC := Lib.hid hC1; clear hC1
                  go_wp2_with fail
                  refine (H34.out _ HC.out).mono ?_
                  rintro e w1 ⟨rfl, hC1⟩
                  clear HC; have HC := Lib.hid hC1; clear hC1
                  go_wp2_with fail
                  refine (H39.out _ HC.out).mono ?_
                  rintro e w1 ⟨rfl, hC1⟩
                  clear HC; have HC := Lib.hid hC1; clear hC1
                  go_wp2_with fail
                  refine (HSN.out (Nat.le_of_lt hl) _ HC.out).mono ?_
                  rintro e w1 ⟨rfl, hC1⟩
                  clear HC; have HC := Lib.hid hC1; clear hC1
                  have HL : Hid (∀ w1, Cur W w0 lb fb s { x with pos := x.pos + i } w1 → Calls Tryz.prog 74 #[.pointer (some ⟨lb, 0, none⟩), .bool np] w1 (ReadN W w0 lb fb s x np RS)) := Lib.hid (HLit.out i false true HP.out.symm)
                  go_wp2_with fail
                  refine (HL.out _ HC.out).mono ?_
                  intro e w2 hrd
                  have hen := hrd.ends
                  have HRD := Lib.hid hrd; clear hrd
                  rcases hen with rfl | ⟨cc, rfl⟩
                  · go_wp2_with fail
                    go_end0
                    exact HRD.out
                  · go_wp2_with fail
                    exact ⟨rfl, HRD.out⟩
                | false =>
                  have hP : none = P := by simpa using hP
                  have HP := Lib.hid hP; clear hP
                  unfold TF9
                  conv => arg 2; whnf
                  go_wp2_with fail
                  refine (HOK.out _ HC.out).mono ?_
                  rintro e w1 ⟨rfl, hC1⟩
                  clear HC; have HC := Lib.hid hC1; clear hC1
                  go_wp2_with fail
                  refine (H66.out _ HC.out).mono ?_
                  rintro e w1 ⟨rfl, hC1⟩
                  clear HC; have HC := Lib.hid hC1; clear hC1
                  go_wp2_with fail
                  refine (H98.out _ HC.out).mono ?_
                  rintro e w1 ⟨rfl, hC1⟩
                  clear HC; have HC := Lib.hid hC1; clear hC1
                  go_wp2_with fail
                  refine (H34.out _ HC.out).mono ?_
                  rintro e w1 ⟨rfl, hC1⟩
                  clear HC; have HC := Lib.hid hC1; clear hC1
                  go_wp2_with fail
                  refine (H39.out _ HC.out).mono ?_
                  rintro e w1 ⟨rfl, hC1⟩
                  clear HC; have HC := Lib.hid hC1; clear hC1
                  go_wp2_with fail
                  exact HKx.out HP.out.symm _ rfl rfl rfl _ HC.out
        | false =>
          cases q66 with
          | true =>
            have hP : pfx r (3 - (i + 1)) (i + 1) true false = P := by simpa using hP
            have HP := Lib.hid hP; clear hP
            unfold TF9
            conv => arg 2; whnf
            go_wp2_with fail
            refine (HOK.out _ HC.out).mono ?_
            rintro e w1 ⟨rfl, hC1⟩
            clear HC; have HC := Lib.hid hC1; clear hC1
            go_wp2_with fail
            refine (H66.out _ HC.out).mono ?_
            rintro e w1 ⟨rfl, hC1⟩
            clear HC; have HC := Lib.hid hC1; clear hC1
            go_wp2_with fail
            refine Handed.intro (3 - (i + 1)) (by omega) ?_
            exact HJ.out _ _ _ ⟨_, true, false, i + 1, TF9.of _ rfl rfl rfl rfl rfl rfl, rfl, by omega, HP.out, HC.out⟩
          | false =>
            cases q98 with
            | true =>
              have hP : pfx r (3 - (i + 1)) (i + 1) true false = P := by simpa using hP
              have HP := Lib.hid hP; clear hP
              unfold TF9
              conv => arg 2; whnf
              go_wp2_with fail
              refine (HOK.out _ HC.out).mono ?_
              rintro e w1 ⟨rfl, hC1⟩
              clear HC; have HC := Lib.hid hC1; clear hC1
              go_wp2_with fail
              refine (H66.out _ HC.out).mono ?_
              rintro e w1 ⟨rfl, hC1⟩
              clear HC; have HC := Lib.hid hC1; clear hC1
              go_wp2_with fail
              refine (H98.out _ HC.out).mono ?_
              rintro e w1 ⟨rfl, hC1⟩
              clear HC; have HC := Lib.hid hC1; clear hC1
              go_wp2_with fail
              refine Handed.intro (3 - (i + 1)) (by omega) ?_
              exact HJ.out _ _ _ ⟨_, true, false, i + 1, TF9.of _ rfl rfl rfl rfl rfl rfl, rfl, by omega, HP.out, HC.out⟩
            | false =>
              cases q82 with
              | true =>
                have hP : pfx r (3 - (i + 1)) (i + 1) false true = P := by simpa using hP
                have HP := Lib.hid hP; clear hP
                unfold TF9
                conv => arg 2; whnf
                go_wp2_with fail
                refine (HOK.out _ HC.out).mono ?_
                rintro e w1 ⟨rfl, hC1⟩
                clear HC; have HC := Lib.hid hC1; clear hC1
                go_wp2_with fail
                refine (H66.out _ HC.out).mono ?_
                rintro e w1 ⟨rfl, hC1⟩
                clear HC; have HC := Lib.hid hC1; clear hC1
                go_wp2_with fail
                refine (H98.out _ HC.out).mono ?_
                rintro e w1 ⟨rfl, hC1⟩
                clear HC; have HC := Lib.hid hC1; clear hC1
                go_wp2_with fail
                refine (H82.out _ HC.out).mono ?_
                rintro e w1 ⟨rfl, hC1⟩
                clear HC; have HC := Lib.hid hC1; clear hC1
                go_wp2_with fail
                refine Handed.intro (3 - (i + 1)) (by omega) ?_
                exact HJ.out _ _ _ ⟨_, false, true, i + 1, TF9.of _ rfl rfl rfl rfl rfl rfl, rfl, by omega, HP.out, HC.out⟩
              | false =>
                cases q114 with
                | true =>
                  have hP : pfx r (3 - (i + 1)) (i + 1) false true = P := by simpa using hP
                  have HP := Lib.hid hP; clear hP
                  unfold TF9
                  conv => arg 2; whnf
                  go_wp2_with fail
                  refine (HOK.out _ HC.out).mono ?_
                  rintro e w1 ⟨rfl, hC1⟩
                  clear HC; have HC := Lib.hid hC1; clear hC1
                  go_wp2_with fail
                  refine (H66.out _ HC.out).mono ?_
                  rintro e w1 ⟨rfl, hC1⟩
                  clear HC; have HC := Lib.hid hC1; clear hC1
                  go_wp2_with fail
                  refine (H98.out _ HC.out).mono ?_
                  rintro e w1 ⟨rfl, hC1⟩
                  clear HC; have HC := Lib.hid hC1; clear hC1
                  go_wp2_with fail
                  refine (H82.out _ HC.out).mono ?_
                  rintro e w1 ⟨rfl, hC1⟩
                  clear HC; have HC := Lib.hid hC1; clear hC1
                  go_wp2_with fail
                  refine (H114.out _ HC.out).mono ?_
                  rintro e w1 ⟨rfl, hC1⟩
                  clear HC; have HC := Lib.hid hC1; clear hC1
                  go_wp2_with fail
                  refine Handed.intro (3 - (i + 1)) (by omega) ?_
                  exact HJ.out _ _ _ ⟨_, false, true, i + 1, TF9.of _ rfl rfl rfl rfl rfl rfl, rfl, by omega, HP.out, HC.out⟩
                | false =>
                  cases q34 with
                  | true =>
                    have hP : some (i, false, false) = P := by simpa using hP
                    have HP := Lib.hid hP; clear hP
                    unfold TF9
                    conv => arg 2; whnf
                    go_wp2_with fail
                    refine (HOK.out _ HC.out).mono ?_
                    rintro e w1 ⟨rfl, hC1⟩
                    clear HC; have HC := Lib.hid hC1; clear hC1
                    go_wp2_with fail
                    refine (H66.out _ HC.out).mono ?_
                    rintro e w1 ⟨rfl, hC1⟩
                    clear HC; have HC := Lib.hid hC1; clear hC1
                    go_wp2_with fail
                    refine (H98.out _ HC.out).mono ?_
                    rintro e w1 ⟨rfl, hC1⟩
                    clear HC; have HC := Lib.hid hC1; clear hC1
                    go_wp2_with fail
                    refine (H82.out _ HC.out).mono ?_
                    rintro e w1 ⟨rfl, hC1⟩
                    clear HC; have HC := Lib.hid hC1; clear hC1
                    go_wp2_with fail
                    refine (H114.out _ HC.out).mono ?_
                    rintro e w1 ⟨rfl, hC1⟩
                    clear HC; have HC := Lib.hid hC1; clear hC1
                    go_wp2_with fail
                    refine (H34.out _ HC.out).mono ?_
                    rintro e w1 ⟨rfl, hC1⟩
                    clear HC; have HC := Lib.hid hC1; clear hC1
                    go_wp2_with fail
                    refine (HSN.out (Nat.le_of_lt hl) _ HC.out).mono ?_
                    rintro e w1 ⟨rfl, hC1⟩
                    clear HC; have HC := Lib.hid hC1; clear hC1
                    have HL : Hid (∀ w1, Cur W w0 lb fb s { x with pos := x.pos + i } w1 → Calls Tryz.prog 75 #[.pointer (some ⟨lb, 0, none⟩), .bool np] w1 (ReadN W w0 lb fb s x np RS)) := Lib.hid (HLit.out i false false HP.out.symm)
                    go_wp2_with fail
                    refine (HL.out _ HC.out).mono ?_
                    intro e w2 hrd
                    have hen := hrd.ends
                    have HRD := Lib.hid hrd; clear hrd
                    rcases hen with rfl | ⟨cc, rfl⟩
                    · go_wp2_with fail
                      go_end0
                      exact HRD.out
                    · go_wp2_with fail
                      exact ⟨rfl, HRD.out⟩
                  | false =>
                    cases q39 with
                    | true =>
                      have hP : some (i, false, false) = P := by simpa using hP
                      have HP := Lib.hid hP; clear hP
                      unfold TF9
                      conv => arg 2; whnf
                      go_wp2_with fail
                      refine (HOK.out _ HC.out).mono ?_
                      rintro e w1 ⟨rfl, hC1⟩
                      clear HC; have HC := Lib.hid hC1; clear hC1
                      go_wp2_with fail
                      refine (H66.out _ HC.out).mono ?_
                      rintro e w1 ⟨rfl, hC1⟩
                      clear HC; have HC := Lib.hid hC1; clear hC1
                      go_wp2_with fail
                      refine (H98.out _ HC.out).mono ?_
                      rintro e w1 ⟨rfl, hC1⟩
                      clear HC; have HC := Lib.hid hC1; clear hC1
                      go_wp2_with fail
                      refine (H82.out _ HC.out).mono ?_
                      rintro e w1 ⟨rfl, hC1⟩
                      clear HC; have HC := Lib.hid hC1; clear hC1
                      go_wp2_with fail
                      refine (H114.out _ HC.out).mono ?_
                      rintro e w1 ⟨rfl, hC1⟩
                      clear HC; have HC := Lib.hid hC1; clear hC1
                      go_wp2_with fail
                      refine (H34.out _ HC.out).mono ?_
                      rintro e w1 ⟨rfl, hC1⟩
                      clear HC; have HC := Lib.hid hC1; clear hC1
                      go_wp2_with fail
                      refine (H39.out _ HC.out).mono ?_
                      rintro e w1 ⟨rfl, hC1⟩
                      clear HC; have HC := Lib.hid hC1; clear hC1
                      go_wp2_with fail
                      refine (HSN.out (Nat.le_of_lt hl) _ HC.out).mono ?_
                      rintro e w1 ⟨rfl, hC1⟩
                      clear HC; have HC := Lib.hid hC1; clear hC1
                      have HL : Hid (∀ w1, Cur W w0 lb fb s { x with pos := x.pos + i } w1 → Calls Tryz.prog 75 #[.pointer (some ⟨lb, 0, none⟩), .bool np] w1 (ReadN W w0 lb fb s x np RS)) := Lib.hid (HLit.out i false false HP.out.symm)
                      go_wp2_with fail
                      refine (HL.out _ HC.out).mono ?_
                      intro e w2 hrd
                      have hen := hrd.ends
                      have HRD := Lib.hid hrd; clear hrd
                      rcases hen with rfl | ⟨cc, rfl⟩
                      · go_wp2_with fail
                        go_end0
                        exact HRD.out
                      · go_wp2_with fail
                        exact ⟨rfl, HRD.out⟩
                    | false =>
                      have hP : none = P := by simpa using hP
                      have HP := Lib.hid hP; clear hP
                      unfold TF9
                      conv => arg 2; whnf
                      go_wp2_with fail
                      refine (HOK.out _ HC.out).mono ?_
                      rintro e w1 ⟨rfl, hC1⟩
                      clear HC; have HC := Lib.hid hC1; clear hC1
                      go_wp2_with fail
                      refine (H66.out _ HC.out).mono ?_
                      rintro e w1 ⟨rfl, hC1⟩
                      clear HC; have HC := Lib.hid hC1; clear hC1
                      go_wp2_with fail
                      refine (H98.out _ HC.out).mono ?_
                      rintro e w1 ⟨rfl, hC1⟩
                      clear HC; have HC := Lib.hid hC1; clear hC1
                      go_wp2_with fail
                      refine (H82.out _ HC.out).mono ?_
                      rintro e w1 ⟨rfl, hC1⟩
                      clear HC; have HC := Lib.hid hC1; clear hC1
                      go_wp2_with fail
                      refine (H114.out _ HC.out).mono ?_
                      rintro e w1 ⟨rfl, hC1⟩
                      clear HC; have HC := Lib.hid hC1; clear hC1
                      go_wp2_with fail
                      refine (H34.out _ HC.out).mono ?_
                      rintro e w1 ⟨rfl, hC1⟩
                      clear HC; have HC := Lib.hid hC1; clear hC1
                      go_wp2_with fail
                      refine (H39.out _ HC.out).mono ?_
                      rintro e w1 ⟨rfl, hC1⟩
                      clear HC; have HC := Lib.hid hC1; clear hC1
                      go_wp2_with fail
                      exact HKx.out HP.out.symm _ rfl rfl rfl _ HC.out
    · have hP : none = P := by
        rw [← hP, show 3 - i = (2 - i) + 1 from by omega]
        unfold pfx
        rw [if_neg hl]
      rw [show decide (i < r.length) = false from by simpa using hl] at HOK
      have HP := Lib.hid hP; clear hP
      unfold TF9
      conv => arg 2; whnf
      go_wp2_with fail
      refine (HOK.out _ HC.out).mono ?_
      rintro e w1 ⟨rfl, hC1⟩
      clear HC; have HC := Lib.hid hC1; clear hC1
      go_wp2_with fail
      exact HKx.out HP.out.symm _ rfl rfl rfl _ HC.out
  · have hI3 : decide ((i : Int) < 3) = false := by simp; omega
    have hP : none = P := by
      rw [← hP, show 3 - i = 0 from by omega]
      rfl
    have HP := Lib.hid hP; clear hP
    unfold TF9
    conv => arg 2; whnf
    go_wp2_with fail
    exact HKx.out HP.out.symm _ rfl rfl rfl _ HC.out
end Go.Proofs.YtcelnnjjakiehaaGreatDoor
