/-
  The contract of consumeNumber.
-/
import Derived.Test.YtcelnnjjakiehaaGreatDoorLex2
namespace Go.Proofs.YtcelnnjjakiehaaGreatDoor
open Go.RowKit
set_option linter.unusedVariables false
set_option maxRecDepth 20000
set_option maxHeartbeats 1000000

set_option maxHeartbeats 16000000 in
theorem consumeNumber_any {W w0 w : World} {lb fb : Nat} {s : ByteArray} {x : LexSt} (h : Cur W w0 lb fb s x w) (np : Bool) (hx : x.text = ⟨#[]⟩ ∧ x.base = 0) :
    Calls Tryz.prog 69 #[.pointer (some ⟨lb, 0, none⟩), .bool np] w (Read W w0 lb fb s x (number np (s.data.toList.drop x.pos))) := by
  have hpos := h.pos
  have hrl := h.len
  have hIs := fun w1 (h1 : Cur W w0 lb fb s x w1) (k : Nat) (i c : Int) (hi : i = k) (hk : k ≤ 2000000) => peekIsR h1 k i c hi (by omega)
  have hOk := fun w1 (h1 : Cur W w0 lb fb s x w1) (k : Nat) (i : Int) (hi : i = k) (hk : k ≤ 2000000) => peekOkR h1 k i hi (by omega)
  have hPk := fun w1 (h1 : Cur W w0 lb fb s x w1) (k : Nat) (i : Int) (hi : i = k) (hk : k < (s.data.toList.drop x.pos).length) => peekR h1 k i hi hk
  have hsz := h.sz
  have HP : Hid (∀ e w', Read W w0 lb fb s x (number np (s.data.toList.drop x.pos)) e w' → Read W w0 lb fb s x (number np (s.data.toList.drop x.pos)) e w') := Lib.hid (fun _ _ hh => hh)
  generalize hPost : Read W w0 lb fb s x (number np (s.data.toList.drop x.pos)) = Post
  rw [hPost] at HP
  have HPost := Lib.hid hPost
  clear hPost HP
  generalize hr : s.data.toList.drop x.pos = r at *
  have HIs := Lib.hid hIs; have HOk := Lib.hid hOk; have HPk := Lib.hid hPk; have H := Lib.hid h; have HX := Lib.hid hx
  have HRr := Lib.hid hr
  clear hIs hOk hPk h hr hx
  go_enter Tryz.func69, Tryz.ntmps69
  go_upto_region 2 with fail
  go_cut [24] (fun s24 wx => s24 = .bool (numHex r) ∧ Cur W w0 lb fb s x wx)
  case first =>
    have HC := H
    have h1 := fun w1 h1 => HIs.out w1 h1 0 0 48 rfl (by omega)
    have h2 := fun w1 h1 => HIs.out w1 h1 1 1 120 rfl (by omega)
    have h3 := fun w1 h1 => HIs.out w1 h1 1 1 88 rfl (by omega)
    have hH : numHex r = (isAt r 0 48 && (isAt r 1 120 || isAt r 1 88)) := rfl
    generalize isAt r 0 48 = a at *
    generalize isAt r 1 120 = b at *
    generalize isAt r 1 88 = c at *
    have H1 := Lib.hid h1; have H2 := Lib.hid h2; have H3 := Lib.hid h3; have HH := Lib.hid hH
    clear h1 h2 h3 hH
    cases a <;> cases b <;> cases c
    all_goals
      go_wp2_with fail
      repeat (
        (first | (with_reducible (refine (H1.out _ HC.out).mono ?_)) | (with_reducible (refine (H2.out _ HC.out).mono ?_)) | (with_reducible (refine (H3.out _ HC.out).mono ?_)))
        rintro e w1 ⟨rfl, hC1⟩
        clear HC; have HC := Lib.hid hC1; clear hC1
        go_wp2_with fail)
      go_meet
    all_goals exact ⟨by rw [HH.out]; rfl, HC.out⟩
  case rest =>
    obtain ⟨rfl, hcC⟩ := hcut
    have HC := Lib.hid hcC; clear hcC H
    have hn : numEnd r = numRun r (numHex r) (r.length + 1) (if numHex r then 2 else 0) true false := rfl
    have h2 : numHex r = true → 2 ≤ r.length := by
      intro hh
      unfold numHex at hh
      rcases Nat.lt_or_ge 1 r.length with h | h
      · exact h
      · rw [isAt_out r 1 _ h, isAt_out r 1 _ h] at hh; simp at hh
    have hnum : number np r = if (numEnd r).1 < r.length ∧ idPart (byteAt r (numEnd r).1) then
        (if np then Rs.ok ⟨kBad, [], if (numEnd r).2 then (if numHex r then 16 else 10) else 0, (numEnd r).1, none⟩ else .err (numEnd r).1 (numEnd r).1)
        else .ok ⟨if (numEnd r).2 then kInt else kFloat, [], if (numEnd r).2 then (if numHex r then 16 else 10) else 0, (numEnd r).1, none⟩ := rfl
    generalize numHex r = hx at *
    generalize hR : numEnd r = R at *
    have hs0 : NumAt r hx R (if hx then 2 else 0) true false := ⟨r.length + 1, by omega, hn.symm⟩
    have HN := Lib.hid hnum; have HS0 := Lib.hid hs0
    clear hn hnum hs0 hR
    have hk0 : (if hx then 2 else 0) ≤ r.length := by split; (exact h2 (by assumption)); omega
    have HK0 := Lib.hid hk0
    clear h2 hk0
    cases hx with
    | false =>
      have HS1 : Hid (NumAt r false R 0 true false) := Lib.hid HS0.out
      clear HS0 HK0
      go_upto_block 0 with fail
      go_cut [4, 6] (fun s4 s6 wx => s4 = .int .i64 (R.1 : Int) ∧ s6 = .bool R.2 ∧ R.1 ≤ r.length ∧ Cur W w0 lb fb s x wx)
      case first =>
        go_wp2_with fail
        go_loopg [4, 6, 7] r.length (fun g s4 s6 s7 wx => ∃ (k : Nat) (it ex : Bool), k ≤ r.length ∧ g = r.length - k ∧ s4 = .int .i64 k ∧ s6 = .bool it ∧ s7 = .bool ex ∧ NumAt r false R k it ex ∧ Cur W w0 lb fb s x wx)
        case atStart => exact ⟨0, true, false, Nat.zero_le _, rfl, rfl, rfl, rfl, HS1.out, HC.out⟩
        case round =>
          obtain ⟨k, it, ex, hk, rfl, rfl, rfl, rfl, hN, hC⟩ := hrel
          clear HC; have HC := Lib.hid hC; clear hC
          have hst : numStep r false k it ex = if k < r.length then (if dig (byteAt r k) then some (k + 1, it, ex) else if !ex && it && decide (byteAt r k = 46) then some (k + 1, false, ex) else if !ex && (decide (byteAt r k = 69) || decide (byteAt r k = 101)) then (if decide (expAt r k < r.length) && dig (byteAt r (expAt r k)) then some (expAt r k, false, true) else none) else none) else none := by
            unfold numStep; simp
          by_cases hlt : k < r.length
          · rw [if_pos hlt] at hst
            have hok : Hid (∀ w1, Cur W w0 lb fb s x w1 → Calls Tryz.prog 63 #[.pointer (some ⟨lb, 0, none⟩), .int .i64 k] w1 (Did W w0 lb fb s (.bool true) x)) := by
              refine Lib.hid (fun w1 h1 => ?_)
              have := HOk.out w1 h1 k _ rfl (by omega)
              rw [show decide (k < r.length) = true from by simpa using hlt] at this; exact this
            have hpk : Hid (∀ w1, Cur W w0 lb fb s x w1 → Calls Tryz.prog 65 #[.pointer (some ⟨lb, 0, none⟩), .int .i64 k] w1 (Did W w0 lb fb s (.int .u8 (byteAt r k)) x)) := Lib.hid (fun w1 h1 => HPk.out w1 h1 k _ rfl hlt)
            have hdg : Hid (∀ w1, Calls Tryz.prog 68 #[.int .u8 (byteAt r k)] w1 fun e w' => e = .returned (.bool (dig (byteAt r k))) ∧ w1 = w') := Lib.hid (fun w1 => isDigit_any _ w1)
            have hbd := byteAt_bd r k
            generalize byteAt r k = c at *
            cases hdc : dig c with
            | true =>
              rw [hdc] at hdg hst
              rw [if_pos rfl] at hst
              have HN := Lib.hid (hN.go hk hst); clear hN hst hdc
              go_wp2_with fail
              repeat (
                (first
                  | ((with_reducible (refine (hok.out _ HC.out).mono ?_)); rintro e w1 ⟨rfl, hC1⟩; clear HC; have HC := Lib.hid hC1; clear hC1)
                  | ((with_reducible (refine (hpk.out _ HC.out).mono ?_)); rintro e w1 ⟨rfl, hC1⟩; clear HC; have HC := Lib.hid hC1; clear hC1)
                  | ((with_reducible (refine (hdg.out _).mono ?_)); rintro e w1 ⟨rfl, rfl⟩))
                go_wp2_with fail)
              go_roundg (r.length - (k + 1))
              case measure => omega
              case rel => exact ⟨k + 1, it, ex, by omega, rfl, by rw [show ((k + 1 : Nat) : Int) = (k : Int) + 1 from by omega], rfl, rfl, HN.out.1, HC.out⟩
            | false =>
              rw [hdc] at hdg hst
              rw [if_neg (by decide)] at hst
              clear hdc
              cases ex with
              | true =>
                rw [if_neg (by simp), if_neg (by simp)] at hst
                have HN := Lib.hid (hN.stop hst); clear hN hst
                go_wp2_with fail
                repeat (
                  (first
                    | ((with_reducible (refine (hok.out _ HC.out).mono ?_)); rintro e w1 ⟨rfl, hC1⟩; clear HC; have HC := Lib.hid hC1; clear hC1)
                    | ((with_reducible (refine (hpk.out _ HC.out).mono ?_)); rintro e w1 ⟨rfl, hC1⟩; clear HC; have HC := Lib.hid hC1; clear hC1)
                    | ((with_reducible (refine (hdg.out _).mono ?_)); rintro e w1 ⟨rfl, rfl⟩))
                  go_wp2_with fail)
                go_meet
                case rel => exact ⟨by rw [HN.out], by rw [HN.out], by rw [HN.out]; exact hk, HC.out⟩
              | false =>
                by_cases h46 : it = true ∧ c = 46
                · obtain ⟨rfl, rfl⟩ := h46
                  rw [if_pos (by simp)] at hst
                  have HN := Lib.hid (hN.go hk hst); clear hN hst
                  go_wp2_with fail
                  repeat (
                    (first
                      | ((with_reducible (refine (hok.out _ HC.out).mono ?_)); rintro e w1 ⟨rfl, hC1⟩; clear HC; have HC := Lib.hid hC1; clear hC1)
                      | ((with_reducible (refine (hpk.out _ HC.out).mono ?_)); rintro e w1 ⟨rfl, hC1⟩; clear HC; have HC := Lib.hid hC1; clear hC1)
                      | ((with_reducible (refine (hdg.out _).mono ?_)); rintro e w1 ⟨rfl, rfl⟩))
                    go_wp2_with fail)
                  go_roundg (r.length - (k + 1))
                  case measure => omega
                  case rel => exact ⟨k + 1, false, false, by omega, rfl, by rw [show ((k + 1 : Nat) : Int) = (k : Int) + 1 from by omega], rfl, rfl, HN.out.1, HC.out⟩
                · rw [if_neg (by simpa using h46)] at hst
                  have hf46 : it = true → (c == 46) = false := by
                    intro hi; rw [beq_eq_false_iff_ne]; intro e; exact h46 ⟨hi, e⟩
                  by_cases hE : c = 69 ∨ c = 101
                  · rw [if_pos (by simpa using hE)] at hst
                    have h46b : (c == 46) = false := by
                      rw [beq_eq_false_iff_ne]; intro e; rcases hE with h | h <;> omega
                    clear h46 hf46
                    have hp1 : Hid (∀ w1, Cur W w0 lb fb s x w1 → Calls Tryz.prog 61 #[.pointer (some ⟨lb, 0, none⟩), .int .i64 ((k : Int) + 1), .int .u8 43] w1 (Did W w0 lb fb s (.bool (isAt r (k + 1) 43)) x)) := Lib.hid (fun w1 h1 => HIs.out w1 h1 (k + 1) _ 43 (by omega) (by omega))
                    have hp2 : Hid (∀ w1, Cur W w0 lb fb s x w1 → Calls Tryz.prog 61 #[.pointer (some ⟨lb, 0, none⟩), .int .i64 ((k : Int) + 1), .int .u8 45] w1 (Did W w0 lb fb s (.bool (isAt r (k + 1) 45)) x)) := Lib.hid (fun w1 h1 => HIs.out w1 h1 (k + 1) _ 45 (by omega) (by omega))
                    have hex : expAt r k = if isAt r (k + 1) 43 || isAt r (k + 1) 45 then k + 2 else k + 1 := rfl
                    generalize isAt r (k + 1) 43 = p at *
                    generalize isAt r (k + 1) 45 = q at *
                    have hokj := fun w1 h1 (i : Int) (hi : i = expAt r k) (hb : expAt r k ≤ 2000000) => HOk.out w1 h1 (expAt r k) i hi hb
                    have hpkj := fun w1 h1 (i : Int) (hi : i = expAt r k) (hb : expAt r k < r.length) => HPk.out w1 h1 (expAt r k) i hi hb
                    have hdj : Hid (∀ w1, Calls Tryz.prog 68 #[.int .u8 (byteAt r (expAt r k))] w1 fun e w' => e = .returned (.bool (dig (byteAt r (expAt r k)))) ∧ w1 = w') := Lib.hid (fun w1 => isDigit_any _ w1)
                    have hbj := byteAt_bd r (expAt r k)
                    generalize byteAt r (expAt r k) = cj at *
                    have hj : expAt r k ≤ 2000000 := by rw [hex]; split <;> omega
                    have HNgo : (decide (expAt r k < r.length) && dig cj) = true → Hid (NumAt r false R (expAt r k) false true ∧ k < expAt r k ∧ expAt r k ≤ r.length) := fun h => Lib.hid (hN.go hk (by rw [hst, if_pos h]))
                    have HNst : (decide (expAt r k < r.length) && dig cj) = false → Hid (R = (k, it)) := fun h => Lib.hid (hN.stop (by rw [hst, if_neg (by rw [h]; decide)]))
                    clear hN hst
                    have HE : ((c == 69) = true) ∨ ((c == 69) = false ∧ (c == 101) = true) := by
                      rcases hE with h | h
                      · left; rw [h]; rfl
                      · right; rw [h]; exact ⟨rfl, rfl⟩
                    clear hE
                    have HPQ : (p || q) = true ∧ expAt r k = k + 2 ∨ (p = false ∧ q = false) ∧ expAt r k = k + 1 := by
                      cases p <;> cases q
                      · right; exact ⟨⟨rfl, rfl⟩, hex⟩
                      · left; exact ⟨rfl, hex⟩
                      · left; exact ⟨rfl, hex⟩
                      · left; exact ⟨rfl, hex⟩
                    clear hex
                    generalize expAt r k = j at *
                    cases it
                    all_goals
                      rcases HE with he69 | ⟨he69, he101⟩
                      · rcases HPQ with ⟨hpq, hje⟩ | ⟨⟨hpp, hqq⟩, hje⟩
                        · cases p
                          · have hqt : q = true := by simpa using hpq
                            subst hqt
                            clear hpq
                            have hoj0 : Hid (∀ w1, Cur W w0 lb fb s x w1 → Calls Tryz.prog 63 #[.pointer (some ⟨lb, 0, none⟩), .int .i64 ((k : Int) + 1 + 1)] w1 (Did W w0 lb fb s (.bool (decide (j < r.length))) x)) := Lib.hid (fun w1 h1 => hokj w1 h1 _ (by omega) hj)
                            have hoj1 : Hid (∀ w1, Cur W w0 lb fb s x w1 → Calls Tryz.prog 63 #[.pointer (some ⟨lb, 0, none⟩), .int .i64 ((k : Int) + 2)] w1 (Did W w0 lb fb s (.bool (decide (j < r.length))) x)) := Lib.hid (fun w1 h1 => hokj w1 h1 _ (by omega) hj)
                            by_cases hjl : j < r.length
                            · have hjb : decide (j < r.length) = true := by simpa using hjl
                              have hpj0 : Hid (∀ w1, Cur W w0 lb fb s x w1 → Calls Tryz.prog 65 #[.pointer (some ⟨lb, 0, none⟩), .int .i64 ((k : Int) + 1 + 1)] w1 (Did W w0 lb fb s (.int .u8 cj) x)) := Lib.hid (fun w1 h1 => hpkj w1 h1 _ (by omega) hjl)
                              have hpj1 : Hid (∀ w1, Cur W w0 lb fb s x w1 → Calls Tryz.prog 65 #[.pointer (some ⟨lb, 0, none⟩), .int .i64 ((k : Int) + 2)] w1 (Did W w0 lb fb s (.int .u8 cj) x)) := Lib.hid (fun w1 h1 => hpkj w1 h1 _ (by omega) hjl)
                              rw [hjb] at hoj0 hoj1
                              clear hokj hpkj
                              cases hdcj : dig cj with
                              | true =>
                                have HN := HNgo (by rw [hjb, hdcj]; rfl)
                                rw [hdcj] at hdj
                                clear hdcj HNgo HNst hjb
                                go_wp2_with fail
                                repeat (
                                  (first
                                    | ((with_reducible (refine (hok.out _ HC.out).mono ?_)); rintro e w1 ⟨rfl, hC1⟩; clear HC; have HC := Lib.hid hC1; clear hC1)
                                    | ((with_reducible (refine (hpk.out _ HC.out).mono ?_)); rintro e w1 ⟨rfl, hC1⟩; clear HC; have HC := Lib.hid hC1; clear hC1)
                                    | ((with_reducible (refine (hdg.out _).mono ?_)); rintro e w1 ⟨rfl, rfl⟩)
                                    | ((with_reducible (refine (hp1.out _ HC.out).mono ?_)); rintro e w1 ⟨rfl, hC1⟩; clear HC; have HC := Lib.hid hC1; clear hC1)
                                    | ((with_reducible (refine (hp2.out _ HC.out).mono ?_)); rintro e w1 ⟨rfl, hC1⟩; clear HC; have HC := Lib.hid hC1; clear hC1)
                                    | ((with_reducible (refine (hoj0.out _ HC.out).mono ?_)); rintro e w1 ⟨rfl, hC1⟩; clear HC; have HC := Lib.hid hC1; clear hC1)
                                    | ((with_reducible (refine (hoj1.out _ HC.out).mono ?_)); rintro e w1 ⟨rfl, hC1⟩; clear HC; have HC := Lib.hid hC1; clear hC1)
                                    | ((with_reducible (refine (hpj0.out _ HC.out).mono ?_)); rintro e w1 ⟨rfl, hC1⟩; clear HC; have HC := Lib.hid hC1; clear hC1)
                                    | ((with_reducible (refine (hpj1.out _ HC.out).mono ?_)); rintro e w1 ⟨rfl, hC1⟩; clear HC; have HC := Lib.hid hC1; clear hC1)
                                    | ((with_reducible (refine (hdj.out _).mono ?_)); rintro e w1 ⟨rfl, rfl⟩))
                                  go_wp2_with fail)
                                go_roundg (r.length - j)
                                case measure => omega
                                case rel => exact ⟨j, false, true, Nat.le_of_lt hjl, rfl, by congr 1; omega, rfl, rfl, HN.out.1, HC.out⟩
                              | false =>
                                have HN := HNst (by rw [hjb, hdcj]; rfl)
                                rw [hdcj] at hdj
                                clear hdcj HNgo HNst hjb
                                go_wp2_with fail
                                repeat (
                                  (first
                                    | ((with_reducible (refine (hok.out _ HC.out).mono ?_)); rintro e w1 ⟨rfl, hC1⟩; clear HC; have HC := Lib.hid hC1; clear hC1)
                                    | ((with_reducible (refine (hpk.out _ HC.out).mono ?_)); rintro e w1 ⟨rfl, hC1⟩; clear HC; have HC := Lib.hid hC1; clear hC1)
                                    | ((with_reducible (refine (hdg.out _).mono ?_)); rintro e w1 ⟨rfl, rfl⟩)
                                    | ((with_reducible (refine (hp1.out _ HC.out).mono ?_)); rintro e w1 ⟨rfl, hC1⟩; clear HC; have HC := Lib.hid hC1; clear hC1)
                                    | ((with_reducible (refine (hp2.out _ HC.out).mono ?_)); rintro e w1 ⟨rfl, hC1⟩; clear HC; have HC := Lib.hid hC1; clear hC1)
                                    | ((with_reducible (refine (hoj0.out _ HC.out).mono ?_)); rintro e w1 ⟨rfl, hC1⟩; clear HC; have HC := Lib.hid hC1; clear hC1)
                                    | ((with_reducible (refine (hoj1.out _ HC.out).mono ?_)); rintro e w1 ⟨rfl, hC1⟩; clear HC; have HC := Lib.hid hC1; clear hC1)
                                    | ((with_reducible (refine (hpj0.out _ HC.out).mono ?_)); rintro e w1 ⟨rfl, hC1⟩; clear HC; have HC := Lib.hid hC1; clear hC1)
                                    | ((with_reducible (refine (hpj1.out _ HC.out).mono ?_)); rintro e w1 ⟨rfl, hC1⟩; clear HC; have HC := Lib.hid hC1; clear hC1)
                                    | ((with_reducible (refine (hdj.out _).mono ?_)); rintro e w1 ⟨rfl, rfl⟩))
                                  go_wp2_with fail)
                                go_meet
                                case rel => exact ⟨by rw [HN.out], by rw [HN.out], by rw [HN.out]; exact hk, HC.out⟩
                            · have hjb : decide (j < r.length) = false := by simpa using hjl
                              have HN := HNst (by rw [hjb]; rfl)
                              rw [hjb] at hoj0 hoj1
                              clear hokj hpkj HNgo HNst hjb
                              go_wp2_with fail
                              repeat (
                                (first
                                  | ((with_reducible (refine (hok.out _ HC.out).mono ?_)); rintro e w1 ⟨rfl, hC1⟩; clear HC; have HC := Lib.hid hC1; clear hC1)
                                  | ((with_reducible (refine (hpk.out _ HC.out).mono ?_)); rintro e w1 ⟨rfl, hC1⟩; clear HC; have HC := Lib.hid hC1; clear hC1)
                                  | ((with_reducible (refine (hdg.out _).mono ?_)); rintro e w1 ⟨rfl, rfl⟩)
                                  | ((with_reducible (refine (hp1.out _ HC.out).mono ?_)); rintro e w1 ⟨rfl, hC1⟩; clear HC; have HC := Lib.hid hC1; clear hC1)
                                  | ((with_reducible (refine (hp2.out _ HC.out).mono ?_)); rintro e w1 ⟨rfl, hC1⟩; clear HC; have HC := Lib.hid hC1; clear hC1)
                                  | ((with_reducible (refine (hoj0.out _ HC.out).mono ?_)); rintro e w1 ⟨rfl, hC1⟩; clear HC; have HC := Lib.hid hC1; clear hC1)
                                  | ((with_reducible (refine (hoj1.out _ HC.out).mono ?_)); rintro e w1 ⟨rfl, hC1⟩; clear HC; have HC := Lib.hid hC1; clear hC1)
                                  | ((with_reducible (refine (hdj.out _).mono ?_)); rintro e w1 ⟨rfl, rfl⟩))
                                go_wp2_with fail)
                              go_meet
                              case rel => exact ⟨by rw [HN.out], by rw [HN.out], by rw [HN.out]; exact hk, HC.out⟩
                          · clear hpq
                            have hoj0 : Hid (∀ w1, Cur W w0 lb fb s x w1 → Calls Tryz.prog 63 #[.pointer (some ⟨lb, 0, none⟩), .int .i64 ((k : Int) + 1 + 1)] w1 (Did W w0 lb fb s (.bool (decide (j < r.length))) x)) := Lib.hid (fun w1 h1 => hokj w1 h1 _ (by omega) hj)
                            have hoj1 : Hid (∀ w1, Cur W w0 lb fb s x w1 → Calls Tryz.prog 63 #[.pointer (some ⟨lb, 0, none⟩), .int .i64 ((k : Int) + 2)] w1 (Did W w0 lb fb s (.bool (decide (j < r.length))) x)) := Lib.hid (fun w1 h1 => hokj w1 h1 _ (by omega) hj)
                            by_cases hjl : j < r.length
                            · have hjb : decide (j < r.length) = true := by simpa using hjl
                              have hpj0 : Hid (∀ w1, Cur W w0 lb fb s x w1 → Calls Tryz.prog 65 #[.pointer (some ⟨lb, 0, none⟩), .int .i64 ((k : Int) + 1 + 1)] w1 (Did W w0 lb fb s (.int .u8 cj) x)) := Lib.hid (fun w1 h1 => hpkj w1 h1 _ (by omega) hjl)
                              have hpj1 : Hid (∀ w1, Cur W w0 lb fb s x w1 → Calls Tryz.prog 65 #[.pointer (some ⟨lb, 0, none⟩), .int .i64 ((k : Int) + 2)] w1 (Did W w0 lb fb s (.int .u8 cj) x)) := Lib.hid (fun w1 h1 => hpkj w1 h1 _ (by omega) hjl)
                              rw [hjb] at hoj0 hoj1
                              clear hokj hpkj
                              cases hdcj : dig cj with
                              | true =>
                                have HN := HNgo (by rw [hjb, hdcj]; rfl)
                                rw [hdcj] at hdj
                                clear hdcj HNgo HNst hjb
                                go_wp2_with fail
                                repeat (
                                  (first
                                    | ((with_reducible (refine (hok.out _ HC.out).mono ?_)); rintro e w1 ⟨rfl, hC1⟩; clear HC; have HC := Lib.hid hC1; clear hC1)
                                    | ((with_reducible (refine (hpk.out _ HC.out).mono ?_)); rintro e w1 ⟨rfl, hC1⟩; clear HC; have HC := Lib.hid hC1; clear hC1)
                                    | ((with_reducible (refine (hdg.out _).mono ?_)); rintro e w1 ⟨rfl, rfl⟩)
                                    | ((with_reducible (refine (hp1.out _ HC.out).mono ?_)); rintro e w1 ⟨rfl, hC1⟩; clear HC; have HC := Lib.hid hC1; clear hC1)
                                    | ((with_reducible (refine (hp2.out _ HC.out).mono ?_)); rintro e w1 ⟨rfl, hC1⟩; clear HC; have HC := Lib.hid hC1; clear hC1)
                                    | ((with_reducible (refine (hoj0.out _ HC.out).mono ?_)); rintro e w1 ⟨rfl, hC1⟩; clear HC; have HC := Lib.hid hC1; clear hC1)
                                    | ((with_reducible (refine (hoj1.out _ HC.out).mono ?_)); rintro e w1 ⟨rfl, hC1⟩; clear HC; have HC := Lib.hid hC1; clear hC1)
                                    | ((with_reducible (refine (hpj0.out _ HC.out).mono ?_)); rintro e w1 ⟨rfl, hC1⟩; clear HC; have HC := Lib.hid hC1; clear hC1)
                                    | ((with_reducible (refine (hpj1.out _ HC.out).mono ?_)); rintro e w1 ⟨rfl, hC1⟩; clear HC; have HC := Lib.hid hC1; clear hC1)
                                    | ((with_reducible (refine (hdj.out _).mono ?_)); rintro e w1 ⟨rfl, rfl⟩))
                                  go_wp2_with fail)
                                go_roundg (r.length - j)
                                case measure => omega
                                case rel => exact ⟨j, false, true, Nat.le_of_lt hjl, rfl, by congr 1; omega, rfl, rfl, HN.out.1, HC.out⟩
                              | false =>
                                have HN := HNst (by rw [hjb, hdcj]; rfl)
                                rw [hdcj] at hdj
                                clear hdcj HNgo HNst hjb
                                go_wp2_with fail
                                repeat (
                                  (first
                                    | ((with_reducible (refine (hok.out _ HC.out).mono ?_)); rintro e w1 ⟨rfl, hC1⟩; clear HC; have HC := Lib.hid hC1; clear hC1)
                                    | ((with_reducible (refine (hpk.out _ HC.out).mono ?_)); rintro e w1 ⟨rfl, hC1⟩; clear HC; have HC := Lib.hid hC1; clear hC1)
                                    | ((with_reducible (refine (hdg.out _).mono ?_)); rintro e w1 ⟨rfl, rfl⟩)
                                    | ((with_reducible (refine (hp1.out _ HC.out).mono ?_)); rintro e w1 ⟨rfl, hC1⟩; clear HC; have HC := Lib.hid hC1; clear hC1)
                                    | ((with_reducible (refine (hp2.out _ HC.out).mono ?_)); rintro e w1 ⟨rfl, hC1⟩; clear HC; have HC := Lib.hid hC1; clear hC1)
                                    | ((with_reducible (refine (hoj0.out _ HC.out).mono ?_)); rintro e w1 ⟨rfl, hC1⟩; clear HC; have HC := Lib.hid hC1; clear hC1)
                                    | ((with_reducible (refine (hoj1.out _ HC.out).mono ?_)); rintro e w1 ⟨rfl, hC1⟩; clear HC; have HC := Lib.hid hC1; clear hC1)
                                    | ((with_reducible (refine (hpj0.out _ HC.out).mono ?_)); rintro e w1 ⟨rfl, hC1⟩; clear HC; have HC := Lib.hid hC1; clear hC1)
                                    | ((with_reducible (refine (hpj1.out _ HC.out).mono ?_)); rintro e w1 ⟨rfl, hC1⟩; clear HC; have HC := Lib.hid hC1; clear hC1)
                                    | ((with_reducible (refine (hdj.out _).mono ?_)); rintro e w1 ⟨rfl, rfl⟩))
                                  go_wp2_with fail)
                                go_meet
                                case rel => exact ⟨by rw [HN.out], by rw [HN.out], by rw [HN.out]; exact hk, HC.out⟩
                            · have hjb : decide (j < r.length) = false := by simpa using hjl
                              have HN := HNst (by rw [hjb]; rfl)
                              rw [hjb] at hoj0 hoj1
                              clear hokj hpkj HNgo HNst hjb
                              go_wp2_with fail
                              repeat (
                                (first
                                  | ((with_reducible (refine (hok.out _ HC.out).mono ?_)); rintro e w1 ⟨rfl, hC1⟩; clear HC; have HC := Lib.hid hC1; clear hC1)
                                  | ((with_reducible (refine (hpk.out _ HC.out).mono ?_)); rintro e w1 ⟨rfl, hC1⟩; clear HC; have HC := Lib.hid hC1; clear hC1)
                                  | ((with_reducible (refine (hdg.out _).mono ?_)); rintro e w1 ⟨rfl, rfl⟩)
                                  | ((with_reducible (refine (hp1.out _ HC.out).mono ?_)); rintro e w1 ⟨rfl, hC1⟩; clear HC; have HC := Lib.hid hC1; clear hC1)
                                  | ((with_reducible (refine (hp2.out _ HC.out).mono ?_)); rintro e w1 ⟨rfl, hC1⟩; clear HC; have HC := Lib.hid hC1; clear hC1)
                                  | ((with_reducible (refine (hoj0.out _ HC.out).mono ?_)); rintro e w1 ⟨rfl, hC1⟩; clear HC; have HC := Lib.hid hC1; clear hC1)
                                  | ((with_reducible (refine (hoj1.out _ HC.out).mono ?_)); rintro e w1 ⟨rfl, hC1⟩; clear HC; have HC := Lib.hid hC1; clear hC1)
                                  | ((with_reducible (refine (hdj.out _).mono ?_)); rintro e w1 ⟨rfl, rfl⟩))
                                go_wp2_with fail)
                              go_meet
                              case rel => exact ⟨by rw [HN.out], by rw [HN.out], by rw [HN.out]; exact hk, HC.out⟩
                        · subst hpp hqq
                          have hoj0 : Hid (∀ w1, Cur W w0 lb fb s x w1 → Calls Tryz.prog 63 #[.pointer (some ⟨lb, 0, none⟩), .int .i64 ((k : Int) + 1)] w1 (Did W w0 lb fb s (.bool (decide (j < r.length))) x)) := Lib.hid (fun w1 h1 => hokj w1 h1 _ (by omega) hj)
                          by_cases hjl : j < r.length
                          · have hjb : decide (j < r.length) = true := by simpa using hjl
                            have hpj0 : Hid (∀ w1, Cur W w0 lb fb s x w1 → Calls Tryz.prog 65 #[.pointer (some ⟨lb, 0, none⟩), .int .i64 ((k : Int) + 1)] w1 (Did W w0 lb fb s (.int .u8 cj) x)) := Lib.hid (fun w1 h1 => hpkj w1 h1 _ (by omega) hjl)
                            rw [hjb] at hoj0
                            clear hokj hpkj
                            cases hdcj : dig cj with
                            | true =>
                              have HN := HNgo (by rw [hjb, hdcj]; rfl)
                              rw [hdcj] at hdj
                              clear hdcj HNgo HNst hjb
                              go_wp2_with fail
                              repeat (
                                (first
                                  | ((with_reducible (refine (hok.out _ HC.out).mono ?_)); rintro e w1 ⟨rfl, hC1⟩; clear HC; have HC := Lib.hid hC1; clear hC1)
                                  | ((with_reducible (refine (hpk.out _ HC.out).mono ?_)); rintro e w1 ⟨rfl, hC1⟩; clear HC; have HC := Lib.hid hC1; clear hC1)
                                  | ((with_reducible (refine (hdg.out _).mono ?_)); rintro e w1 ⟨rfl, rfl⟩)
                                  | ((with_reducible (refine (hp1.out _ HC.out).mono ?_)); rintro e w1 ⟨rfl, hC1⟩; clear HC; have HC := Lib.hid hC1; clear hC1)
                                  | ((with_reducible (refine (hp2.out _ HC.out).mono ?_)); rintro e w1 ⟨rfl, hC1⟩; clear HC; have HC := Lib.hid hC1; clear hC1)
                                  | ((with_reducible (refine (hoj0.out _ HC.out).mono ?_)); rintro e w1 ⟨rfl, hC1⟩; clear HC; have HC := Lib.hid hC1; clear hC1)
                                  | ((with_reducible (refine (hpj0.out _ HC.out).mono ?_)); rintro e w1 ⟨rfl, hC1⟩; clear HC; have HC := Lib.hid hC1; clear hC1)
                                  | ((with_reducible (refine (hdj.out _).mono ?_)); rintro e w1 ⟨rfl, rfl⟩))
                                go_wp2_with fail)
                              go_roundg (r.length - j)
                              case measure => omega
                              case rel => exact ⟨j, false, true, Nat.le_of_lt hjl, rfl, by congr 1; omega, rfl, rfl, HN.out.1, HC.out⟩
                            | false =>
                              have HN := HNst (by rw [hjb, hdcj]; rfl)
                              rw [hdcj] at hdj
                              clear hdcj HNgo HNst hjb
                              go_wp2_with fail
                              repeat (
                                (first
                                  | ((with_reducible (refine (hok.out _ HC.out).mono ?_)); rintro e w1 ⟨rfl, hC1⟩; clear HC; have HC := Lib.hid hC1; clear hC1)
                                  | ((with_reducible (refine (hpk.out _ HC.out).mono ?_)); rintro e w1 ⟨rfl, hC1⟩; clear HC; have HC := Lib.hid hC1; clear hC1)
                                  | ((with_reducible (refine (hdg.out _).mono ?_)); rintro e w1 ⟨rfl, rfl⟩)
                                  | ((with_reducible (refine (hp1.out _ HC.out).mono ?_)); rintro e w1 ⟨rfl, hC1⟩; clear HC; have HC := Lib.hid hC1; clear hC1)
                                  | ((with_reducible (refine (hp2.out _ HC.out).mono ?_)); rintro e w1 ⟨rfl, hC1⟩; clear HC; have HC := Lib.hid hC1; clear hC1)
                                  | ((with_reducible (refine (hoj0.out _ HC.out).mono ?_)); rintro e w1 ⟨rfl, hC1⟩; clear HC; have HC := Lib.hid hC1; clear hC1)
                                  | ((with_reducible (refine (hpj0.out _ HC.out).mono ?_)); rintro e w1 ⟨rfl, hC1⟩; clear HC; have HC := Lib.hid hC1; clear hC1)
                                  | ((with_reducible (refine (hdj.out _).mono ?_)); rintro e w1 ⟨rfl, rfl⟩))
                                go_wp2_with fail)
                              go_meet
                              case rel => exact ⟨by rw [HN.out], by rw [HN.out], by rw [HN.out]; exact hk, HC.out⟩
                          · have hjb : decide (j < r.length) = false := by simpa using hjl
                            have HN := HNst (by rw [hjb]; rfl)
                            rw [hjb] at hoj0
                            clear hokj hpkj HNgo HNst hjb
                            go_wp2_with fail
                            repeat (
                              (first
                                | ((with_reducible (refine (hok.out _ HC.out).mono ?_)); rintro e w1 ⟨rfl, hC1⟩; clear HC; have HC := Lib.hid hC1; clear hC1)
                                | ((with_reducible (refine (hpk.out _ HC.out).mono ?_)); rintro e w1 ⟨rfl, hC1⟩; clear HC; have HC := Lib.hid hC1; clear hC1)
                                | ((with_reducible (refine (hdg.out _).mono ?_)); rintro e w1 ⟨rfl, rfl⟩)
                                | ((with_reducible (refine (hp1.out _ HC.out).mono ?_)); rintro e w1 ⟨rfl, hC1⟩; clear HC; have HC := Lib.hid hC1; clear hC1)
                                | ((with_reducible (refine (hp2.out _ HC.out).mono ?_)); rintro e w1 ⟨rfl, hC1⟩; clear HC; have HC := Lib.hid hC1; clear hC1)
                                | ((with_reducible (refine (hoj0.out _ HC.out).mono ?_)); rintro e w1 ⟨rfl, hC1⟩; clear HC; have HC := Lib.hid hC1; clear hC1)
                                | ((with_reducible (refine (hdj.out _).mono ?_)); rintro e w1 ⟨rfl, rfl⟩))
                              go_wp2_with fail)
                            go_meet
                            case rel => exact ⟨by rw [HN.out], by rw [HN.out], by rw [HN.out]; exact hk, HC.out⟩
                      · rcases HPQ with ⟨hpq, hje⟩ | ⟨⟨hpp, hqq⟩, hje⟩
                        · cases p
                          · have hqt : q = true := by simpa using hpq
                            subst hqt
                            clear hpq
                            have hoj0 : Hid (∀ w1, Cur W w0 lb fb s x w1 → Calls Tryz.prog 63 #[.pointer (some ⟨lb, 0, none⟩), .int .i64 ((k : Int) + 1 + 1)] w1 (Did W w0 lb fb s (.bool (decide (j < r.length))) x)) := Lib.hid (fun w1 h1 => hokj w1 h1 _ (by omega) hj)
                            have hoj1 : Hid (∀ w1, Cur W w0 lb fb s x w1 → Calls Tryz.prog 63 #[.pointer (some ⟨lb, 0, none⟩), .int .i64 ((k : Int) + 2)] w1 (Did W w0 lb fb s (.bool (decide (j < r.length))) x)) := Lib.hid (fun w1 h1 => hokj w1 h1 _ (by omega) hj)
                            by_cases hjl : j < r.length
                            · have hjb : decide (j < r.length) = true := by simpa using hjl
                              have hpj0 : Hid (∀ w1, Cur W w0 lb fb s x w1 → Calls Tryz.prog 65 #[.pointer (some ⟨lb, 0, none⟩), .int .i64 ((k : Int) + 1 + 1)] w1 (Did W w0 lb fb s (.int .u8 cj) x)) := Lib.hid (fun w1 h1 => hpkj w1 h1 _ (by omega) hjl)
                              have hpj1 : Hid (∀ w1, Cur W w0 lb fb s x w1 → Calls Tryz.prog 65 #[.pointer (some ⟨lb, 0, none⟩), .int .i64 ((k : Int) + 2)] w1 (Did W w0 lb fb s (.int .u8 cj) x)) := Lib.hid (fun w1 h1 => hpkj w1 h1 _ (by omega) hjl)
                              rw [hjb] at hoj0 hoj1
                              clear hokj hpkj
                              cases hdcj : dig cj with
                              | true =>
                                have HN := HNgo (by rw [hjb, hdcj]; rfl)
                                rw [hdcj] at hdj
                                clear hdcj HNgo HNst hjb
                                go_wp2_with fail
                                repeat (
                                  (first
                                    | ((with_reducible (refine (hok.out _ HC.out).mono ?_)); rintro e w1 ⟨rfl, hC1⟩; clear HC; have HC := Lib.hid hC1; clear hC1)
                                    | ((with_reducible (refine (hpk.out _ HC.out).mono ?_)); rintro e w1 ⟨rfl, hC1⟩; clear HC; have HC := Lib.hid hC1; clear hC1)
                                    | ((with_reducible (refine (hdg.out _).mono ?_)); rintro e w1 ⟨rfl, rfl⟩)
                                    | ((with_reducible (refine (hp1.out _ HC.out).mono ?_)); rintro e w1 ⟨rfl, hC1⟩; clear HC; have HC := Lib.hid hC1; clear hC1)
                                    | ((with_reducible (refine (hp2.out _ HC.out).mono ?_)); rintro e w1 ⟨rfl, hC1⟩; clear HC; have HC := Lib.hid hC1; clear hC1)
                                    | ((with_reducible (refine (hoj0.out _ HC.out).mono ?_)); rintro e w1 ⟨rfl, hC1⟩; clear HC; have HC := Lib.hid hC1; clear hC1)
                                    | ((with_reducible (refine (hoj1.out _ HC.out).mono ?_)); rintro e w1 ⟨rfl, hC1⟩; clear HC; have HC := Lib.hid hC1; clear hC1)
                                    | ((with_reducible (refine (hpj0.out _ HC.out).mono ?_)); rintro e w1 ⟨rfl, hC1⟩; clear HC; have HC := Lib.hid hC1; clear hC1)
                                    | ((with_reducible (refine (hpj1.out _ HC.out).mono ?_)); rintro e w1 ⟨rfl, hC1⟩; clear HC; have HC := Lib.hid hC1; clear hC1)
                                    | ((with_reducible (refine (hdj.out _).mono ?_)); rintro e w1 ⟨rfl, rfl⟩))
                                  go_wp2_with fail)
                                go_roundg (r.length - j)
                                case measure => omega
                                case rel => exact ⟨j, false, true, Nat.le_of_lt hjl, rfl, by congr 1; omega, rfl, rfl, HN.out.1, HC.out⟩
                              | false =>
                                have HN := HNst (by rw [hjb, hdcj]; rfl)
                                rw [hdcj] at hdj
                                clear hdcj HNgo HNst hjb
                                go_wp2_with fail
                                repeat (
                                  (first
                                    | ((with_reducible (refine (hok.out _ HC.out).mono ?_)); rintro e w1 ⟨rfl, hC1⟩; clear HC; have HC := Lib.hid hC1; clear hC1)
                                    | ((with_reducible (refine (hpk.out _ HC.out).mono ?_)); rintro e w1 ⟨rfl, hC1⟩; clear HC; have HC := Lib.hid hC1; clear hC1)
                                    | ((with_reducible (refine (hdg.out _).mono ?_)); rintro e w1 ⟨rfl, rfl⟩)
                                    | ((with_reducible (refine (hp1.out _ HC.out).mono ?_)); rintro e w1 ⟨rfl, hC1⟩; clear HC; have HC := Lib.hid hC1; clear hC1)
                                    | ((with_reducible (refine (hp2.out _ HC.out).mono ?_)); rintro e w1 ⟨rfl, hC1⟩; clear HC; have HC := Lib.hid hC1; clear hC1)
                                    | ((with_reducible (refine (hoj0.out _ HC.out).mono ?_)); rintro e w1 ⟨rfl, hC1⟩; clear HC; have HC := Lib.hid hC1; clear hC1)
                                    | ((with_reducible (refine (hoj1.out _ HC.out).mono ?_)); rintro e w1 ⟨rfl, hC1⟩; clear HC; have HC := Lib.hid hC1; clear hC1)
                                    | ((with_reducible (refine (hpj0.out _ HC.out).mono ?_)); rintro e w1 ⟨rfl, hC1⟩; clear HC; have HC := Lib.hid hC1; clear hC1)
                                    | ((with_reducible (refine (hpj1.out _ HC.out).mono ?_)); rintro e w1 ⟨rfl, hC1⟩; clear HC; have HC := Lib.hid hC1; clear hC1)
                                    | ((with_reducible (refine (hdj.out _).mono ?_)); rintro e w1 ⟨rfl, rfl⟩))
                                  go_wp2_with fail)
                                go_meet
                                case rel => exact ⟨by rw [HN.out], by rw [HN.out], by rw [HN.out]; exact hk, HC.out⟩
                            · have hjb : decide (j < r.length) = false := by simpa using hjl
                              have HN := HNst (by rw [hjb]; rfl)
                              rw [hjb] at hoj0 hoj1
                              clear hokj hpkj HNgo HNst hjb
                              go_wp2_with fail
                              repeat (
                                (first
                                  | ((with_reducible (refine (hok.out _ HC.out).mono ?_)); rintro e w1 ⟨rfl, hC1⟩; clear HC; have HC := Lib.hid hC1; clear hC1)
                                  | ((with_reducible (refine (hpk.out _ HC.out).mono ?_)); rintro e w1 ⟨rfl, hC1⟩; clear HC; have HC := Lib.hid hC1; clear hC1)
                                  | ((with_reducible (refine (hdg.out _).mono ?_)); rintro e w1 ⟨rfl, rfl⟩)
                                  | ((with_reducible (refine (hp1.out _ HC.out).mono ?_)); rintro e w1 ⟨rfl, hC1⟩; clear HC; have HC := Lib.hid hC1; clear hC1)
                                  | ((with_reducible (refine (hp2.out _ HC.out).mono ?_)); rintro e w1 ⟨rfl, hC1⟩; clear HC; have HC := Lib.hid hC1; clear hC1)
                                  | ((with_reducible (refine (hoj0.out _ HC.out).mono ?_)); rintro e w1 ⟨rfl, hC1⟩; clear HC; have HC := Lib.hid hC1; clear hC1)
                                  | ((with_reducible (refine (hoj1.out _ HC.out).mono ?_)); rintro e w1 ⟨rfl, hC1⟩; clear HC; have HC := Lib.hid hC1; clear hC1)
                                  | ((with_reducible (refine (hdj.out _).mono ?_)); rintro e w1 ⟨rfl, rfl⟩))
                                go_wp2_with fail)
                              go_meet
                              case rel => exact ⟨by rw [HN.out], by rw [HN.out], by rw [HN.out]; exact hk, HC.out⟩
                          · clear hpq
                            have hoj0 : Hid (∀ w1, Cur W w0 lb fb s x w1 → Calls Tryz.prog 63 #[.pointer (some ⟨lb, 0, none⟩), .int .i64 ((k : Int) + 1 + 1)] w1 (Did W w0 lb fb s (.bool (decide (j < r.length))) x)) := Lib.hid (fun w1 h1 => hokj w1 h1 _ (by omega) hj)
                            have hoj1 : Hid (∀ w1, Cur W w0 lb fb s x w1 → Calls Tryz.prog 63 #[.pointer (some ⟨lb, 0, none⟩), .int .i64 ((k : Int) + 2)] w1 (Did W w0 lb fb s (.bool (decide (j < r.length))) x)) := Lib.hid (fun w1 h1 => hokj w1 h1 _ (by omega) hj)
                            by_cases hjl : j < r.length
                            · have hjb : decide (j < r.length) = true := by simpa using hjl
                              have hpj0 : Hid (∀ w1, Cur W w0 lb fb s x w1 → Calls Tryz.prog 65 #[.pointer (some ⟨lb, 0, none⟩), .int .i64 ((k : Int) + 1 + 1)] w1 (Did W w0 lb fb s (.int .u8 cj) x)) := Lib.hid (fun w1 h1 => hpkj w1 h1 _ (by omega) hjl)
                              have hpj1 : Hid (∀ w1, Cur W w0 lb fb s x w1 → Calls Tryz.prog 65 #[.pointer (some ⟨lb, 0, none⟩), .int .i64 ((k : Int) + 2)] w1 (Did W w0 lb fb s (.int .u8 cj) x)) := Lib.hid (fun w1 h1 => hpkj w1 h1 _ (by omega) hjl)
                              rw [hjb] at hoj0 hoj1
                              clear hokj hpkj
                              cases hdcj : dig cj with
                              | true =>
                                have HN := HNgo (by rw [hjb, hdcj]; rfl)
                                rw [hdcj] at hdj
                                clear hdcj HNgo HNst hjb
                                go_wp2_with fail
                                repeat (
                                  (first
                                    | ((with_reducible (refine (hok.out _ HC.out).mono ?_)); rintro e w1 ⟨rfl, hC1⟩; clear HC; have HC := Lib.hid hC1; clear hC1)
                                    | ((with_reducible (refine (hpk.out _ HC.out).mono ?_)); rintro e w1 ⟨rfl, hC1⟩; clear HC; have HC := Lib.hid hC1; clear hC1)
                                    | ((with_reducible (refine (hdg.out _).mono ?_)); rintro e w1 ⟨rfl, rfl⟩)
                                    | ((with_reducible (refine (hp1.out _ HC.out).mono ?_)); rintro e w1 ⟨rfl, hC1⟩; clear HC; have HC := Lib.hid hC1; clear hC1)
                                    | ((with_reducible (refine (hp2.out _ HC.out).mono ?_)); rintro e w1 ⟨rfl, hC1⟩; clear HC; have HC := Lib.hid hC1; clear hC1)
                                    | ((with_reducible (refine (hoj0.out _ HC.out).mono ?_)); rintro e w1 ⟨rfl, hC1⟩; clear HC; have HC := Lib.hid hC1; clear hC1)
                                    | ((with_reducible (refine (hoj1.out _ HC.out).mono ?_)); rintro e w1 ⟨rfl, hC1⟩; clear HC; have HC := Lib.hid hC1; clear hC1)
                                    | ((with_reducible (refine (hpj0.out _ HC.out).mono ?_)); rintro e w1 ⟨rfl, hC1⟩; clear HC; have HC := Lib.hid hC1; clear hC1)
                                    | ((with_reducible (refine (hpj1.out _ HC.out).mono ?_)); rintro e w1 ⟨rfl, hC1⟩; clear HC; have HC := Lib.hid hC1; clear hC1)
                                    | ((with_reducible (refine (hdj.out _).mono ?_)); rintro e w1 ⟨rfl, rfl⟩))
                                  go_wp2_with fail)
                                go_roundg (r.length - j)
                                case measure => omega
                                case rel => exact ⟨j, false, true, Nat.le_of_lt hjl, rfl, by congr 1; omega, rfl, rfl, HN.out.1, HC.out⟩
                              | false =>
                                have HN := HNst (by rw [hjb, hdcj]; rfl)
                                rw [hdcj] at hdj
                                clear hdcj HNgo HNst hjb
                                go_wp2_with fail
                                repeat (
                                  (first
                                    | ((with_reducible (refine (hok.out _ HC.out).mono ?_)); rintro e w1 ⟨rfl, hC1⟩; clear HC; have HC := Lib.hid hC1; clear hC1)
                                    | ((with_reducible (refine (hpk.out _ HC.out).mono ?_)); rintro e w1 ⟨rfl, hC1⟩; clear HC; have HC := Lib.hid hC1; clear hC1)
                                    | ((with_reducible (refine (hdg.out _).mono ?_)); rintro e w1 ⟨rfl, rfl⟩)
                                    | ((with_reducible (refine (hp1.out _ HC.out).mono ?_)); rintro e w1 ⟨rfl, hC1⟩; clear HC; have HC := Lib.hid hC1; clear hC1)
                                    | ((with_reducible (refine (hp2.out _ HC.out).mono ?_)); rintro e w1 ⟨rfl, hC1⟩; clear HC; have HC := Lib.hid hC1; clear hC1)
                                    | ((with_reducible (refine (hoj0.out _ HC.out).mono ?_)); rintro e w1 ⟨rfl, hC1⟩; clear HC; have HC := Lib.hid hC1; clear hC1)
                                    | ((with_reducible (refine (hoj1.out _ HC.out).mono ?_)); rintro e w1 ⟨rfl, hC1⟩; clear HC; have HC := Lib.hid hC1; clear hC1)
                                    | ((with_reducible (refine (hpj0.out _ HC.out).mono ?_)); rintro e w1 ⟨rfl, hC1⟩; clear HC; have HC := Lib.hid hC1; clear hC1)
                                    | ((with_reducible (refine (hpj1.out _ HC.out).mono ?_)); rintro e w1 ⟨rfl, hC1⟩; clear HC; have HC := Lib.hid hC1; clear hC1)
                                    | ((with_reducible (refine (hdj.out _).mono ?_)); rintro e w1 ⟨rfl, rfl⟩))
                                  go_wp2_with fail)
                                go_meet
                                case rel => exact ⟨by rw [HN.out], by rw [HN.out], by rw [HN.out]; exact hk, HC.out⟩
                            · have hjb : decide (j < r.length) = false := by simpa using hjl
                              have HN := HNst (by rw [hjb]; rfl)
                              rw [hjb] at hoj0 hoj1
                              clear hokj hpkj HNgo HNst hjb
                              go_wp2_with fail
                              repeat (
                                (first
                                  | ((with_reducible (refine (hok.out _ HC.out).mono ?_)); rintro e w1 ⟨rfl, hC1⟩; clear HC; have HC := Lib.hid hC1; clear hC1)
                                  | ((with_reducible (refine (hpk.out _ HC.out).mono ?_)); rintro e w1 ⟨rfl, hC1⟩; clear HC; have HC := Lib.hid hC1; clear hC1)
                                  | ((with_reducible (refine (hdg.out _).mono ?_)); rintro e w1 ⟨rfl, rfl⟩)
                                  | ((with_reducible (refine (hp1.out _ HC.out).mono ?_)); rintro e w1 ⟨rfl, hC1⟩; clear HC; have HC := Lib.hid hC1; clear hC1)
                                  | ((with_reducible (refine (hp2.out _ HC.out).mono ?_)); rintro e w1 ⟨rfl, hC1⟩; clear HC; have HC := Lib.hid hC1; clear hC1)
                                  | ((with_reducible (refine (hoj0.out _ HC.out).mono ?_)); rintro e w1 ⟨rfl, hC1⟩; clear HC; have HC := Lib.hid hC1; clear hC1)
                                  | ((with_reducible (refine (hoj1.out _ HC.out).mono ?_)); rintro e w1 ⟨rfl, hC1⟩; clear HC; have HC := Lib.hid hC1; clear hC1)
                                  | ((with_reducible (refine (hdj.out _).mono ?_)); rintro e w1 ⟨rfl, rfl⟩))
                                go_wp2_with fail)
                              go_meet
                              case rel => exact ⟨by rw [HN.out], by rw [HN.out], by rw [HN.out]; exact hk, HC.out⟩
                        · subst hpp hqq
                          have hoj0 : Hid (∀ w1, Cur W w0 lb fb s x w1 → Calls Tryz.prog 63 #[.pointer (some ⟨lb, 0, none⟩), .int .i64 ((k : Int) + 1)] w1 (Did W w0 lb fb s (.bool (decide (j < r.length))) x)) := Lib.hid (fun w1 h1 => hokj w1 h1 _ (by omega) hj)
                          by_cases hjl : j < r.length
                          · have hjb : decide (j < r.length) = true := by simpa using hjl
                            have hpj0 : Hid (∀ w1, Cur W w0 lb fb s x w1 → Calls Tryz.prog 65 #[.pointer (some ⟨lb, 0, none⟩), .int .i64 ((k : Int) + 1)] w1 (Did W w0 lb fb s (.int .u8 cj) x)) := Lib.hid (fun w1 h1 => hpkj w1 h1 _ (by omega) hjl)
                            rw [hjb] at hoj0
                            clear hokj hpkj
                            cases hdcj : dig cj with
                            | true =>
                              have HN := HNgo (by rw [hjb, hdcj]; rfl)
                              rw [hdcj] at hdj
                              clear hdcj HNgo HNst hjb
                              go_wp2_with fail
                              repeat (
                                (first
                                  | ((with_reducible (refine (hok.out _ HC.out).mono ?_)); rintro e w1 ⟨rfl, hC1⟩; clear HC; have HC := Lib.hid hC1; clear hC1)
                                  | ((with_reducible (refine (hpk.out _ HC.out).mono ?_)); rintro e w1 ⟨rfl, hC1⟩; clear HC; have HC := Lib.hid hC1; clear hC1)
                                  | ((with_reducible (refine (hdg.out _).mono ?_)); rintro e w1 ⟨rfl, rfl⟩)
                                  | ((with_reducible (refine (hp1.out _ HC.out).mono ?_)); rintro e w1 ⟨rfl, hC1⟩; clear HC; have HC := Lib.hid hC1; clear hC1)
                                  | ((with_reducible (refine (hp2.out _ HC.out).mono ?_)); rintro e w1 ⟨rfl, hC1⟩; clear HC; have HC := Lib.hid hC1; clear hC1)
                                  | ((with_reducible (refine (hoj0.out _ HC.out).mono ?_)); rintro e w1 ⟨rfl, hC1⟩; clear HC; have HC := Lib.hid hC1; clear hC1)
                                  | ((with_reducible (refine (hpj0.out _ HC.out).mono ?_)); rintro e w1 ⟨rfl, hC1⟩; clear HC; have HC := Lib.hid hC1; clear hC1)
                                  | ((with_reducible (refine (hdj.out _).mono ?_)); rintro e w1 ⟨rfl, rfl⟩))
                                go_wp2_with fail)
                              go_roundg (r.length - j)
                              case measure => omega
                              case rel => exact ⟨j, false, true, Nat.le_of_lt hjl, rfl, by congr 1; omega, rfl, rfl, HN.out.1, HC.out⟩
                            | false =>
                              have HN := HNst (by rw [hjb, hdcj]; rfl)
                              rw [hdcj] at hdj
                              clear hdcj HNgo HNst hjb
                              go_wp2_with fail
                              repeat (
                                (first
                                  | ((with_reducible (refine (hok.out _ HC.out).mono ?_)); rintro e w1 ⟨rfl, hC1⟩; clear HC; have HC := Lib.hid hC1; clear hC1)
                                  | ((with_reducible (refine (hpk.out _ HC.out).mono ?_)); rintro e w1 ⟨rfl, hC1⟩; clear HC; have HC := Lib.hid hC1; clear hC1)
                                  | ((with_reducible (refine (hdg.out _).mono ?_)); rintro e w1 ⟨rfl, rfl⟩)
                                  | ((with_reducible (refine (hp1.out _ HC.out).mono ?_)); rintro e w1 ⟨rfl, hC1⟩; clear HC; have HC := Lib.hid hC1; clear hC1)
                                  | ((with_reducible (refine (hp2.out _ HC.out).mono ?_)); rintro e w1 ⟨rfl, hC1⟩; clear HC; have HC := Lib.hid hC1; clear hC1)
                                  | ((with_reducible (refine (hoj0.out _ HC.out).mono ?_)); rintro e w1 ⟨rfl, hC1⟩; clear HC; have HC := Lib.hid hC1; clear hC1)
                                  | ((with_reducible (refine (hpj0.out _ HC.out).mono ?_)); rintro e w1 ⟨rfl, hC1⟩; clear HC; have HC := Lib.hid hC1; clear hC1)
                                  | ((with_reducible (refine (hdj.out _).mono ?_)); rintro e w1 ⟨rfl, rfl⟩))
                                go_wp2_with fail)
                              go_meet
                              case rel => exact ⟨by rw [HN.out], by rw [HN.out], by rw [HN.out]; exact hk, HC.out⟩
                          · have hjb : decide (j < r.length) = false := by simpa using hjl
                            have HN := HNst (by rw [hjb]; rfl)
                            rw [hjb] at hoj0
                            clear hokj hpkj HNgo HNst hjb
                            go_wp2_with fail
                            repeat (
                              (first
                                | ((with_reducible (refine (hok.out _ HC.out).mono ?_)); rintro e w1 ⟨rfl, hC1⟩; clear HC; have HC := Lib.hid hC1; clear hC1)
                                | ((with_reducible (refine (hpk.out _ HC.out).mono ?_)); rintro e w1 ⟨rfl, hC1⟩; clear HC; have HC := Lib.hid hC1; clear hC1)
                                | ((with_reducible (refine (hdg.out _).mono ?_)); rintro e w1 ⟨rfl, rfl⟩)
                                | ((with_reducible (refine (hp1.out _ HC.out).mono ?_)); rintro e w1 ⟨rfl, hC1⟩; clear HC; have HC := Lib.hid hC1; clear hC1)
                                | ((with_reducible (refine (hp2.out _ HC.out).mono ?_)); rintro e w1 ⟨rfl, hC1⟩; clear HC; have HC := Lib.hid hC1; clear hC1)
                                | ((with_reducible (refine (hoj0.out _ HC.out).mono ?_)); rintro e w1 ⟨rfl, hC1⟩; clear HC; have HC := Lib.hid hC1; clear hC1)
                                | ((with_reducible (refine (hdj.out _).mono ?_)); rintro e w1 ⟨rfl, rfl⟩))
                              go_wp2_with fail)
                            go_meet
                            case rel => exact ⟨by rw [HN.out], by rw [HN.out], by rw [HN.out]; exact hk, HC.out⟩
                  · rw [if_neg (by simpa using hE)] at hst
                    have h69 : (c == 69) = false := by rw [beq_eq_false_iff_ne]; exact fun e => hE (.inl e)
                    have h101 : (c == 101) = false := by rw [beq_eq_false_iff_ne]; exact fun e => hE (.inr e)
                    have HN := Lib.hid (hN.stop hst); clear hN hst hE h46
                    cases it with
                    | true =>
                      have h46' := hf46 rfl
                      clear hf46
                      go_wp2_with fail
                      repeat (
                        (first
                          | ((with_reducible (refine (hok.out _ HC.out).mono ?_)); rintro e w1 ⟨rfl, hC1⟩; clear HC; have HC := Lib.hid hC1; clear hC1)
                          | ((with_reducible (refine (hpk.out _ HC.out).mono ?_)); rintro e w1 ⟨rfl, hC1⟩; clear HC; have HC := Lib.hid hC1; clear hC1)
                          | ((with_reducible (refine (hdg.out _).mono ?_)); rintro e w1 ⟨rfl, rfl⟩))
                        go_wp2_with fail)
                      go_meet
                      case rel => exact ⟨by rw [HN.out], by rw [HN.out], by rw [HN.out]; exact hk, HC.out⟩
                    | false =>
                      clear hf46
                      go_wp2_with fail
                      repeat (
                        (first
                          | ((with_reducible (refine (hok.out _ HC.out).mono ?_)); rintro e w1 ⟨rfl, hC1⟩; clear HC; have HC := Lib.hid hC1; clear hC1)
                          | ((with_reducible (refine (hpk.out _ HC.out).mono ?_)); rintro e w1 ⟨rfl, hC1⟩; clear HC; have HC := Lib.hid hC1; clear hC1)
                          | ((with_reducible (refine (hdg.out _).mono ?_)); rintro e w1 ⟨rfl, rfl⟩))
                        go_wp2_with fail)
                      go_meet
                      case rel => exact ⟨by rw [HN.out], by rw [HN.out], by rw [HN.out]; exact hk, HC.out⟩
          · rw [if_neg hlt] at hst
            have HN := Lib.hid (hN.stop hst); clear hN hst
            have hok : Hid (∀ w1, Cur W w0 lb fb s x w1 → Calls Tryz.prog 63 #[.pointer (some ⟨lb, 0, none⟩), .int .i64 k] w1 (Did W w0 lb fb s (.bool false) x)) := by
              refine Lib.hid (fun w1 h1 => ?_)
              have := HOk.out w1 h1 k _ rfl (by omega)
              rw [show decide (k < r.length) = false from by simpa using hlt] at this; exact this
            go_wp2_with fail
            repeat (
              (first
                | ((with_reducible (refine (hok.out _ HC.out).mono ?_)); rintro e w1 ⟨rfl, hC1⟩; clear HC; have HC := Lib.hid hC1; clear hC1))
              go_wp2_with fail)
            go_meet
            case rel => exact ⟨by rw [HN.out], by rw [HN.out], by rw [HN.out]; exact hk, HC.out⟩
      case rest =>
        obtain ⟨rfl, rfl, hRl, hC2⟩ := hcut
        clear HC
        have HC := Lib.hid hC2; clear hC2
        have HSK := Lib.hid (skipNR HC.out R.1 (R.1 : Int) rfl (by omega))
        have hr1 : s.data.toList.drop (x.pos + R.1) = r.drop R.1 := by rw [← HRr.out, List.drop_drop]
        obtain ⟨n, it⟩ := R
        have hRl : n ≤ r.length := hRl
        have hr1 : s.data.toList.drop (x.pos + n) = r.drop n := hr1
        have hlr : (r.drop n).length = r.length - n := List.length_drop
        have hb1 : byteAt (r.drop n) 0 = byteAt r n := by rw [byteAt_drop]; rfl
        have HR1 := Lib.hid hr1; have HL1 := Lib.hid hlr; have HB1 := Lib.hid hb1
        clear hr1 hlr hb1
        have HN2 : Hid (number np r = if n < r.length ∧ idPart (byteAt r n) then
          (if np then Rs.ok ⟨kBad, [], if it then 10 else 0, n, none⟩ else .err n n)
          else .ok ⟨if it then kInt else kFloat, [], if it then 10 else 0, n, none⟩) := Lib.hid HN.out
        clear HN
        cases it with
        | true =>
          go_wp2_with fail
          refine HSK.out.mono ?_
          rintro e w1 ⟨rfl, hC1⟩
          have f1 := (hC1.lex.cell 1); have f6 := (hC1.lex.cell 6)
          obtain ⟨f1, g1⟩ := f1
          obtain ⟨f6, g6⟩ := f6
          simp [LexSt.cells] at f1 f6
          have HC1 := Lib.hid hC1; clear hC1
          go_wp2_with fail
          have HC2 : Hid (Cur W w0 lb fb s { x with kind := ⟨kInt.toArray⟩, base := 10, pos := x.pos + n } ((w1.setCell ⟨lb, 1, none⟩ (.string ⟨#[60, 105, 110, 116, 62]⟩)).setCell ⟨lb, 6, none⟩ (.int .i64 10))) := Lib.hid ((HC1.out.set 1 (.string ⟨kInt.toArray⟩) { x with kind := ⟨kInt.toArray⟩, pos := x.pos + n } (by simp [LexSt.cells]) HC1.out.pos).set 6 (.int .i64 10) { x with kind := ⟨kInt.toArray⟩, base := 10, pos := x.pos + n } (by simp [LexSt.cells]) HC1.out.pos)
          generalize ((w1.setCell ⟨lb, 1, none⟩ (.string ⟨#[60, 105, 110, 116, 62]⟩)).setCell ⟨lb, 6, none⟩ (.int .i64 10)) = w2 at *
          have HO := peekOkR HC2.out 0 0 rfl (by omega)
          have HP := fun w' (h' : Cur W w0 lb fb s { x with kind := ⟨kInt.toArray⟩, base := 10, pos := x.pos + n } w') => peekR h' 0 0 rfl
          have hc8 := (HC2.out.lex.cell 1)
          simp [LexSt.cells] at hc8
          obtain ⟨f1', g1'⟩ := hc8
          simp only [HR1.out] at HO HP
          rw [HL1.out] at HO HP
          rw [HB1.out] at HP
          have hib := fun w1 => isIdentPart_any (byteAt r n) w1
          by_cases hn : n < r.length
          · have hn1 : decide (0 < r.length - n) = true := by simp; omega
            rw [hn1] at HO
            have HP2 := fun w' h' => HP w' h' (by omega)
            have HO2 := Lib.hid HO; have HP3 := Lib.hid HP2
            clear HO HP HP2 hn1 f1 f6 g1 g6
            generalize byteAt r n = c at *
            cases hid : idPart c with
            | true =>
              simp only [hid] at hib
              have HIB := Lib.hid hib; clear hib
              cases np with
              | true =>
                have HN3 : number true r = Rs.ok ⟨kBad, [], 10, n, none⟩ := by rw [HN2.out, if_pos ⟨hn, hid⟩]; first | rfl | (rw [HX.out.2]; rfl)
                have HN4 := Lib.hid HN3; clear HN3 HN2 hid
                go_wp2_with fail
                refine HO2.out.mono ?_
                rintro e w3 ⟨rfl, hC3⟩
                have HC3 := Lib.hid hC3; clear hC3 f1' g1'
                go_wp2_with fail
                refine (HP3.out _ HC3.out).mono ?_
                rintro e w4 ⟨rfl, hC4⟩
                have hc8 := (hC4.lex.cell 1)
                simp [LexSt.cells] at hc8
                obtain ⟨f1, g1⟩ := hc8
                have HC4 := Lib.hid hC4; clear hC4
                go_wp2_with fail
                refine (HIB.out _).mono ?_
                rintro e w5 ⟨rfl, rfl⟩
                go_wp2_with fail
                refine bodyPost_ret (results_none rfl _ _ _) rfl ?_
                rw [← HPost.out, HN4.out]
                intro _
                refine ⟨rfl, ?_⟩
                rw [took_eq x HX.out.1]
                exact HC4.out.set 1 (.string ⟨kBad.toArray⟩) { x with kind := ⟨kBad.toArray⟩, base := 10, pos := x.pos + n } (by simp [LexSt.cells]) HC1.out.pos
              | false =>
                have HN3 : number false r = Rs.err n n := by rw [HN2.out, if_pos ⟨hn, hid⟩]; rfl
                have HN4 := Lib.hid HN3; clear HN3 HN2 hid
                go_wp2_with fail
                refine HO2.out.mono ?_
                rintro e w3 ⟨rfl, hC3⟩
                have HC3 := Lib.hid hC3; clear hC3 f1' g1'
                go_wp2_with fail
                refine (HP3.out _ HC3.out).mono ?_
                rintro e w4 ⟨rfl, hC4⟩
                have HC4 := Lib.hid hC4; clear hC4
                go_wp2_with fail
                refine (HIB.out _).mono ?_
                rintro e w5 ⟨rfl, rfl⟩
                go_wp2_with fail
                refine (panicf_any HC4.out _).mono ?_
                rintro e w6 ⟨EB, rfl, hE⟩
                have HE := Lib.hid hE; clear hE
                go_wp2_with fail
                refine ⟨rfl, ?_⟩
                rw [← HPost.out, HN4.out]
                intro _ _
                exact ⟨EB, rfl, HE.out⟩
            | false =>
              simp only [hid] at hib
              have HIB := Lib.hid hib; clear hib
              have HN3 : number np r = Rs.ok ⟨kInt, [], 10, n, none⟩ := by rw [HN2.out, if_neg (by rw [hid]; simp)]; first | rfl | (rw [HX.out.2]; rfl)
              have HN4 := Lib.hid HN3; clear HN3 HN2 hid
              go_wp2_with fail
              refine HO2.out.mono ?_
              rintro e w3 ⟨rfl, hC3⟩
              have HC3 := Lib.hid hC3; clear hC3 f1' g1'
              go_wp2_with fail
              refine (HP3.out _ HC3.out).mono ?_
              rintro e w4 ⟨rfl, hC4⟩
              have HC4 := Lib.hid hC4; clear hC4
              go_wp2_with fail
              refine (HIB.out _).mono ?_
              rintro e w5 ⟨rfl, rfl⟩
              go_wp2_with fail
              go_end0
              rw [← HPost.out, HN4.out]
              intro _
              refine ⟨rfl, ?_⟩
              rw [took_eq x HX.out.1]; exact HC4.out
          · have hn1 : decide (0 < r.length - n) = false := by simp; omega
            rw [hn1] at HO
            have HO2 := Lib.hid HO
            have HN3 : number np r = Rs.ok ⟨kInt, [], 10, n, none⟩ := by rw [HN2.out, if_neg (fun hh => hn hh.1)]; first | rfl | (rw [HX.out.2]; rfl)
            have HN4 := Lib.hid HN3
            clear HO HP hn1 f1 f6 g1 g6 hib HN2 HN3 f1' g1'
            go_wp2_with fail
            refine HO2.out.mono ?_
            rintro e w3 ⟨rfl, hC3⟩
            have HC3 := Lib.hid hC3; clear hC3
            go_wp2_with fail
            go_end0
            rw [← HPost.out, HN4.out]
            intro _
            refine ⟨rfl, ?_⟩
            rw [took_eq x HX.out.1]; exact HC3.out
        | false =>
          go_wp2_with fail
          refine HSK.out.mono ?_
          rintro e w1 ⟨rfl, hC1⟩
          have f1 := (hC1.lex.cell 1); have f6 := (hC1.lex.cell 6)
          obtain ⟨f1, g1⟩ := f1
          obtain ⟨f6, g6⟩ := f6
          simp [LexSt.cells] at f1 f6
          have HC1 := Lib.hid hC1; clear hC1
          go_wp2_with fail
          have HC2 : Hid (Cur W w0 lb fb s { x with kind := ⟨kFloat.toArray⟩, base := x.base, pos := x.pos + n } (w1.setCell ⟨lb, 1, none⟩ (.string ⟨#[60, 102, 108, 111, 97, 116, 62]⟩))) := Lib.hid (HC1.out.set 1 (.string ⟨kFloat.toArray⟩) { x with kind := ⟨kFloat.toArray⟩, pos := x.pos + n } (by simp [LexSt.cells]) HC1.out.pos)
          generalize (w1.setCell ⟨lb, 1, none⟩ (.string ⟨#[60, 102, 108, 111, 97, 116, 62]⟩)) = w2 at *
          have HO := peekOkR HC2.out 0 0 rfl (by omega)
          have HP := fun w' (h' : Cur W w0 lb fb s { x with kind := ⟨kFloat.toArray⟩, base := x.base, pos := x.pos + n } w') => peekR h' 0 0 rfl
          have hc8 := (HC2.out.lex.cell 1)
          simp [LexSt.cells] at hc8
          obtain ⟨f1', g1'⟩ := hc8
          simp only [HR1.out] at HO HP
          rw [HL1.out] at HO HP
          rw [HB1.out] at HP
          have hib := fun w1 => isIdentPart_any (byteAt r n) w1
          by_cases hn : n < r.length
          · have hn1 : decide (0 < r.length - n) = true := by simp; omega
            rw [hn1] at HO
            have HP2 := fun w' h' => HP w' h' (by omega)
            have HO2 := Lib.hid HO; have HP3 := Lib.hid HP2
            clear HO HP HP2 hn1 f1 f6 g1 g6
            generalize byteAt r n = c at *
            cases hid : idPart c with
            | true =>
              simp only [hid] at hib
              have HIB := Lib.hid hib; clear hib
              cases np with
              | true =>
                have HN3 : number true r = Rs.ok ⟨kBad, [], x.base, n, none⟩ := by rw [HN2.out, if_pos ⟨hn, hid⟩]; first | rfl | (rw [HX.out.2]; rfl)
                have HN4 := Lib.hid HN3; clear HN3 HN2 hid
                go_wp2_with fail
                refine HO2.out.mono ?_
                rintro e w3 ⟨rfl, hC3⟩
                have HC3 := Lib.hid hC3; clear hC3 f1' g1'
                go_wp2_with fail
                refine (HP3.out _ HC3.out).mono ?_
                rintro e w4 ⟨rfl, hC4⟩
                have hc8 := (hC4.lex.cell 1)
                simp [LexSt.cells] at hc8
                obtain ⟨f1, g1⟩ := hc8
                have HC4 := Lib.hid hC4; clear hC4
                go_wp2_with fail
                refine (HIB.out _).mono ?_
                rintro e w5 ⟨rfl, rfl⟩
                go_wp2_with fail
                refine bodyPost_ret (results_none rfl _ _ _) rfl ?_
                rw [← HPost.out, HN4.out]
                intro _
                refine ⟨rfl, ?_⟩
                rw [took_eq x HX.out.1]
                exact HC4.out.set 1 (.string ⟨kBad.toArray⟩) { x with kind := ⟨kBad.toArray⟩, base := x.base, pos := x.pos + n } (by simp [LexSt.cells]) HC1.out.pos
              | false =>
                have HN3 : number false r = Rs.err n n := by rw [HN2.out, if_pos ⟨hn, hid⟩]; rfl
                have HN4 := Lib.hid HN3; clear HN3 HN2 hid
                go_wp2_with fail
                refine HO2.out.mono ?_
                rintro e w3 ⟨rfl, hC3⟩
                have HC3 := Lib.hid hC3; clear hC3 f1' g1'
                go_wp2_with fail
                refine (HP3.out _ HC3.out).mono ?_
                rintro e w4 ⟨rfl, hC4⟩
                have HC4 := Lib.hid hC4; clear hC4
                go_wp2_with fail
                refine (HIB.out _).mono ?_
                rintro e w5 ⟨rfl, rfl⟩
                go_wp2_with fail
                refine (panicf_any HC4.out _).mono ?_
                rintro e w6 ⟨EB, rfl, hE⟩
                have HE := Lib.hid hE; clear hE
                go_wp2_with fail
                refine ⟨rfl, ?_⟩
                rw [← HPost.out, HN4.out]
                intro _ _
                exact ⟨EB, rfl, HE.out⟩
            | false =>
              simp only [hid] at hib
              have HIB := Lib.hid hib; clear hib
              have HN3 : number np r = Rs.ok ⟨kFloat, [], x.base, n, none⟩ := by rw [HN2.out, if_neg (by rw [hid]; simp)]; first | rfl | (rw [HX.out.2]; rfl)
              have HN4 := Lib.hid HN3; clear HN3 HN2 hid
              go_wp2_with fail
              refine HO2.out.mono ?_
              rintro e w3 ⟨rfl, hC3⟩
              have HC3 := Lib.hid hC3; clear hC3 f1' g1'
              go_wp2_with fail
              refine (HP3.out _ HC3.out).mono ?_
              rintro e w4 ⟨rfl, hC4⟩
              have HC4 := Lib.hid hC4; clear hC4
              go_wp2_with fail
              refine (HIB.out _).mono ?_
              rintro e w5 ⟨rfl, rfl⟩
              go_wp2_with fail
              go_end0
              rw [← HPost.out, HN4.out]
              intro _
              refine ⟨rfl, ?_⟩
              rw [took_eq x HX.out.1]; exact HC4.out
          · have hn1 : decide (0 < r.length - n) = false := by simp; omega
            rw [hn1] at HO
            have HO2 := Lib.hid HO
            have HN3 : number np r = Rs.ok ⟨kFloat, [], x.base, n, none⟩ := by rw [HN2.out, if_neg (fun hh => hn hh.1)]; first | rfl | (rw [HX.out.2]; rfl)
            have HN4 := Lib.hid HN3
            clear HO HP hn1 f1 f6 g1 g6 hib HN2 HN3 f1' g1'
            go_wp2_with fail
            refine HO2.out.mono ?_
            rintro e w3 ⟨rfl, hC3⟩
            have HC3 := Lib.hid hC3; clear hC3
            go_wp2_with fail
            go_end0
            rw [← HPost.out, HN4.out]
            intro _
            refine ⟨rfl, ?_⟩
            rw [took_eq x HX.out.1]; exact HC3.out
    | true =>
      have HS1 : Hid (NumAt r true R 2 true false) := Lib.hid HS0.out
      have hk2 : 2 ≤ r.length := HK0.out
      clear HS0 HK0
      go_upto_block 0 with fail
      go_cut [4, 6] (fun s4 s6 wx => s4 = .int .i64 (R.1 : Int) ∧ s6 = .bool R.2 ∧ R.1 ≤ r.length ∧ Cur W w0 lb fb s x wx)
      case first =>
        go_wp2_with fail
        go_loopg [4, 6, 7] (r.length - 2) (fun g s4 s6 s7 wx => ∃ k : Nat, k ≤ r.length ∧ g = r.length - k ∧ s4 = .int .i64 k ∧ s6 = .bool true ∧ s7 = .bool false ∧ NumAt r true R k true false ∧ Cur W w0 lb fb s x wx)
        case atStart => exact ⟨2, hk2, rfl, rfl, rfl, rfl, HS1.out, HC.out⟩
        case round =>
          obtain ⟨k, hk, rfl, rfl, rfl, rfl, hN, hC⟩ := hrel
          clear HC; have HC := Lib.hid hC; clear hC
          have hst : numStep r true k true false = if k < r.length then (if hexd (byteAt r k) then some (k + 1, true, false) else none) else none := by
            unfold numStep; simp
          by_cases hlt : k < r.length
          · rw [if_pos hlt] at hst
            have hok : Hid (∀ w1, Cur W w0 lb fb s x w1 → Calls Tryz.prog 63 #[.pointer (some ⟨lb, 0, none⟩), .int .i64 k] w1 (Did W w0 lb fb s (.bool true) x)) := by
              refine Lib.hid (fun w1 h1 => ?_)
              have := HOk.out w1 h1 k _ rfl (by omega)
              rw [show decide (k < r.length) = true from by simpa using hlt] at this; exact this
            have hpk : Hid (∀ w1, Cur W w0 lb fb s x w1 → Calls Tryz.prog 65 #[.pointer (some ⟨lb, 0, none⟩), .int .i64 k] w1 (Did W w0 lb fb s (.int .u8 (byteAt r k)) x)) := Lib.hid (fun w1 h1 => HPk.out w1 h1 k _ rfl hlt)
            have hhx : Hid (∀ w1, Calls Tryz.prog 84 #[.int .u8 (byteAt r k)] w1 fun e w' => e = .returned (.bool (hexd (byteAt r k))) ∧ w1 = w') := Lib.hid (fun w1 => isHex_any _ w1)
            have hbd := byteAt_bd r k
            generalize byteAt r k = c at *
            cases hdc : hexd c with
            | true =>
              rw [hdc] at hhx hst
              rw [if_pos rfl] at hst
              have HNG := Lib.hid (hN.go hk hst); clear hN hst hdc
              go_wp2_with fail
              repeat (
                (first
                  | ((with_reducible (refine (hok.out _ HC.out).mono ?_)); rintro e w1 ⟨rfl, hC1⟩; clear HC; have HC := Lib.hid hC1; clear hC1)
                  | ((with_reducible (refine (hpk.out _ HC.out).mono ?_)); rintro e w1 ⟨rfl, hC1⟩; clear HC; have HC := Lib.hid hC1; clear hC1)
                  | ((with_reducible (refine (hhx.out _).mono ?_)); rintro e w1 ⟨rfl, rfl⟩))
                go_wp2_with fail)
              go_roundg (r.length - (k + 1))
              case measure => omega
              case rel => exact ⟨k + 1, by omega, rfl, by rw [show ((k + 1 : Nat) : Int) = (k : Int) + 1 from by omega], rfl, rfl, HNG.out.1, HC.out⟩
            | false =>
              rw [hdc] at hhx hst
              rw [if_neg (by decide)] at hst
              have HNG := Lib.hid (hN.stop hst); clear hN hst hdc
              go_wp2_with fail
              repeat (
                (first
                  | ((with_reducible (refine (hok.out _ HC.out).mono ?_)); rintro e w1 ⟨rfl, hC1⟩; clear HC; have HC := Lib.hid hC1; clear hC1)
                  | ((with_reducible (refine (hpk.out _ HC.out).mono ?_)); rintro e w1 ⟨rfl, hC1⟩; clear HC; have HC := Lib.hid hC1; clear hC1)
                  | ((with_reducible (refine (hhx.out _).mono ?_)); rintro e w1 ⟨rfl, rfl⟩))
                go_wp2_with fail)
              go_meet
              case rel => exact ⟨by rw [HNG.out], by rw [HNG.out], by rw [HNG.out]; exact hk, HC.out⟩
          · rw [if_neg hlt] at hst
            have HNG := Lib.hid (hN.stop hst); clear hN hst
            have hok : Hid (∀ w1, Cur W w0 lb fb s x w1 → Calls Tryz.prog 63 #[.pointer (some ⟨lb, 0, none⟩), .int .i64 k] w1 (Did W w0 lb fb s (.bool false) x)) := by
              refine Lib.hid (fun w1 h1 => ?_)
              have := HOk.out w1 h1 k _ rfl (by omega)
              rw [show decide (k < r.length) = false from by simpa using hlt] at this; exact this
            go_wp2_with fail
            repeat (
              (first
                | ((with_reducible (refine (hok.out _ HC.out).mono ?_)); rintro e w1 ⟨rfl, hC1⟩; clear HC; have HC := Lib.hid hC1; clear hC1))
              go_wp2_with fail)
            go_meet
            case rel => exact ⟨by rw [HNG.out], by rw [HNG.out], by rw [HNG.out]; exact hk, HC.out⟩
      case rest =>
        obtain ⟨rfl, rfl, hRl, hC2⟩ := hcut
        clear HC
        have HC := Lib.hid hC2; clear hC2
        have HSK := Lib.hid (skipNR HC.out R.1 (R.1 : Int) rfl (by omega))
        have hr1 : s.data.toList.drop (x.pos + R.1) = r.drop R.1 := by rw [← HRr.out, List.drop_drop]
        obtain ⟨n, it⟩ := R
        have hRl : n ≤ r.length := hRl
        have hr1 : s.data.toList.drop (x.pos + n) = r.drop n := hr1
        have hlr : (r.drop n).length = r.length - n := List.length_drop
        have hb1 : byteAt (r.drop n) 0 = byteAt r n := by rw [byteAt_drop]; rfl
        have HR1 := Lib.hid hr1; have HL1 := Lib.hid hlr; have HB1 := Lib.hid hb1
        clear hr1 hlr hb1
        have HN2 : Hid (number np r = if n < r.length ∧ idPart (byteAt r n) then
          (if np then Rs.ok ⟨kBad, [], if it then 16 else 0, n, none⟩ else .err n n)
          else .ok ⟨if it then kInt else kFloat, [], if it then 16 else 0, n, none⟩) := Lib.hid HN.out
        clear HN
        cases it with
        | true =>
          go_wp2_with fail
          refine HSK.out.mono ?_
          rintro e w1 ⟨rfl, hC1⟩
          have f1 := (hC1.lex.cell 1); have f6 := (hC1.lex.cell 6)
          obtain ⟨f1, g1⟩ := f1
          obtain ⟨f6, g6⟩ := f6
          simp [LexSt.cells] at f1 f6
          have HC1 := Lib.hid hC1; clear hC1
          go_wp2_with fail
          have HC2 : Hid (Cur W w0 lb fb s { x with kind := ⟨kInt.toArray⟩, base := 16, pos := x.pos + n } ((w1.setCell ⟨lb, 1, none⟩ (.string ⟨#[60, 105, 110, 116, 62]⟩)).setCell ⟨lb, 6, none⟩ (.int .i64 16))) := Lib.hid ((HC1.out.set 1 (.string ⟨kInt.toArray⟩) { x with kind := ⟨kInt.toArray⟩, pos := x.pos + n } (by simp [LexSt.cells]) HC1.out.pos).set 6 (.int .i64 16) { x with kind := ⟨kInt.toArray⟩, base := 16, pos := x.pos + n } (by simp [LexSt.cells]) HC1.out.pos)
          generalize ((w1.setCell ⟨lb, 1, none⟩ (.string ⟨#[60, 105, 110, 116, 62]⟩)).setCell ⟨lb, 6, none⟩ (.int .i64 16)) = w2 at *
          have HO := peekOkR HC2.out 0 0 rfl (by omega)
          have HP := fun w' (h' : Cur W w0 lb fb s { x with kind := ⟨kInt.toArray⟩, base := 16, pos := x.pos + n } w') => peekR h' 0 0 rfl
          have hc8 := (HC2.out.lex.cell 1)
          simp [LexSt.cells] at hc8
          obtain ⟨f1', g1'⟩ := hc8
          simp only [HR1.out] at HO HP
          rw [HL1.out] at HO HP
          rw [HB1.out] at HP
          have hib := fun w1 => isIdentPart_any (byteAt r n) w1
          by_cases hn : n < r.length
          · have hn1 : decide (0 < r.length - n) = true := by simp; omega
            rw [hn1] at HO
            have HP2 := fun w' h' => HP w' h' (by omega)
            have HO2 := Lib.hid HO; have HP3 := Lib.hid HP2
            clear HO HP HP2 hn1 f1 f6 g1 g6
            generalize byteAt r n = c at *
            cases hid : idPart c with
            | true =>
              simp only [hid] at hib
              have HIB := Lib.hid hib; clear hib
              cases np with
              | true =>
                have HN3 : number true r = Rs.ok ⟨kBad, [], 16, n, none⟩ := by rw [HN2.out, if_pos ⟨hn, hid⟩]; first | rfl | (rw [HX.out.2]; rfl)
                have HN4 := Lib.hid HN3; clear HN3 HN2 hid
                go_wp2_with fail
                refine HO2.out.mono ?_
                rintro e w3 ⟨rfl, hC3⟩
                have HC3 := Lib.hid hC3; clear hC3 f1' g1'
                go_wp2_with fail
                refine (HP3.out _ HC3.out).mono ?_
                rintro e w4 ⟨rfl, hC4⟩
                have hc8 := (hC4.lex.cell 1)
                simp [LexSt.cells] at hc8
                obtain ⟨f1, g1⟩ := hc8
                have HC4 := Lib.hid hC4; clear hC4
                go_wp2_with fail
                refine (HIB.out _).mono ?_
                rintro e w5 ⟨rfl, rfl⟩
                go_wp2_with fail
                refine bodyPost_ret (results_none rfl _ _ _) rfl ?_
                rw [← HPost.out, HN4.out]
                intro _
                refine ⟨rfl, ?_⟩
                rw [took_eq x HX.out.1]
                exact HC4.out.set 1 (.string ⟨kBad.toArray⟩) { x with kind := ⟨kBad.toArray⟩, base := 16, pos := x.pos + n } (by simp [LexSt.cells]) HC1.out.pos
              | false =>
                have HN3 : number false r = Rs.err n n := by rw [HN2.out, if_pos ⟨hn, hid⟩]; rfl
                have HN4 := Lib.hid HN3; clear HN3 HN2 hid
                go_wp2_with fail
                refine HO2.out.mono ?_
                rintro e w3 ⟨rfl, hC3⟩
                have HC3 := Lib.hid hC3; clear hC3 f1' g1'
                go_wp2_with fail
                refine (HP3.out _ HC3.out).mono ?_
                rintro e w4 ⟨rfl, hC4⟩
                have HC4 := Lib.hid hC4; clear hC4
                go_wp2_with fail
                refine (HIB.out _).mono ?_
                rintro e w5 ⟨rfl, rfl⟩
                go_wp2_with fail
                refine (panicf_any HC4.out _).mono ?_
                rintro e w6 ⟨EB, rfl, hE⟩
                have HE := Lib.hid hE; clear hE
                go_wp2_with fail
                refine ⟨rfl, ?_⟩
                rw [← HPost.out, HN4.out]
                intro _ _
                exact ⟨EB, rfl, HE.out⟩
            | false =>
              simp only [hid] at hib
              have HIB := Lib.hid hib; clear hib
              have HN3 : number np r = Rs.ok ⟨kInt, [], 16, n, none⟩ := by rw [HN2.out, if_neg (by rw [hid]; simp)]; first | rfl | (rw [HX.out.2]; rfl)
              have HN4 := Lib.hid HN3; clear HN3 HN2 hid
              go_wp2_with fail
              refine HO2.out.mono ?_
              rintro e w3 ⟨rfl, hC3⟩
              have HC3 := Lib.hid hC3; clear hC3 f1' g1'
              go_wp2_with fail
              refine (HP3.out _ HC3.out).mono ?_
              rintro e w4 ⟨rfl, hC4⟩
              have HC4 := Lib.hid hC4; clear hC4
              go_wp2_with fail
              refine (HIB.out _).mono ?_
              rintro e w5 ⟨rfl, rfl⟩
              go_wp2_with fail
              go_end0
              rw [← HPost.out, HN4.out]
              intro _
              refine ⟨rfl, ?_⟩
              rw [took_eq x HX.out.1]; exact HC4.out
          · have hn1 : decide (0 < r.length - n) = false := by simp; omega
            rw [hn1] at HO
            have HO2 := Lib.hid HO
            have HN3 : number np r = Rs.ok ⟨kInt, [], 16, n, none⟩ := by rw [HN2.out, if_neg (fun hh => hn hh.1)]; first | rfl | (rw [HX.out.2]; rfl)
            have HN4 := Lib.hid HN3
            clear HO HP hn1 f1 f6 g1 g6 hib HN2 HN3 f1' g1'
            go_wp2_with fail
            refine HO2.out.mono ?_
            rintro e w3 ⟨rfl, hC3⟩
            have HC3 := Lib.hid hC3; clear hC3
            go_wp2_with fail
            go_end0
            rw [← HPost.out, HN4.out]
            intro _
            refine ⟨rfl, ?_⟩
            rw [took_eq x HX.out.1]; exact HC3.out
        | false =>
          go_wp2_with fail
          refine HSK.out.mono ?_
          rintro e w1 ⟨rfl, hC1⟩
          have f1 := (hC1.lex.cell 1); have f6 := (hC1.lex.cell 6)
          obtain ⟨f1, g1⟩ := f1
          obtain ⟨f6, g6⟩ := f6
          simp [LexSt.cells] at f1 f6
          have HC1 := Lib.hid hC1; clear hC1
          go_wp2_with fail
          have HC2 : Hid (Cur W w0 lb fb s { x with kind := ⟨kFloat.toArray⟩, base := x.base, pos := x.pos + n } (w1.setCell ⟨lb, 1, none⟩ (.string ⟨#[60, 102, 108, 111, 97, 116, 62]⟩))) := Lib.hid (HC1.out.set 1 (.string ⟨kFloat.toArray⟩) { x with kind := ⟨kFloat.toArray⟩, pos := x.pos + n } (by simp [LexSt.cells]) HC1.out.pos)
          generalize (w1.setCell ⟨lb, 1, none⟩ (.string ⟨#[60, 102, 108, 111, 97, 116, 62]⟩)) = w2 at *
          have HO := peekOkR HC2.out 0 0 rfl (by omega)
          have HP := fun w' (h' : Cur W w0 lb fb s { x with kind := ⟨kFloat.toArray⟩, base := x.base, pos := x.pos + n } w') => peekR h' 0 0 rfl
          have hc8 := (HC2.out.lex.cell 1)
          simp [LexSt.cells] at hc8
          obtain ⟨f1', g1'⟩ := hc8
          simp only [HR1.out] at HO HP
          rw [HL1.out] at HO HP
          rw [HB1.out] at HP
          have hib := fun w1 => isIdentPart_any (byteAt r n) w1
          by_cases hn : n < r.length
          · have hn1 : decide (0 < r.length - n) = true := by simp; omega
            rw [hn1] at HO
            have HP2 := fun w' h' => HP w' h' (by omega)
            have HO2 := Lib.hid HO; have HP3 := Lib.hid HP2
            clear HO HP HP2 hn1 f1 f6 g1 g6
            generalize byteAt r n = c at *
            cases hid : idPart c with
            | true =>
              simp only [hid] at hib
              have HIB := Lib.hid hib; clear hib
              cases np with
              | true =>
                have HN3 : number true r = Rs.ok ⟨kBad, [], x.base, n, none⟩ := by rw [HN2.out, if_pos ⟨hn, hid⟩]; first | rfl | (rw [HX.out.2]; rfl)
                have HN4 := Lib.hid HN3; clear HN3 HN2 hid
                go_wp2_with fail
                refine HO2.out.mono ?_
                rintro e w3 ⟨rfl, hC3⟩
                have HC3 := Lib.hid hC3; clear hC3 f1' g1'
                go_wp2_with fail
                refine (HP3.out _ HC3.out).mono ?_
                rintro e w4 ⟨rfl, hC4⟩
                have hc8 := (hC4.lex.cell 1)
                simp [LexSt.cells] at hc8
                obtain ⟨f1, g1⟩ := hc8
                have HC4 := Lib.hid hC4; clear hC4
                go_wp2_with fail
                refine (HIB.out _).mono ?_
                rintro e w5 ⟨rfl, rfl⟩
                go_wp2_with fail
                refine bodyPost_ret (results_none rfl _ _ _) rfl ?_
                rw [← HPost.out, HN4.out]
                intro _
                refine ⟨rfl, ?_⟩
                rw [took_eq x HX.out.1]
                exact HC4.out.set 1 (.string ⟨kBad.toArray⟩) { x with kind := ⟨kBad.toArray⟩, base := x.base, pos := x.pos + n } (by simp [LexSt.cells]) HC1.out.pos
              | false =>
                have HN3 : number false r = Rs.err n n := by rw [HN2.out, if_pos ⟨hn, hid⟩]; rfl
                have HN4 := Lib.hid HN3; clear HN3 HN2 hid
                go_wp2_with fail
                refine HO2.out.mono ?_
                rintro e w3 ⟨rfl, hC3⟩
                have HC3 := Lib.hid hC3; clear hC3 f1' g1'
                go_wp2_with fail
                refine (HP3.out _ HC3.out).mono ?_
                rintro e w4 ⟨rfl, hC4⟩
                have HC4 := Lib.hid hC4; clear hC4
                go_wp2_with fail
                refine (HIB.out _).mono ?_
                rintro e w5 ⟨rfl, rfl⟩
                go_wp2_with fail
                refine (panicf_any HC4.out _).mono ?_
                rintro e w6 ⟨EB, rfl, hE⟩
                have HE := Lib.hid hE; clear hE
                go_wp2_with fail
                refine ⟨rfl, ?_⟩
                rw [← HPost.out, HN4.out]
                intro _ _
                exact ⟨EB, rfl, HE.out⟩
            | false =>
              simp only [hid] at hib
              have HIB := Lib.hid hib; clear hib
              have HN3 : number np r = Rs.ok ⟨kFloat, [], x.base, n, none⟩ := by rw [HN2.out, if_neg (by rw [hid]; simp)]; first | rfl | (rw [HX.out.2]; rfl)
              have HN4 := Lib.hid HN3; clear HN3 HN2 hid
              go_wp2_with fail
              refine HO2.out.mono ?_
              rintro e w3 ⟨rfl, hC3⟩
              have HC3 := Lib.hid hC3; clear hC3 f1' g1'
              go_wp2_with fail
              refine (HP3.out _ HC3.out).mono ?_
              rintro e w4 ⟨rfl, hC4⟩
              have HC4 := Lib.hid hC4; clear hC4
              go_wp2_with fail
              refine (HIB.out _).mono ?_
              rintro e w5 ⟨rfl, rfl⟩
              go_wp2_with fail
              go_end0
              rw [← HPost.out, HN4.out]
              intro _
              refine ⟨rfl, ?_⟩
              rw [took_eq x HX.out.1]; exact HC4.out
          · have hn1 : decide (0 < r.length - n) = false := by simp; omega
            rw [hn1] at HO
            have HO2 := Lib.hid HO
            have HN3 : number np r = Rs.ok ⟨kFloat, [], x.base, n, none⟩ := by rw [HN2.out, if_neg (fun hh => hn hh.1)]; first | rfl | (rw [HX.out.2]; rfl)
            have HN4 := Lib.hid HN3
            clear HO HP hn1 f1 f6 g1 g6 hib HN2 HN3 f1' g1'
            go_wp2_with fail
            refine HO2.out.mono ?_
            rintro e w3 ⟨rfl, hC3⟩
            have HC3 := Lib.hid hC3; clear hC3
            go_wp2_with fail
            go_end0
            rw [← HPost.out, HN4.out]
            intro _
            refine ⟨rfl, ?_⟩
            rw [took_eq x HX.out.1]; exact HC3.out
end Go.Proofs.YtcelnnjjakiehaaGreatDoor
