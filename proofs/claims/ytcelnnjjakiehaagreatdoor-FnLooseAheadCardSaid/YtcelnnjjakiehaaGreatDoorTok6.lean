/-
  Behind @; a name in backquotes.
-/
import Derived.Test.YtcelnnjjakiehaaGreatDoorTok5
import Derived.Test.YtcelnnjjakiehaaGreatDoorTok4
namespace Go.Proofs.YtcelnnjjakiehaaGreatDoor
open Go.RowKit
set_option linter.unusedVariables false
set_option maxRecDepth 1000000
set_option maxHeartbeats 16000000

theorem tk_at {W w0 w : World} {lb fb : Nat} {s : ByteArray} {x : LexSt} {r : List UInt8} (h : Cur W w0 lb fb s x w) (np : Bool) (hx : x.text = ⟨#[]⟩ ∧ x.base = 0) (hr : s.data.toList.drop x.pos = r) (hl : 0 < r.length) (hc : byteAt r 0 = 64) :
    Calls Tryz.prog 52 #[.pointer (some ⟨lb, 0, none⟩), .bool np] w (ReadN W w0 lb fb s x np (atTok r)) := by
  have hpos := h.pos
  have hsz := h.sz
  have hrl : r.length = s.size - x.pos := by rw [← hr]; exact h.len
  have HE : Hid (∀ w1, Cur W w0 lb fb s x w1 → Calls Tryz.prog 57 #[.pointer (some ⟨lb, 0, none⟩)] w1 (Did W w0 lb fb s (.bool false) x)) := Lib.hid (fun w1 h1 => by have := eofR h1; rw [show decide (s.size ≤ x.pos) = false from by simp; omega] at this; exact this)
  have HPK : Hid (∀ w1, Cur W w0 lb fb s x w1 → Calls Tryz.prog 65 #[.pointer (some ⟨lb, 0, none⟩), .int .i64 0] w1 (Did W w0 lb fb s (.int .u8 (byteAt r 0)) x)) := Lib.hid (fun w1 h1 => by have := peekR h1 0 0 rfl (by rw [hr]; exact hl); rw [hr] at this; exact this)
  have HSK : Hid (∀ w1, Cur W w0 lb fb s x w1 → Calls Tryz.prog 66 #[.pointer (some ⟨lb, 0, none⟩)] w1 (Did W w0 lb fb s (.int .u8 (byteAt r 0)) { x with pos := x.pos + 1 })) := Lib.hid (fun w1 h1 => by have := skipR h1 (by omega); rw [← hr, byteAt_drop]; exact this)
  have HIS : Hid (∀ w1, Cur W w0 lb fb s x w1 → ∀ c : Int, Calls Tryz.prog 61 #[.pointer (some ⟨lb, 0, none⟩), .int .i64 1, .int .u8 c] w1 (Did W w0 lb fb s (.bool (isAt r 1 c)) x)) := Lib.hid (fun w1 h1 c => by have := peekIsR h1 1 1 c rfl (by omega); rw [hr] at this; exact this)
  have HS2 : Hid (2 ≤ r.length → ∀ w1, Cur W w0 lb fb s x w1 → Calls Tryz.prog 60 #[.pointer (some ⟨lb, 0, none⟩), .int .i64 2] w1 (Did W w0 lb fb s (.tuple #[]) { x with pos := x.pos + 2 })) := Lib.hid (fun h2 w1 h1 => skipNR h1 2 2 rfl (by omega))
  rw [hc] at HPK HSK
  have hat : atTok r = if isAt r 1 64 then sym [64, 64] else if 1 < r.length ∧ idStart (byteAt r 1) = true then .ok ⟨kParam, (r.drop 1).take (wordLen (r.drop 1)), 0, 1 + wordLen (r.drop 1), none⟩ else sym [64] := rfl
  rw [hat]; clear hat
  cases hd : isAt r 1 64 with
  | true =>
    have h2 := len_two hd
    have HI : Hid (∀ w1, Cur W w0 lb fb s x w1 → Calls Tryz.prog 61 #[.pointer (some ⟨lb, 0, none⟩), .int .i64 1, .int .u8 64] w1 (Did W w0 lb fb s (.bool true) x)) := Lib.hid (fun w1 h1 => by have := HIS.out w1 h1 64; rw [hd] at this; exact this)
    rw [if_pos rfl]
    clear hd
    have HC := Lib.hid h; have HX := Lib.hid hx
    clear h hx hr
    go_enter Tryz.func52, Tryz.ntmps52
    go_wp2_with fail
    refine (HE.out _ HC.out).mono ?_
    rintro e w1 ⟨rfl, hC1⟩
    clear HC; have HC := Lib.hid hC1; clear hC1
    go_wp2_with fail
    refine (HPK.out _ HC.out).mono ?_
    rintro e w1 ⟨rfl, hC1⟩
    clear HC; have HC := Lib.hid hC1; clear hC1
    go_wp2_with fail
    refine (HI.out _ HC.out).mono ?_
    rintro e w1 ⟨rfl, hC1⟩
    clear HC; have HC := Lib.hid hC1; clear hC1
    go_wp2_with fail
    refine (HS2.out h2 _ HC.out).mono ?_
    rintro e w1 ⟨rfl, hC1⟩
    clear HC; have HC := Lib.hid hC1; clear hC1
    have k1 := (HC.out.lex.cell 1).1; have f1 := (HC.out.lex.cell 1).2
    simp only [LexSt.cells, List.getElem?_toArray, List.getElem?_cons_succ, List.getElem?_cons_zero] at k1
    go_wp2_with fail
    go_end0
    refine ReadN.of_ok (by show x.pos + 2 ≤ s.size; omega) (fun _ => by show 0 < 2; omega) ?_
    rw [took_sym x HX.out]
    exact ⟨rfl, HC.out.set 1 _ _ rfl (by show x.pos + 2 ≤ s.size; omega)⟩
  | false =>
    have HI : Hid (∀ w1, Cur W w0 lb fb s x w1 → Calls Tryz.prog 61 #[.pointer (some ⟨lb, 0, none⟩), .int .i64 1, .int .u8 64] w1 (Did W w0 lb fb s (.bool false) x)) := Lib.hid (fun w1 h1 => by have := HIS.out w1 h1 64; rw [hd] at this; exact this)
    rw [if_neg (by decide)]
    clear hd
    by_cases hl1 : 1 < r.length
    · have HOK1' : Hid (∀ w1, Cur W w0 lb fb s x w1 → Calls Tryz.prog 63 #[.pointer (some ⟨lb, 0, none⟩), .int .i64 1] w1 (Did W w0 lb fb s (.bool true) x)) := Lib.hid (fun w1 h1 => by have := peekOkR h1 1 1 rfl (by omega); rw [hr, show decide (1 < r.length) = true from by simpa using hl1] at this; exact this)
      have HPK1 : Hid (∀ w1, Cur W w0 lb fb s x w1 → Calls Tryz.prog 65 #[.pointer (some ⟨lb, 0, none⟩), .int .i64 1] w1 (Did W w0 lb fb s (.int .u8 (byteAt r 1)) x)) := Lib.hid (fun w1 h1 => by have := peekR h1 1 1 rfl (by rw [hr]; exact hl1); rw [hr] at this; exact this)
      cases hst : idStart (byteAt r 1) with
      | true =>
        rw [if_pos ⟨hl1, rfl⟩]
        have HST : Hid (∀ w1, Calls Tryz.prog 70 #[.int .u8 (byteAt r 1)] w1 fun e w' => e = .returned (.bool true) ∧ w1 = w') := Lib.hid (fun w1 => by have := isIdentStart_any (byteAt r 1) w1; rw [hst] at this; exact this)
        clear hst
        have HOK : Hid (∀ w1, Cur W w0 lb fb s x w1 → ∀ (k : Nat), k ≤ r.length → Calls Tryz.prog 63 #[.pointer (some ⟨lb, 0, none⟩), .int .i64 (k : Int)] w1 (Did W w0 lb fb s (.bool (decide (k < r.length))) x)) := Lib.hid (fun w1 h1 k hk => by have := peekOkR h1 k k rfl (by omega); rw [hr] at this; exact this)
        have HPKI : Hid (∀ w1, Cur W w0 lb fb s x w1 → ∀ (k : Nat), k < r.length → Calls Tryz.prog 65 #[.pointer (some ⟨lb, 0, none⟩), .int .i64 (k : Int)] w1 (Did W w0 lb fb s (.int .u8 (byteAt r k)) x)) := Lib.hid (fun w1 h1 k hk => by have := peekR h1 k k rfl (by rw [hr]; exact hk); rw [hr] at this; exact this)
        have hn1 : 1 + wordLen (r.drop 1) ≤ r.length := by have := wordLen_le (r.drop 1); rw [List.length_drop] at this; omega
        have hn0 : 1 ≤ 1 + wordLen (r.drop 1) := by omega
        have HIN : Hid (∀ i, 1 ≤ i → i < 1 + wordLen (r.drop 1) → idPart (byteAt r i) = true) := Lib.hid (fun i h0 h1 => by
          have := (wordLen_in (r.drop 1) (i - 1) (by omega)).2
          rw [byteAt_drop, show 1 + (i - 1) = i from by omega] at this; exact this)
        have HOUT : Hid (1 + wordLen (r.drop 1) < r.length → idPart (byteAt r (1 + wordLen (r.drop 1))) = false) := Lib.hid (fun hh => by
          have := wordLen_at (r.drop 1) (by rw [List.length_drop]; omega)
          rw [byteAt_drop] at this; exact this)
        have HSKN : Hid (∀ w1 y, Cur W w0 lb fb s y w1 → y.pos = x.pos → Calls Tryz.prog 60 #[.pointer (some ⟨lb, 0, none⟩), .int .i64 ((1 + wordLen (r.drop 1) : Nat) : Int)] w1 (Did W w0 lb fb s (.tuple #[]) { y with pos := y.pos + (1 + wordLen (r.drop 1)) })) := Lib.hid (fun w1 y h1 hy => skipNR h1 (1 + wordLen (r.drop 1)) _ rfl (by omega))
        have hex : ∀ n, n = 1 + wordLen (r.drop 1) → s.extract (x.pos + 1) (x.pos + n) = ⟨((r.drop 1).take (wordLen (r.drop 1))).toArray⟩ := by
          intro n hn
          apply ba_ext
          rw [sub_data, sub_drop, hr, hn]
          show sub r 1 (1 + wordLen (r.drop 1)) = _
          unfold sub
          rw [List.drop_take, show 1 + wordLen (r.drop 1) - 1 = wordLen (r.drop 1) from by omega]
        generalize (r.drop 1).take (wordLen (r.drop 1)) = V at *
        generalize 1 + wordLen (r.drop 1) = n at *
        have hex := hex n rfl
        have HC := Lib.hid h; have HX := Lib.hid hx
        clear h hx hr
        go_enter Tryz.func52, Tryz.ntmps52
        go_wp2_with fail
        refine (HE.out _ HC.out).mono ?_
        rintro e w1 ⟨rfl, hC1⟩
        clear HC; have HC := Lib.hid hC1; clear hC1
        go_wp2_with fail
        refine (HPK.out _ HC.out).mono ?_
        rintro e w1 ⟨rfl, hC1⟩
        clear HC; have HC := Lib.hid hC1; clear hC1
        go_wp2_with fail
        refine (HI.out _ HC.out).mono ?_
        rintro e w1 ⟨rfl, hC1⟩
        clear HC; have HC := Lib.hid hC1; clear hC1
        go_wp2_with fail
        refine (HOK1'.out _ HC.out).mono ?_
        rintro e w1 ⟨rfl, hC1⟩
        clear HC; have HC := Lib.hid hC1; clear hC1
        go_wp2_with fail
        refine (HPK1.out _ HC.out).mono ?_
        rintro e w1 ⟨rfl, hC1⟩
        clear HC; have HC := Lib.hid hC1; clear hC1
        go_wp2_with fail
        refine (HST.out _).mono ?_
        rintro e w2 ⟨rfl, rfl⟩
        go_wp2_with fail
        clear HOK1' HPK1
        refine wp_loop_ghost_k (fun g a wx => ∃ (t : Nat → Value) (i : Nat), a = TF5 t lb np i ∧ g = r.length - i ∧ 1 ≤ i ∧ i ≤ n ∧ Cur W w0 lb fb s x wx) (r.length - 1) ⟨_, 1, TF5.of _ rfl rfl rfl rfl, rfl, Nat.le_refl _, by omega, HC.out⟩ ?_
        rintro g a wx ⟨t2, i, rfl, rfl, hi0, hi1, hC⟩ J K hJ hK
        clear HC
        have HC := Lib.hid hC; have HJ := Lib.hid hJ
        clear hC hJ
        unfold TF5
        by_cases hlt : i < r.length
        · have hok := HOK.out
          have HOK1 : Hid (∀ w1, Cur W w0 lb fb s x w1 → Calls Tryz.prog 63 #[.pointer (some ⟨lb, 0, none⟩), .int .i64 (i : Int)] w1 (Did W w0 lb fb s (.bool true) x)) := Lib.hid (fun w1 h1 => by have := hok w1 h1 i (by omega); rw [show decide (i < r.length) = true from by simpa using hlt] at this; exact this)
          clear hok
          have HPI1 : Hid (∀ w1, Cur W w0 lb fb s x w1 → Calls Tryz.prog 65 #[.pointer (some ⟨lb, 0, none⟩), .int .i64 (i : Int)] w1 (Did W w0 lb fb s (.int .u8 (byteAt r i)) x)) := Lib.hid (fun w1 h1 => HPKI.out w1 h1 i hlt)
          by_cases hin : i < n
          · have hid := HIN.out i hi0 hin
            have HID : Hid (∀ w1, Calls Tryz.prog 64 #[.int .u8 (byteAt r i)] w1 fun e w' => e = .returned (.bool true) ∧ w1 = w') := Lib.hid (fun w1 => by have := isIdentPart_any (byteAt r i) w1; rw [hid] at this; exact this)
            clear hid
            generalize byteAt r i = ci at *
            go_wp2_with fail
            refine (HOK1.out _ HC.out).mono ?_
            rintro e w1 ⟨rfl, hC1⟩
            clear HC; have HC := Lib.hid hC1; clear hC1
            go_wp2_with fail
            refine (HPI1.out _ HC.out).mono ?_
            rintro e w1 ⟨rfl, hC1⟩
            clear HC; have HC := Lib.hid hC1; clear hC1
            go_wp2_with fail
            refine (HID.out _).mono ?_
            rintro e w2 ⟨rfl, rfl⟩
            go_wp2_with fail
            refine Handed.intro (r.length - (i + 1)) (by omega) ?_
            exact HJ.out _ _ _ ⟨_, i + 1, TF5.of _ rfl rfl rfl rfl, rfl, by omega, by omega, HC.out⟩
          · obtain rfl : n = i := by omega
            have hid := HOUT.out hlt
            have HID : Hid (∀ w1, Calls Tryz.prog 64 #[.int .u8 (byteAt r (n))] w1 fun e w' => e = .returned (.bool false) ∧ w1 = w') := Lib.hid (fun w1 => by have := isIdentPart_any (byteAt r (n)) w1; rw [hid] at this; exact this)
            clear hid HIN HOUT
            generalize byteAt r (n) = ci at *
            go_wp2_with fail
            refine (HOK1.out _ HC.out).mono ?_
            rintro e w1 ⟨rfl, hC1⟩
            clear HC; have HC := Lib.hid hC1; clear hC1
            go_wp2_with fail
            refine (HPI1.out _ HC.out).mono ?_
            rintro e w1 ⟨rfl, hC1⟩
            clear HC; have HC := Lib.hid hC1; clear hC1
            go_wp2_with fail
            refine (HID.out _).mono ?_
            rintro e w2 ⟨rfl, rfl⟩
            obtain ⟨c0, c9, c1⟩ := HC.out.lex.rd
            have k1 := (HC.out.lex.cell 1).1; have f1 := (HC.out.lex.cell 1).2
            have k5 := (HC.out.lex.cell 5).1; have f5 := (HC.out.lex.cell 5).2
            simp only [LexSt.cells, List.getElem?_toArray, List.getElem?_cons_succ, List.getElem?_cons_zero] at k1 k5
            have hne := HC.out.lex.ne
            go_wp2_with fail
            have hC1 : Cur W w0 lb fb s { x with kind := ⟨kParam.toArray⟩ } (w1.setCell ⟨lb, 1, none⟩ (.string ⟨kParam.toArray⟩)) := HC.out.set 1 _ _ rfl hpos
            change Code.wp _ _ _ _ (w1.setCell ⟨lb, 1, none⟩ (.string ⟨kParam.toArray⟩))
            generalize w1.setCell ⟨lb, 1, none⟩ (.string ⟨kParam.toArray⟩) = w3 at *
            clear HC c0 c9 c1 k1 f1 k5 f5
            have HC := Lib.hid hC1; clear hC1
            obtain ⟨c0, c9, c1⟩ := HC.out.lex.rd
            have hpI : (x.pos : Int) ≤ 1048576 := by omega
            have hwa : IntKind.i64.wrap ((x.pos : Int) + 1) = (x.pos : Int) + 1 := IntWalk.i64_in _ (by omega)
            have hwb : IntKind.i64.wrap ((x.pos : Int) + (n : Int)) = (x.pos : Int) + (n : Int) := IntWalk.i64_in _ (by omega)
            have hta : ((x.pos : Int) + 1).toNat = x.pos + 1 := by omega
            have htb : ((x.pos : Int) + (n : Int)).toNat = x.pos + n := by omega
            have hw3 : (0 : Int) ≤ (x.pos : Int) + 1 := by omega
            have hw5 : (x.pos : Int) + 1 ≤ (x.pos : Int) + (n : Int) := by omega
            have hw6 : (x.pos : Int) + (n : Int) ≤ (s.size : Int) := by omega
            go_still_tail 23, (by kernel_rfl)
            clear c0 c9 c1
            change wpList _ _ _ _ _ (w3.drewN 1)
            have HC2 := Lib.hid (HC.out.drewN 1)
            clear HC; have HC := HC2; clear HC2
            generalize w3.drewN 1 = w4 at *
            have k5 := (HC.out.lex.cell 5).1; have f5 := (HC.out.lex.cell 5).2
            simp only [LexSt.cells, List.getElem?_toArray, List.getElem?_cons_succ, List.getElem?_cons_zero] at k5
            go_wp2_with fail
            have hC1 : Cur W w0 lb fb s { x with kind := ⟨kParam.toArray⟩, text := ⟨V.toArray⟩ } (w4.setCell ⟨lb, 5, none⟩ (.string ⟨V.toArray⟩)) := HC.out.set 5 _ _ rfl hpos
            generalize w4.setCell ⟨lb, 5, none⟩ (.string ⟨V.toArray⟩) = w5 at *
            clear HC k5 f5
            have HC := Lib.hid hC1; clear hC1
            refine (HSKN.out _ _ HC.out rfl).mono ?_
            rintro e w6 ⟨rfl, hC1⟩
            clear HC; have HC := Lib.hid hC1; clear hC1
            go_wp2_with fail
            go_end0
            refine ReadN.of_ok (by show x.pos + n ≤ s.size; omega) (fun _ => by show 0 < n; omega) ?_
            rw [took_text x HX.out]
            exact ⟨rfl, HC.out⟩
        · obtain rfl : n = i := by omega
          have hok := HOK.out
          have HOK1 : Hid (∀ w1, Cur W w0 lb fb s x w1 → Calls Tryz.prog 63 #[.pointer (some ⟨lb, 0, none⟩), .int .i64 ((n : Nat) : Int)] w1 (Did W w0 lb fb s (.bool false) x)) := Lib.hid (fun w1 h1 => by have := hok w1 h1 (n) (by omega); rw [show decide ((n) < r.length) = false from by simpa using hlt] at this; exact this)
          clear hok HIN HOUT
          go_wp2_with fail
          refine (HOK1.out _ HC.out).mono ?_
          rintro e w1 ⟨rfl, hC1⟩
          clear HC; have HC := Lib.hid hC1; clear hC1
          obtain ⟨c0, c9, c1⟩ := HC.out.lex.rd
          have k1 := (HC.out.lex.cell 1).1; have f1 := (HC.out.lex.cell 1).2
          have k5 := (HC.out.lex.cell 5).1; have f5 := (HC.out.lex.cell 5).2
          simp only [LexSt.cells, List.getElem?_toArray, List.getElem?_cons_succ, List.getElem?_cons_zero] at k1 k5
          have hne := HC.out.lex.ne
          go_wp2_with fail
          have hC1 : Cur W w0 lb fb s { x with kind := ⟨kParam.toArray⟩ } (w1.setCell ⟨lb, 1, none⟩ (.string ⟨kParam.toArray⟩)) := HC.out.set 1 _ _ rfl hpos
          change Code.wp _ _ _ _ (w1.setCell ⟨lb, 1, none⟩ (.string ⟨kParam.toArray⟩))
          generalize w1.setCell ⟨lb, 1, none⟩ (.string ⟨kParam.toArray⟩) = w3 at *
          clear HC c0 c9 c1 k1 f1 k5 f5
          have HC := Lib.hid hC1; clear hC1
          obtain ⟨c0, c9, c1⟩ := HC.out.lex.rd
          have hpI : (x.pos : Int) ≤ 1048576 := by omega
          have hwa : IntKind.i64.wrap ((x.pos : Int) + 1) = (x.pos : Int) + 1 := IntWalk.i64_in _ (by omega)
          have hwb : IntKind.i64.wrap ((x.pos : Int) + (n : Int)) = (x.pos : Int) + (n : Int) := IntWalk.i64_in _ (by omega)
          have hta : ((x.pos : Int) + 1).toNat = x.pos + 1 := by omega
          have htb : ((x.pos : Int) + (n : Int)).toNat = x.pos + n := by omega
          have hw3 : (0 : Int) ≤ (x.pos : Int) + 1 := by omega
          have hw5 : (x.pos : Int) + 1 ≤ (x.pos : Int) + (n : Int) := by omega
          have hw6 : (x.pos : Int) + (n : Int) ≤ (s.size : Int) := by omega
          go_still_tail 23, (by kernel_rfl)
          clear c0 c9 c1
          change wpList _ _ _ _ _ (w3.drewN 1)
          have HC2 := Lib.hid (HC.out.drewN 1)
          clear HC; have HC := HC2; clear HC2
          generalize w3.drewN 1 = w4 at *
          have k5 := (HC.out.lex.cell 5).1; have f5 := (HC.out.lex.cell 5).2
          simp only [LexSt.cells, List.getElem?_toArray, List.getElem?_cons_succ, List.getElem?_cons_zero] at k5
          go_wp2_with fail
          have hC1 : Cur W w0 lb fb s { x with kind := ⟨kParam.toArray⟩, text := ⟨V.toArray⟩ } (w4.setCell ⟨lb, 5, none⟩ (.string ⟨V.toArray⟩)) := HC.out.set 5 _ _ rfl hpos
          generalize w4.setCell ⟨lb, 5, none⟩ (.string ⟨V.toArray⟩) = w5 at *
          clear HC k5 f5
          have HC := Lib.hid hC1; clear hC1
          refine (HSKN.out _ _ HC.out rfl).mono ?_
          rintro e w6 ⟨rfl, hC1⟩
          clear HC; have HC := Lib.hid hC1; clear hC1
          go_wp2_with fail
          go_end0
          refine ReadN.of_ok (by show x.pos + n ≤ s.size; omega) (fun _ => by show 0 < n; omega) ?_
          rw [took_text x HX.out]
          exact ⟨rfl, HC.out⟩
      | false =>
        rw [if_neg (by simp)]
        have HST : Hid (∀ w1, Calls Tryz.prog 70 #[.int .u8 (byteAt r 1)] w1 fun e w' => e = .returned (.bool false) ∧ w1 = w') := Lib.hid (fun w1 => by have := isIdentStart_any (byteAt r 1) w1; rw [hst] at this; exact this)
        clear hst
        have HC := Lib.hid h; have HX := Lib.hid hx
        clear h hx hr
        go_enter Tryz.func52, Tryz.ntmps52
        go_wp2_with fail
        refine (HE.out _ HC.out).mono ?_
        rintro e w1 ⟨rfl, hC1⟩
        clear HC; have HC := Lib.hid hC1; clear hC1
        go_wp2_with fail
        refine (HPK.out _ HC.out).mono ?_
        rintro e w1 ⟨rfl, hC1⟩
        clear HC; have HC := Lib.hid hC1; clear hC1
        go_wp2_with fail
        refine (HI.out _ HC.out).mono ?_
        rintro e w1 ⟨rfl, hC1⟩
        clear HC; have HC := Lib.hid hC1; clear hC1
        go_wp2_with fail
        refine (HOK1'.out _ HC.out).mono ?_
        rintro e w1 ⟨rfl, hC1⟩
        clear HC; have HC := Lib.hid hC1; clear hC1
        go_wp2_with fail
        refine (HPK1.out _ HC.out).mono ?_
        rintro e w1 ⟨rfl, hC1⟩
        clear HC; have HC := Lib.hid hC1; clear hC1
        go_wp2_with fail
        refine (HST.out _).mono ?_
        rintro e w2 ⟨rfl, rfl⟩
        go_wp2_with fail
        refine (HSK.out _ HC.out).mono ?_
        rintro e w1 ⟨rfl, hC1⟩
        clear HC; have HC := Lib.hid hC1; clear hC1
        have k1 := (HC.out.lex.cell 1).1; have f1 := (HC.out.lex.cell 1).2
        simp only [LexSt.cells, List.getElem?_toArray, List.getElem?_cons_succ, List.getElem?_cons_zero] at k1
        go_wp2_with fail
        go_end0
        refine ReadN.of_ok (by show x.pos + 1 ≤ s.size; omega) (fun _ => by show 0 < 1; omega) ?_
        rw [took_sym x HX.out]
        exact ⟨rfl, HC.out.set 1 _ _ rfl (by show x.pos + 1 ≤ s.size; omega)⟩
    · rw [if_neg (fun hh => hl1 hh.1)]
      have HOK1' : Hid (∀ w1, Cur W w0 lb fb s x w1 → Calls Tryz.prog 63 #[.pointer (some ⟨lb, 0, none⟩), .int .i64 1] w1 (Did W w0 lb fb s (.bool false) x)) := Lib.hid (fun w1 h1 => by have := peekOkR h1 1 1 rfl (by omega); rw [hr, show decide (1 < r.length) = false from by simpa using hl1] at this; exact this)
      have HC := Lib.hid h; have HX := Lib.hid hx
      clear h hx hr
      go_enter Tryz.func52, Tryz.ntmps52
      go_wp2_with fail
      refine (HE.out _ HC.out).mono ?_
      rintro e w1 ⟨rfl, hC1⟩
      clear HC; have HC := Lib.hid hC1; clear hC1
      go_wp2_with fail
      refine (HPK.out _ HC.out).mono ?_
      rintro e w1 ⟨rfl, hC1⟩
      clear HC; have HC := Lib.hid hC1; clear hC1
      go_wp2_with fail
      refine (HI.out _ HC.out).mono ?_
      rintro e w1 ⟨rfl, hC1⟩
      clear HC; have HC := Lib.hid hC1; clear hC1
      go_wp2_with fail
      refine (HOK1'.out _ HC.out).mono ?_
      rintro e w1 ⟨rfl, hC1⟩
      clear HC; have HC := Lib.hid hC1; clear hC1
      go_wp2_with fail
      refine (HSK.out _ HC.out).mono ?_
      rintro e w1 ⟨rfl, hC1⟩
      clear HC; have HC := Lib.hid hC1; clear hC1
      have k1 := (HC.out.lex.cell 1).1; have f1 := (HC.out.lex.cell 1).2
      simp only [LexSt.cells, List.getElem?_toArray, List.getElem?_cons_succ, List.getElem?_cons_zero] at k1
      go_wp2_with fail
      go_end0
      refine ReadN.of_ok (by show x.pos + 1 ≤ s.size; omega) (fun _ => by show 0 < 1; omega) ?_
      rw [took_sym x HX.out]
      exact ⟨rfl, HC.out.set 1 _ _ rfl (by show x.pos + 1 ≤ s.size; omega)⟩
end Go.Proofs.YtcelnnjjakiehaaGreatDoor
