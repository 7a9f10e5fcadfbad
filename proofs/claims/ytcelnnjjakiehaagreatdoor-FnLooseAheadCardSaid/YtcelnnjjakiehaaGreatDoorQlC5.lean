/-
  Rounds of consumeQuotedContent: simple escapes.
-/
import Derived.Test.YtcelnnjjakiehaaGreatDoorQlC1
namespace Go.Proofs.YtcelnnjjakiehaaGreatDoor
open Go.RowKit
set_option linter.unusedVariables false
set_option maxRecDepth 1000000
set_option maxHeartbeats 16000000

theorem q_esc_a {W w0 wx : World} {lb fb B i : Nat} {s q nm : ByteArray} {x : LexSt} {raw uni np he ident : Bool} {v : Value} {acc : List UInt8} {R : QR} {r : List UInt8} (t : Nat → Value) (hr : s.data.toList.drop x.pos = r) (hq : q.size = 1 ∨ q.size = 3) (hnm : (nm.toList == [105, 100, 101, 110, 116, 105, 102, 105, 101, 114]) = ident) (hi : i < r.length) (hacc : acc.length ≤ 4 * i)
    (hQ : QAt W w0 lb fb s x B v acc wx) (hrun : Link np he (qrun q.data.toList raw uni ident r i acc) R) (hgood : np = false → R.good r.length) (hcalm : np = true → calm r) (hc : q.data.toList.isPrefixOf (r.drop i) = false) (h92 : byteAt r i = 92) (hlt : i + 1 < r.length) (hraw : raw = false) (hd : byteAt r (i + 1) = 97) {Kx : Act → World → Prop} {Post : Ending → World → Prop} (hPost : ∀ e w', QReadN W w0 lb fb s x np R e w' → Post e w') (J : Nat → Act → World → Prop) (K : Act → World → Prop)
    (hJ : ∀ g a w, QInv W w0 lb fb s x B q raw uni nm np ident r R g a w → J g a w) (hK : ∀ a w, Handed J (r.length - i) a w → K a w) :
    Code.wp Tryz.prog qbody (Exit.then K (Exit.inBlock 0 (Exit.then Kx (bodyPost Tryz.prog Tryz.f71 Post)))) (QFrame t lb q raw uni nm np he i v) wx := by
  have hsz := hQ.cur.sz
  have hpos := hQ.cur.pos
  have hrl : r.length = s.size - x.pos := by rw [← hr]; exact hQ.cur.len
  have hPK : Hid (∀ (acc' : List UInt8) (v' : Value) (w1 : World), QAt W w0 lb fb s x B v' acc' w1 → ∀ (k : Nat) (j : Int), j = k → k < r.length → Calls Tryz.prog 65 #[.pointer (some ⟨lb, 0, none⟩), .int .i64 j] w1 fun e w' => e = .returned (.int .u8 (byteAt r k)) ∧ QAt W w0 lb fb s x B v' acc' w') := Lib.hid (fun acc' v' w1 h1 k j hj hk => by have := peekQ h1 k j hj (by rw [hr]; exact hk); rw [hr] at this; exact this)
  have hOK : Hid (∀ (acc' : List UInt8) (v' : Value) (w1 : World), QAt W w0 lb fb s x B v' acc' w1 → ∀ (k : Nat) (j : Int), j = k → k < r.length → Calls Tryz.prog 63 #[.pointer (some ⟨lb, 0, none⟩), .int .i64 j] w1 fun e w' => e = .returned (.bool true) ∧ QAt W w0 lb fb s x B v' acc' w') := Lib.hid (fun acc' v' w1 h1 k j hj hk => by have := peekOkQ h1 k j hj (by omega); rw [hr, show decide (k < r.length) = true from by simpa using hk] at this; exact this)
  have hSL : Hid (∀ (acc' : List UInt8) (v' : Value) (w1 : World), QAt W w0 lb fb s x B v' acc' w1 → ∀ (a b : Nat) (j k : Int), j = a → k = b → a ≤ b → b ≤ 2000000 → a ≤ r.length → Calls Tryz.prog 76 #[.pointer (some ⟨lb, 0, none⟩), .int .i64 j, .int .i64 k] w1 fun e w' => e = .returned (.string ⟨(sub r a b).toArray⟩) ∧ QAt W w0 lb fb s x B v' acc' w') := Lib.hid (fun acc' v' w1 h1 a b j k hj hk hab hb ha => by have := sliceQ h1 a b j k hj hk hab hb (by rw [hr]; exact ha); rw [hr] at this; exact this)
  rw [qrun_in _ _ _ _ _ _ _ hi] at hrun
  subst hraw
  have hst : qstep q.data.toList false uni r i = .next 1 [7] := by
    unfold qstep
    rw [hc, if_neg (by decide), if_pos h92, if_pos hlt, hd]; rfl
  rw [hst] at hrun
  have hsub : ((⟨(sub r i (i + q.size)).toArray⟩ : ByteArray).toList == q.toList) = false := by rw [sub_pre]; exact hc
  have HSL2 : Hid (∀ w1, QAt W w0 lb fb s x B v acc w1 → Calls Tryz.prog 76 #[.pointer (some ⟨lb, 0, none⟩), .int .i64 (i : Int), .int .i64 ((i : Int) + (q.size : Int))] w1 fun e w' => e = .returned (.string ⟨(sub r i (i + q.size)).toArray⟩) ∧ QAt W w0 lb fb s x B v acc w') := Lib.hid (fun w1 h1 => hSL.out acc v w1 h1 i (i + q.size) _ _ rfl (by omega) (by omega) (by omega) (Nat.le_of_lt hi))
  generalize (⟨(sub r i (i + q.size)).toArray⟩ : ByteArray) = S at *
  obtain ⟨i0, hinf, hz0, hz1, hz2⟩ := info_parts info_u8q
  have HOK2 : Hid (∀ w1, QAt W w0 lb fb s x B v acc w1 → Calls Tryz.prog 63 #[.pointer (some ⟨lb, 0, none⟩), .int .i64 (i : Int)] w1 fun e w' => e = .returned (.bool true) ∧ QAt W w0 lb fb s x B v acc w') := Lib.hid (fun w1 h1 => hOK.out acc v w1 h1 i _ rfl hi)
  have hcb := byteAt_bd r i
  have HPK2 : Hid (∀ w1, QAt W w0 lb fb s x B v acc w1 → Calls Tryz.prog 65 #[.pointer (some ⟨lb, 0, none⟩), .int .i64 (i : Int)] w1 fun e w' => e = .returned (.int .u8 (byteAt r i)) ∧ QAt W w0 lb fb s x B v acc w') := Lib.hid (fun w1 h1 => hPK.out acc v w1 h1 i _ rfl hi)
  rw [h92] at HPK2
  have hdb := byteAt_bd r (i + 1)
  have HOK3 : Hid (∀ w1, QAt W w0 lb fb s x B v acc w1 → Calls Tryz.prog 63 #[.pointer (some ⟨lb, 0, none⟩), .int .i64 ((i : Int) + 1)] w1 fun e w' => e = .returned (.bool true) ∧ QAt W w0 lb fb s x B v acc w') := Lib.hid (fun w1 h1 => hOK.out acc v w1 h1 (i + 1) _ (by omega) hlt)
  have HPK3 : Hid (∀ w1, QAt W w0 lb fb s x B v acc w1 → Calls Tryz.prog 65 #[.pointer (some ⟨lb, 0, none⟩), .int .i64 ((i : Int) + 1)] w1 fun e w' => e = .returned (.int .u8 (byteAt r (i + 1))) ∧ QAt W w0 lb fb s x B v acc w') := Lib.hid (fun w1 h1 => hPK.out acc v w1 h1 (i + 1) _ (by omega) hlt)
  have HRUN := Lib.hid hrun; have HQ := Lib.hid hQ; have HPost := Lib.hid hPost; have HJ := Lib.hid hJ; have HNM := Lib.hid hnm; have HRr := Lib.hid hr
  rw [hd] at HPK3
  clear hrun hQ hPost hgood hcalm hst hJ hr hnm hOK hPK hSL hc h92 hd hdb
  unfold QFrame
  conv => arg 2; whnf
  go_wp2_with fail
  refine (HOK2.out _ HQ.out).mono ?_
  rintro e w1 ⟨rfl, hQ1⟩
  clear HQ; have HQ := Lib.hid hQ1; clear hQ1
  go_wp2_with fail
  refine (HSL2.out _ HQ.out).mono ?_
  rintro e w1 ⟨rfl, hQ1⟩
  clear HQ; have HQ := Lib.hid hQ1; clear hQ1
  go_wp2_with fail
  refine (HPK2.out _ HQ.out).mono ?_
  rintro e w1 ⟨rfl, hQ1⟩
  clear HQ; have HQ := Lib.hid hQ1; clear hQ1
  go_wp2_with fail
  refine (HOK3.out _ HQ.out).mono ?_
  rintro e w1 ⟨rfl, hQ1⟩
  clear HQ; have HQ := Lib.hid hQ1; clear hQ1
  go_wp2_with fail
  refine (HPK3.out _ HQ.out).mono ?_
  rintro e w1 ⟨rfl, hQ1⟩
  clear HQ; have HQ := Lib.hid hQ1; clear hQ1
  have hown := HQ.out.own
  have hB := HQ.out.hB
  go_wp2_with (at_builtin; go_loud (refine wpList_append_Own _ rfl (.tmp 138) (.tmp 139) 33 rfl B 5 i0 (.int .u8 0) 1 1 Tryz.underlying33 hinf hz0 hz1 hz2 rfl (by decide) _ _ _ rfl (hown.alloc _) ⟨w1.heap.size, 0, none⟩ 1 1 [.int .u8 7] rfl rfl (cell_one_new _ _ _) (by simp [Value.oneCell']) (by unfold maxLen; omega) (by omega) (by simp; omega) ?_))
  intro v' w2 hown1 hg1 hbk hne
  go_wp2_with fail
  refine Handed.intro (r.length - (i + 1 + 1)) ?_ ?_
  · omega
  · refine HJ.out _ _ _ (QInv.of (acc ++ [7]) _ rfl rfl rfl rfl rfl rfl rfl rfl rfl (by show _ = _; rfl) rfl rfl (by omega) (by simp; omega) ?_ HRUN.out)
    refine (HQ.out.alloc _).app hg1 ?_
    simpa [bv_append, bv] using hown1
theorem q_esc_b {W w0 wx : World} {lb fb B i : Nat} {s q nm : ByteArray} {x : LexSt} {raw uni np he ident : Bool} {v : Value} {acc : List UInt8} {R : QR} {r : List UInt8} (t : Nat → Value) (hr : s.data.toList.drop x.pos = r) (hq : q.size = 1 ∨ q.size = 3) (hnm : (nm.toList == [105, 100, 101, 110, 116, 105, 102, 105, 101, 114]) = ident) (hi : i < r.length) (hacc : acc.length ≤ 4 * i)
    (hQ : QAt W w0 lb fb s x B v acc wx) (hrun : Link np he (qrun q.data.toList raw uni ident r i acc) R) (hgood : np = false → R.good r.length) (hcalm : np = true → calm r) (hc : q.data.toList.isPrefixOf (r.drop i) = false) (h92 : byteAt r i = 92) (hlt : i + 1 < r.length) (hraw : raw = false) (hd : byteAt r (i + 1) = 98) {Kx : Act → World → Prop} {Post : Ending → World → Prop} (hPost : ∀ e w', QReadN W w0 lb fb s x np R e w' → Post e w') (J : Nat → Act → World → Prop) (K : Act → World → Prop)
    (hJ : ∀ g a w, QInv W w0 lb fb s x B q raw uni nm np ident r R g a w → J g a w) (hK : ∀ a w, Handed J (r.length - i) a w → K a w) :
    Code.wp Tryz.prog qbody (Exit.then K (Exit.inBlock 0 (Exit.then Kx (bodyPost Tryz.prog Tryz.f71 Post)))) (QFrame t lb q raw uni nm np he i v) wx := by
  have hsz := hQ.cur.sz
  have hpos := hQ.cur.pos
  have hrl : r.length = s.size - x.pos := by rw [← hr]; exact hQ.cur.len
  have hPK : Hid (∀ (acc' : List UInt8) (v' : Value) (w1 : World), QAt W w0 lb fb s x B v' acc' w1 → ∀ (k : Nat) (j : Int), j = k → k < r.length → Calls Tryz.prog 65 #[.pointer (some ⟨lb, 0, none⟩), .int .i64 j] w1 fun e w' => e = .returned (.int .u8 (byteAt r k)) ∧ QAt W w0 lb fb s x B v' acc' w') := Lib.hid (fun acc' v' w1 h1 k j hj hk => by have := peekQ h1 k j hj (by rw [hr]; exact hk); rw [hr] at this; exact this)
  have hOK : Hid (∀ (acc' : List UInt8) (v' : Value) (w1 : World), QAt W w0 lb fb s x B v' acc' w1 → ∀ (k : Nat) (j : Int), j = k → k < r.length → Calls Tryz.prog 63 #[.pointer (some ⟨lb, 0, none⟩), .int .i64 j] w1 fun e w' => e = .returned (.bool true) ∧ QAt W w0 lb fb s x B v' acc' w') := Lib.hid (fun acc' v' w1 h1 k j hj hk => by have := peekOkQ h1 k j hj (by omega); rw [hr, show decide (k < r.length) = true from by simpa using hk] at this; exact this)
  have hSL : Hid (∀ (acc' : List UInt8) (v' : Value) (w1 : World), QAt W w0 lb fb s x B v' acc' w1 → ∀ (a b : Nat) (j k : Int), j = a → k = b → a ≤ b → b ≤ 2000000 → a ≤ r.length → Calls Tryz.prog 76 #[.pointer (some ⟨lb, 0, none⟩), .int .i64 j, .int .i64 k] w1 fun e w' => e = .returned (.string ⟨(sub r a b).toArray⟩) ∧ QAt W w0 lb fb s x B v' acc' w') := Lib.hid (fun acc' v' w1 h1 a b j k hj hk hab hb ha => by have := sliceQ h1 a b j k hj hk hab hb (by rw [hr]; exact ha); rw [hr] at this; exact this)
  rw [qrun_in _ _ _ _ _ _ _ hi] at hrun
  subst hraw
  have hst : qstep q.data.toList false uni r i = .next 1 [8] := by
    unfold qstep
    rw [hc, if_neg (by decide), if_pos h92, if_pos hlt, hd]; rfl
  rw [hst] at hrun
  have hsub : ((⟨(sub r i (i + q.size)).toArray⟩ : ByteArray).toList == q.toList) = false := by rw [sub_pre]; exact hc
  have HSL2 : Hid (∀ w1, QAt W w0 lb fb s x B v acc w1 → Calls Tryz.prog 76 #[.pointer (some ⟨lb, 0, none⟩), .int .i64 (i : Int), .int .i64 ((i : Int) + (q.size : Int))] w1 fun e w' => e = .returned (.string ⟨(sub r i (i + q.size)).toArray⟩) ∧ QAt W w0 lb fb s x B v acc w') := Lib.hid (fun w1 h1 => hSL.out acc v w1 h1 i (i + q.size) _ _ rfl (by omega) (by omega) (by omega) (Nat.le_of_lt hi))
  generalize (⟨(sub r i (i + q.size)).toArray⟩ : ByteArray) = S at *
  obtain ⟨i0, hinf, hz0, hz1, hz2⟩ := info_parts info_u8q
  have HOK2 : Hid (∀ w1, QAt W w0 lb fb s x B v acc w1 → Calls Tryz.prog 63 #[.pointer (some ⟨lb, 0, none⟩), .int .i64 (i : Int)] w1 fun e w' => e = .returned (.bool true) ∧ QAt W w0 lb fb s x B v acc w') := Lib.hid (fun w1 h1 => hOK.out acc v w1 h1 i _ rfl hi)
  have hcb := byteAt_bd r i
  have HPK2 : Hid (∀ w1, QAt W w0 lb fb s x B v acc w1 → Calls Tryz.prog 65 #[.pointer (some ⟨lb, 0, none⟩), .int .i64 (i : Int)] w1 fun e w' => e = .returned (.int .u8 (byteAt r i)) ∧ QAt W w0 lb fb s x B v acc w') := Lib.hid (fun w1 h1 => hPK.out acc v w1 h1 i _ rfl hi)
  rw [h92] at HPK2
  have hdb := byteAt_bd r (i + 1)
  have HOK3 : Hid (∀ w1, QAt W w0 lb fb s x B v acc w1 → Calls Tryz.prog 63 #[.pointer (some ⟨lb, 0, none⟩), .int .i64 ((i : Int) + 1)] w1 fun e w' => e = .returned (.bool true) ∧ QAt W w0 lb fb s x B v acc w') := Lib.hid (fun w1 h1 => hOK.out acc v w1 h1 (i + 1) _ (by omega) hlt)
  have HPK3 : Hid (∀ w1, QAt W w0 lb fb s x B v acc w1 → Calls Tryz.prog 65 #[.pointer (some ⟨lb, 0, none⟩), .int .i64 ((i : Int) + 1)] w1 fun e w' => e = .returned (.int .u8 (byteAt r (i + 1))) ∧ QAt W w0 lb fb s x B v acc w') := Lib.hid (fun w1 h1 => hPK.out acc v w1 h1 (i + 1) _ (by omega) hlt)
  have HRUN := Lib.hid hrun; have HQ := Lib.hid hQ; have HPost := Lib.hid hPost; have HJ := Lib.hid hJ; have HNM := Lib.hid hnm; have HRr := Lib.hid hr
  rw [hd] at HPK3
  clear hrun hQ hPost hgood hcalm hst hJ hr hnm hOK hPK hSL hc h92 hd hdb
  unfold QFrame
  conv => arg 2; whnf
  go_wp2_with fail
  refine (HOK2.out _ HQ.out).mono ?_
  rintro e w1 ⟨rfl, hQ1⟩
  clear HQ; have HQ := Lib.hid hQ1; clear hQ1
  go_wp2_with fail
  refine (HSL2.out _ HQ.out).mono ?_
  rintro e w1 ⟨rfl, hQ1⟩
  clear HQ; have HQ := Lib.hid hQ1; clear hQ1
  go_wp2_with fail
  refine (HPK2.out _ HQ.out).mono ?_
  rintro e w1 ⟨rfl, hQ1⟩
  clear HQ; have HQ := Lib.hid hQ1; clear hQ1
  go_wp2_with fail
  refine (HOK3.out _ HQ.out).mono ?_
  rintro e w1 ⟨rfl, hQ1⟩
  clear HQ; have HQ := Lib.hid hQ1; clear hQ1
  go_wp2_with fail
  refine (HPK3.out _ HQ.out).mono ?_
  rintro e w1 ⟨rfl, hQ1⟩
  clear HQ; have HQ := Lib.hid hQ1; clear hQ1
  have hown := HQ.out.own
  have hB := HQ.out.hB
  go_wp2_with (at_builtin; go_loud (refine wpList_append_Own _ rfl (.tmp 143) (.tmp 144) 33 rfl B 5 i0 (.int .u8 0) 1 1 Tryz.underlying33 hinf hz0 hz1 hz2 rfl (by decide) _ _ _ rfl (hown.alloc _) ⟨w1.heap.size, 0, none⟩ 1 1 [.int .u8 8] rfl rfl (cell_one_new _ _ _) (by simp [Value.oneCell']) (by unfold maxLen; omega) (by omega) (by simp; omega) ?_))
  intro v' w2 hown1 hg1 hbk hne
  go_wp2_with fail
  refine Handed.intro (r.length - (i + 1 + 1)) ?_ ?_
  · omega
  · refine HJ.out _ _ _ (QInv.of (acc ++ [8]) _ rfl rfl rfl rfl rfl rfl rfl rfl rfl (by show _ = _; rfl) rfl rfl (by omega) (by simp; omega) ?_ HRUN.out)
    refine (HQ.out.alloc _).app hg1 ?_
    simpa [bv_append, bv] using hown1
theorem q_esc_f {W w0 wx : World} {lb fb B i : Nat} {s q nm : ByteArray} {x : LexSt} {raw uni np he ident : Bool} {v : Value} {acc : List UInt8} {R : QR} {r : List UInt8} (t : Nat → Value) (hr : s.data.toList.drop x.pos = r) (hq : q.size = 1 ∨ q.size = 3) (hnm : (nm.toList == [105, 100, 101, 110, 116, 105, 102, 105, 101, 114]) = ident) (hi : i < r.length) (hacc : acc.length ≤ 4 * i)
    (hQ : QAt W w0 lb fb s x B v acc wx) (hrun : Link np he (qrun q.data.toList raw uni ident r i acc) R) (hgood : np = false → R.good r.length) (hcalm : np = true → calm r) (hc : q.data.toList.isPrefixOf (r.drop i) = false) (h92 : byteAt r i = 92) (hlt : i + 1 < r.length) (hraw : raw = false) (hd : byteAt r (i + 1) = 102) {Kx : Act → World → Prop} {Post : Ending → World → Prop} (hPost : ∀ e w', QReadN W w0 lb fb s x np R e w' → Post e w') (J : Nat → Act → World → Prop) (K : Act → World → Prop)
    (hJ : ∀ g a w, QInv W w0 lb fb s x B q raw uni nm np ident r R g a w → J g a w) (hK : ∀ a w, Handed J (r.length - i) a w → K a w) :
    Code.wp Tryz.prog qbody (Exit.then K (Exit.inBlock 0 (Exit.then Kx (bodyPost Tryz.prog Tryz.f71 Post)))) (QFrame t lb q raw uni nm np he i v) wx := by
  have hsz := hQ.cur.sz
  have hpos := hQ.cur.pos
  have hrl : r.length = s.size - x.pos := by rw [← hr]; exact hQ.cur.len
  have hPK : Hid (∀ (acc' : List UInt8) (v' : Value) (w1 : World), QAt W w0 lb fb s x B v' acc' w1 → ∀ (k : Nat) (j : Int), j = k → k < r.length → Calls Tryz.prog 65 #[.pointer (some ⟨lb, 0, none⟩), .int .i64 j] w1 fun e w' => e = .returned (.int .u8 (byteAt r k)) ∧ QAt W w0 lb fb s x B v' acc' w') := Lib.hid (fun acc' v' w1 h1 k j hj hk => by have := peekQ h1 k j hj (by rw [hr]; exact hk); rw [hr] at this; exact this)
  have hOK : Hid (∀ (acc' : List UInt8) (v' : Value) (w1 : World), QAt W w0 lb fb s x B v' acc' w1 → ∀ (k : Nat) (j : Int), j = k → k < r.length → Calls Tryz.prog 63 #[.pointer (some ⟨lb, 0, none⟩), .int .i64 j] w1 fun e w' => e = .returned (.bool true) ∧ QAt W w0 lb fb s x B v' acc' w') := Lib.hid (fun acc' v' w1 h1 k j hj hk => by have := peekOkQ h1 k j hj (by omega); rw [hr, show decide (k < r.length) = true from by simpa using hk] at this; exact this)
  have hSL : Hid (∀ (acc' : List UInt8) (v' : Value) (w1 : World), QAt W w0 lb fb s x B v' acc' w1 → ∀ (a b : Nat) (j k : Int), j = a → k = b → a ≤ b → b ≤ 2000000 → a ≤ r.length → Calls Tryz.prog 76 #[.pointer (some ⟨lb, 0, none⟩), .int .i64 j, .int .i64 k] w1 fun e w' => e = .returned (.string ⟨(sub r a b).toArray⟩) ∧ QAt W w0 lb fb s x B v' acc' w') := Lib.hid (fun acc' v' w1 h1 a b j k hj hk hab hb ha => by have := sliceQ h1 a b j k hj hk hab hb (by rw [hr]; exact ha); rw [hr] at this; exact this)
  rw [qrun_in _ _ _ _ _ _ _ hi] at hrun
  subst hraw
  have hst : qstep q.data.toList false uni r i = .next 1 [12] := by
    unfold qstep
    rw [hc, if_neg (by decide), if_pos h92, if_pos hlt, hd]; rfl
  rw [hst] at hrun
  have hsub : ((⟨(sub r i (i + q.size)).toArray⟩ : ByteArray).toList == q.toList) = false := by rw [sub_pre]; exact hc
  have HSL2 : Hid (∀ w1, QAt W w0 lb fb s x B v acc w1 → Calls Tryz.prog 76 #[.pointer (some ⟨lb, 0, none⟩), .int .i64 (i : Int), .int .i64 ((i : Int) + (q.size : Int))] w1 fun e w' => e = .returned (.string ⟨(sub r i (i + q.size)).toArray⟩) ∧ QAt W w0 lb fb s x B v acc w') := Lib.hid (fun w1 h1 => hSL.out acc v w1 h1 i (i + q.size) _ _ rfl (by omega) (by omega) (by omega) (Nat.le_of_lt hi))
  generalize (⟨(sub r i (i + q.size)).toArray⟩ : ByteArray) = S at *
  obtain ⟨i0, hinf, hz0, hz1, hz2⟩ := info_parts info_u8q
  have HOK2 : Hid (∀ w1, QAt W w0 lb fb s x B v acc w1 → Calls Tryz.prog 63 #[.pointer (some ⟨lb, 0, none⟩), .int .i64 (i : Int)] w1 fun e w' => e = .returned (.bool true) ∧ QAt W w0 lb fb s x B v acc w') := Lib.hid (fun w1 h1 => hOK.out acc v w1 h1 i _ rfl hi)
  have hcb := byteAt_bd r i
  have HPK2 : Hid (∀ w1, QAt W w0 lb fb s x B v acc w1 → Calls Tryz.prog 65 #[.pointer (some ⟨lb, 0, none⟩), .int .i64 (i : Int)] w1 fun e w' => e = .returned (.int .u8 (byteAt r i)) ∧ QAt W w0 lb fb s x B v acc w') := Lib.hid (fun w1 h1 => hPK.out acc v w1 h1 i _ rfl hi)
  rw [h92] at HPK2
  have hdb := byteAt_bd r (i + 1)
  have HOK3 : Hid (∀ w1, QAt W w0 lb fb s x B v acc w1 → Calls Tryz.prog 63 #[.pointer (some ⟨lb, 0, none⟩), .int .i64 ((i : Int) + 1)] w1 fun e w' => e = .returned (.bool true) ∧ QAt W w0 lb fb s x B v acc w') := Lib.hid (fun w1 h1 => hOK.out acc v w1 h1 (i + 1) _ (by omega) hlt)
  have HPK3 : Hid (∀ w1, QAt W w0 lb fb s x B v acc w1 → Calls Tryz.prog 65 #[.pointer (some ⟨lb, 0, none⟩), .int .i64 ((i : Int) + 1)] w1 fun e w' => e = .returned (.int .u8 (byteAt r (i + 1))) ∧ QAt W w0 lb fb s x B v acc w') := Lib.hid (fun w1 h1 => hPK.out acc v w1 h1 (i + 1) _ (by omega) hlt)
  have HRUN := Lib.hid hrun; have HQ := Lib.hid hQ; have HPost := Lib.hid hPost; have HJ := Lib.hid hJ; have HNM := Lib.hid hnm; have HRr := Lib.hid hr
  rw [hd] at HPK3
  clear hrun hQ hPost hgood hcalm hst hJ hr hnm hOK hPK hSL hc h92 hd hdb
  unfold QFrame
  conv => arg 2; whnf
  go_wp2_with fail
  refine (HOK2.out _ HQ.out).mono ?_
  rintro e w1 ⟨rfl, hQ1⟩
  clear HQ; have HQ := Lib.hid hQ1; clear hQ1
  go_wp2_with fail
  refine (HSL2.out _ HQ.out).mono ?_
  rintro e w1 ⟨rfl, hQ1⟩
  clear HQ; have HQ := Lib.hid hQ1; clear hQ1
  go_wp2_with fail
  refine (HPK2.out _ HQ.out).mono ?_
  rintro e w1 ⟨rfl, hQ1⟩
  clear HQ; have HQ := Lib.hid hQ1; clear hQ1
  go_wp2_with fail
  refine (HOK3.out _ HQ.out).mono ?_
  rintro e w1 ⟨rfl, hQ1⟩
  clear HQ; have HQ := Lib.hid hQ1; clear hQ1
  go_wp2_with fail
  refine (HPK3.out _ HQ.out).mono ?_
  rintro e w1 ⟨rfl, hQ1⟩
  clear HQ; have HQ := Lib.hid hQ1; clear hQ1
  have hown := HQ.out.own
  have hB := HQ.out.hB
  go_wp2_with (at_builtin; go_loud (refine wpList_append_Own _ rfl (.tmp 148) (.tmp 149) 33 rfl B 5 i0 (.int .u8 0) 1 1 Tryz.underlying33 hinf hz0 hz1 hz2 rfl (by decide) _ _ _ rfl (hown.alloc _) ⟨w1.heap.size, 0, none⟩ 1 1 [.int .u8 12] rfl rfl (cell_one_new _ _ _) (by simp [Value.oneCell']) (by unfold maxLen; omega) (by omega) (by simp; omega) ?_))
  intro v' w2 hown1 hg1 hbk hne
  go_wp2_with fail
  refine Handed.intro (r.length - (i + 1 + 1)) ?_ ?_
  · omega
  · refine HJ.out _ _ _ (QInv.of (acc ++ [12]) _ rfl rfl rfl rfl rfl rfl rfl rfl rfl (by show _ = _; rfl) rfl rfl (by omega) (by simp; omega) ?_ HRUN.out)
    refine (HQ.out.alloc _).app hg1 ?_
    simpa [bv_append, bv] using hown1
theorem q_esc_n {W w0 wx : World} {lb fb B i : Nat} {s q nm : ByteArray} {x : LexSt} {raw uni np he ident : Bool} {v : Value} {acc : List UInt8} {R : QR} {r : List UInt8} (t : Nat → Value) (hr : s.data.toList.drop x.pos = r) (hq : q.size = 1 ∨ q.size = 3) (hnm : (nm.toList == [105, 100, 101, 110, 116, 105, 102, 105, 101, 114]) = ident) (hi : i < r.length) (hacc : acc.length ≤ 4 * i)
    (hQ : QAt W w0 lb fb s x B v acc wx) (hrun : Link np he (qrun q.data.toList raw uni ident r i acc) R) (hgood : np = false → R.good r.length) (hcalm : np = true → calm r) (hc : q.data.toList.isPrefixOf (r.drop i) = false) (h92 : byteAt r i = 92) (hlt : i + 1 < r.length) (hraw : raw = false) (hd : byteAt r (i + 1) = 110) {Kx : Act → World → Prop} {Post : Ending → World → Prop} (hPost : ∀ e w', QReadN W w0 lb fb s x np R e w' → Post e w') (J : Nat → Act → World → Prop) (K : Act → World → Prop)
    (hJ : ∀ g a w, QInv W w0 lb fb s x B q raw uni nm np ident r R g a w → J g a w) (hK : ∀ a w, Handed J (r.length - i) a w → K a w) :
    Code.wp Tryz.prog qbody (Exit.then K (Exit.inBlock 0 (Exit.then Kx (bodyPost Tryz.prog Tryz.f71 Post)))) (QFrame t lb q raw uni nm np he i v) wx := by
  have hsz := hQ.cur.sz
  have hpos := hQ.cur.pos
  have hrl : r.length = s.size - x.pos := by rw [← hr]; exact hQ.cur.len
  have hPK : Hid (∀ (acc' : List UInt8) (v' : Value) (w1 : World), QAt W w0 lb fb s x B v' acc' w1 → ∀ (k : Nat) (j : Int), j = k → k < r.length → Calls Tryz.prog 65 #[.pointer (some ⟨lb, 0, none⟩), .int .i64 j] w1 fun e w' => e = .returned (.int .u8 (byteAt r k)) ∧ QAt W w0 lb fb s x B v' acc' w') := Lib.hid (fun acc' v' w1 h1 k j hj hk => by have := peekQ h1 k j hj (by rw [hr]; exact hk); rw [hr] at this; exact this)
  have hOK : Hid (∀ (acc' : List UInt8) (v' : Value) (w1 : World), QAt W w0 lb fb s x B v' acc' w1 → ∀ (k : Nat) (j : Int), j = k → k < r.length → Calls Tryz.prog 63 #[.pointer (some ⟨lb, 0, none⟩), .int .i64 j] w1 fun e w' => e = .returned (.bool true) ∧ QAt W w0 lb fb s x B v' acc' w') := Lib.hid (fun acc' v' w1 h1 k j hj hk => by have := peekOkQ h1 k j hj (by omega); rw [hr, show decide (k < r.length) = true from by simpa using hk] at this; exact this)
  have hSL : Hid (∀ (acc' : List UInt8) (v' : Value) (w1 : World), QAt W w0 lb fb s x B v' acc' w1 → ∀ (a b : Nat) (j k : Int), j = a → k = b → a ≤ b → b ≤ 2000000 → a ≤ r.length → Calls Tryz.prog 76 #[.pointer (some ⟨lb, 0, none⟩), .int .i64 j, .int .i64 k] w1 fun e w' => e = .returned (.string ⟨(sub r a b).toArray⟩) ∧ QAt W w0 lb fb s x B v' acc' w') := Lib.hid (fun acc' v' w1 h1 a b j k hj hk hab hb ha => by have := sliceQ h1 a b j k hj hk hab hb (by rw [hr]; exact ha); rw [hr] at this; exact this)
  rw [qrun_in _ _ _ _ _ _ _ hi] at hrun
  subst hraw
  have hst : qstep q.data.toList false uni r i = .next 1 [10] := by
    unfold qstep
    rw [hc, if_neg (by decide), if_pos h92, if_pos hlt, hd]; rfl
  rw [hst] at hrun
  have hsub : ((⟨(sub r i (i + q.size)).toArray⟩ : ByteArray).toList == q.toList) = false := by rw [sub_pre]; exact hc
  have HSL2 : Hid (∀ w1, QAt W w0 lb fb s x B v acc w1 → Calls Tryz.prog 76 #[.pointer (some ⟨lb, 0, none⟩), .int .i64 (i : Int), .int .i64 ((i : Int) + (q.size : Int))] w1 fun e w' => e = .returned (.string ⟨(sub r i (i + q.size)).toArray⟩) ∧ QAt W w0 lb fb s x B v acc w') := Lib.hid (fun w1 h1 => hSL.out acc v w1 h1 i (i + q.size) _ _ rfl (by omega) (by omega) (by omega) (Nat.le_of_lt hi))
  generalize (⟨(sub r i (i + q.size)).toArray⟩ : ByteArray) = S at *
  obtain ⟨i0, hinf, hz0, hz1, hz2⟩ := info_parts info_u8q
  have HOK2 : Hid (∀ w1, QAt W w0 lb fb s x B v acc w1 → Calls Tryz.prog 63 #[.pointer (some ⟨lb, 0, none⟩), .int .i64 (i : Int)] w1 fun e w' => e = .returned (.bool true) ∧ QAt W w0 lb fb s x B v acc w') := Lib.hid (fun w1 h1 => hOK.out acc v w1 h1 i _ rfl hi)
  have hcb := byteAt_bd r i
  have HPK2 : Hid (∀ w1, QAt W w0 lb fb s x B v acc w1 → Calls Tryz.prog 65 #[.pointer (some ⟨lb, 0, none⟩), .int .i64 (i : Int)] w1 fun e w' => e = .returned (.int .u8 (byteAt r i)) ∧ QAt W w0 lb fb s x B v acc w') := Lib.hid (fun w1 h1 => hPK.out acc v w1 h1 i _ rfl hi)
  rw [h92] at HPK2
  have hdb := byteAt_bd r (i + 1)
  have HOK3 : Hid (∀ w1, QAt W w0 lb fb s x B v acc w1 → Calls Tryz.prog 63 #[.pointer (some ⟨lb, 0, none⟩), .int .i64 ((i : Int) + 1)] w1 fun e w' => e = .returned (.bool true) ∧ QAt W w0 lb fb s x B v acc w') := Lib.hid (fun w1 h1 => hOK.out acc v w1 h1 (i + 1) _ (by omega) hlt)
  have HPK3 : Hid (∀ w1, QAt W w0 lb fb s x B v acc w1 → Calls Tryz.prog 65 #[.pointer (some ⟨lb, 0, none⟩), .int .i64 ((i : Int) + 1)] w1 fun e w' => e = .returned (.int .u8 (byteAt r (i + 1))) ∧ QAt W w0 lb fb s x B v acc w') := Lib.hid (fun w1 h1 => hPK.out acc v w1 h1 (i + 1) _ (by omega) hlt)
  have HRUN := Lib.hid hrun; have HQ := Lib.hid hQ; have HPost := Lib.hid hPost; have HJ := Lib.hid hJ; have HNM := Lib.hid hnm; have HRr := Lib.hid hr
  rw [hd] at HPK3
  clear hrun hQ hPost hgood hcalm hst hJ hr hnm hOK hPK hSL hc h92 hd hdb
  unfold QFrame
  conv => arg 2; whnf
  go_wp2_with fail
  refine (HOK2.out _ HQ.out).mono ?_
  rintro e w1 ⟨rfl, hQ1⟩
  clear HQ; have HQ := Lib.hid hQ1; clear hQ1
  go_wp2_with fail
  refine (HSL2.out _ HQ.out).mono ?_
  rintro e w1 ⟨rfl, hQ1⟩
  clear HQ; have HQ := Lib.hid hQ1; clear hQ1
  go_wp2_with fail
  refine (HPK2.out _ HQ.out).mono ?_
  rintro e w1 ⟨rfl, hQ1⟩
  clear HQ; have HQ := Lib.hid hQ1; clear hQ1
  go_wp2_with fail
  refine (HOK3.out _ HQ.out).mono ?_
  rintro e w1 ⟨rfl, hQ1⟩
  clear HQ; have HQ := Lib.hid hQ1; clear hQ1
  go_wp2_with fail
  refine (HPK3.out _ HQ.out).mono ?_
  rintro e w1 ⟨rfl, hQ1⟩
  clear HQ; have HQ := Lib.hid hQ1; clear hQ1
  have hown := HQ.out.own
  have hB := HQ.out.hB
  go_wp2_with (at_builtin; go_loud (refine wpList_append_Own _ rfl (.tmp 153) (.tmp 154) 33 rfl B 5 i0 (.int .u8 0) 1 1 Tryz.underlying33 hinf hz0 hz1 hz2 rfl (by decide) _ _ _ rfl (hown.alloc _) ⟨w1.heap.size, 0, none⟩ 1 1 [.int .u8 10] rfl rfl (cell_one_new _ _ _) (by simp [Value.oneCell']) (by unfold maxLen; omega) (by omega) (by simp; omega) ?_))
  intro v' w2 hown1 hg1 hbk hne
  go_wp2_with fail
  refine Handed.intro (r.length - (i + 1 + 1)) ?_ ?_
  · omega
  · refine HJ.out _ _ _ (QInv.of (acc ++ [10]) _ rfl rfl rfl rfl rfl rfl rfl rfl rfl (by show _ = _; rfl) rfl rfl (by omega) (by simp; omega) ?_ HRUN.out)
    refine (HQ.out.alloc _).app hg1 ?_
    simpa [bv_append, bv] using hown1
theorem q_esc_r {W w0 wx : World} {lb fb B i : Nat} {s q nm : ByteArray} {x : LexSt} {raw uni np he ident : Bool} {v : Value} {acc : List UInt8} {R : QR} {r : List UInt8} (t : Nat → Value) (hr : s.data.toList.drop x.pos = r) (hq : q.size = 1 ∨ q.size = 3) (hnm : (nm.toList == [105, 100, 101, 110, 116, 105, 102, 105, 101, 114]) = ident) (hi : i < r.length) (hacc : acc.length ≤ 4 * i)
    (hQ : QAt W w0 lb fb s x B v acc wx) (hrun : Link np he (qrun q.data.toList raw uni ident r i acc) R) (hgood : np = false → R.good r.length) (hcalm : np = true → calm r) (hc : q.data.toList.isPrefixOf (r.drop i) = false) (h92 : byteAt r i = 92) (hlt : i + 1 < r.length) (hraw : raw = false) (hd : byteAt r (i + 1) = 114) {Kx : Act → World → Prop} {Post : Ending → World → Prop} (hPost : ∀ e w', QReadN W w0 lb fb s x np R e w' → Post e w') (J : Nat → Act → World → Prop) (K : Act → World → Prop)
    (hJ : ∀ g a w, QInv W w0 lb fb s x B q raw uni nm np ident r R g a w → J g a w) (hK : ∀ a w, Handed J (r.length - i) a w → K a w) :
    Code.wp Tryz.prog qbody (Exit.then K (Exit.inBlock 0 (Exit.then Kx (bodyPost Tryz.prog Tryz.f71 Post)))) (QFrame t lb q raw uni nm np he i v) wx := by
  have hsz := hQ.cur.sz
  have hpos := hQ.cur.pos
  have hrl : r.length = s.size - x.pos := by rw [← hr]; exact hQ.cur.len
  have hPK : Hid (∀ (acc' : List UInt8) (v' : Value) (w1 : World), QAt W w0 lb fb s x B v' acc' w1 → ∀ (k : Nat) (j : Int), j = k → k < r.length → Calls Tryz.prog 65 #[.pointer (some ⟨lb, 0, none⟩), .int .i64 j] w1 fun e w' => e = .returned (.int .u8 (byteAt r k)) ∧ QAt W w0 lb fb s x B v' acc' w') := Lib.hid (fun acc' v' w1 h1 k j hj hk => by have := peekQ h1 k j hj (by rw [hr]; exact hk); rw [hr] at this; exact this)
  have hOK : Hid (∀ (acc' : List UInt8) (v' : Value) (w1 : World), QAt W w0 lb fb s x B v' acc' w1 → ∀ (k : Nat) (j : Int), j = k → k < r.length → Calls Tryz.prog 63 #[.pointer (some ⟨lb, 0, none⟩), .int .i64 j] w1 fun e w' => e = .returned (.bool true) ∧ QAt W w0 lb fb s x B v' acc' w') := Lib.hid (fun acc' v' w1 h1 k j hj hk => by have := peekOkQ h1 k j hj (by omega); rw [hr, show decide (k < r.length) = true from by simpa using hk] at this; exact this)
  have hSL : Hid (∀ (acc' : List UInt8) (v' : Value) (w1 : World), QAt W w0 lb fb s x B v' acc' w1 → ∀ (a b : Nat) (j k : Int), j = a → k = b → a ≤ b → b ≤ 2000000 → a ≤ r.length → Calls Tryz.prog 76 #[.pointer (some ⟨lb, 0, none⟩), .int .i64 j, .int .i64 k] w1 fun e w' => e = .returned (.string ⟨(sub r a b).toArray⟩) ∧ QAt W w0 lb fb s x B v' acc' w') := Lib.hid (fun acc' v' w1 h1 a b j k hj hk hab hb ha => by have := sliceQ h1 a b j k hj hk hab hb (by rw [hr]; exact ha); rw [hr] at this; exact this)
  rw [qrun_in _ _ _ _ _ _ _ hi] at hrun
  subst hraw
  have hst : qstep q.data.toList false uni r i = .next 1 [13] := by
    unfold qstep
    rw [hc, if_neg (by decide), if_pos h92, if_pos hlt, hd]; rfl
  rw [hst] at hrun
  have hsub : ((⟨(sub r i (i + q.size)).toArray⟩ : ByteArray).toList == q.toList) = false := by rw [sub_pre]; exact hc
  have HSL2 : Hid (∀ w1, QAt W w0 lb fb s x B v acc w1 → Calls Tryz.prog 76 #[.pointer (some ⟨lb, 0, none⟩), .int .i64 (i : Int), .int .i64 ((i : Int) + (q.size : Int))] w1 fun e w' => e = .returned (.string ⟨(sub r i (i + q.size)).toArray⟩) ∧ QAt W w0 lb fb s x B v acc w') := Lib.hid (fun w1 h1 => hSL.out acc v w1 h1 i (i + q.size) _ _ rfl (by omega) (by omega) (by omega) (Nat.le_of_lt hi))
  generalize (⟨(sub r i (i + q.size)).toArray⟩ : ByteArray) = S at *
  obtain ⟨i0, hinf, hz0, hz1, hz2⟩ := info_parts info_u8q
  have HOK2 : Hid (∀ w1, QAt W w0 lb fb s x B v acc w1 → Calls Tryz.prog 63 #[.pointer (some ⟨lb, 0, none⟩), .int .i64 (i : Int)] w1 fun e w' => e = .returned (.bool true) ∧ QAt W w0 lb fb s x B v acc w') := Lib.hid (fun w1 h1 => hOK.out acc v w1 h1 i _ rfl hi)
  have hcb := byteAt_bd r i
  have HPK2 : Hid (∀ w1, QAt W w0 lb fb s x B v acc w1 → Calls Tryz.prog 65 #[.pointer (some ⟨lb, 0, none⟩), .int .i64 (i : Int)] w1 fun e w' => e = .returned (.int .u8 (byteAt r i)) ∧ QAt W w0 lb fb s x B v acc w') := Lib.hid (fun w1 h1 => hPK.out acc v w1 h1 i _ rfl hi)
  rw [h92] at HPK2
  have hdb := byteAt_bd r (i + 1)
  have HOK3 : Hid (∀ w1, QAt W w0 lb fb s x B v acc w1 → Calls Tryz.prog 63 #[.pointer (some ⟨lb, 0, none⟩), .int .i64 ((i : Int) + 1)] w1 fun e w' => e = .returned (.bool true) ∧ QAt W w0 lb fb s x B v acc w') := Lib.hid (fun w1 h1 => hOK.out acc v w1 h1 (i + 1) _ (by omega) hlt)
  have HPK3 : Hid (∀ w1, QAt W w0 lb fb s x B v acc w1 → Calls Tryz.prog 65 #[.pointer (some ⟨lb, 0, none⟩), .int .i64 ((i : Int) + 1)] w1 fun e w' => e = .returned (.int .u8 (byteAt r (i + 1))) ∧ QAt W w0 lb fb s x B v acc w') := Lib.hid (fun w1 h1 => hPK.out acc v w1 h1 (i + 1) _ (by omega) hlt)
  have HRUN := Lib.hid hrun; have HQ := Lib.hid hQ; have HPost := Lib.hid hPost; have HJ := Lib.hid hJ; have HNM := Lib.hid hnm; have HRr := Lib.hid hr
  rw [hd] at HPK3
  clear hrun hQ hPost hgood hcalm hst hJ hr hnm hOK hPK hSL hc h92 hd hdb
  unfold QFrame
  conv => arg 2; whnf
  go_wp2_with fail
  refine (HOK2.out _ HQ.out).mono ?_
  rintro e w1 ⟨rfl, hQ1⟩
  clear HQ; have HQ := Lib.hid hQ1; clear hQ1
  go_wp2_with fail
  refine (HSL2.out _ HQ.out).mono ?_
  rintro e w1 ⟨rfl, hQ1⟩
  clear HQ; have HQ := Lib.hid hQ1; clear hQ1
  go_wp2_with fail
  refine (HPK2.out _ HQ.out).mono ?_
  rintro e w1 ⟨rfl, hQ1⟩
  clear HQ; have HQ := Lib.hid hQ1; clear hQ1
  go_wp2_with fail
  refine (HOK3.out _ HQ.out).mono ?_
  rintro e w1 ⟨rfl, hQ1⟩
  clear HQ; have HQ := Lib.hid hQ1; clear hQ1
  go_wp2_with fail
  refine (HPK3.out _ HQ.out).mono ?_
  rintro e w1 ⟨rfl, hQ1⟩
  clear HQ; have HQ := Lib.hid hQ1; clear hQ1
  have hown := HQ.out.own
  have hB := HQ.out.hB
  go_wp2_with (at_builtin; go_loud (refine wpList_append_Own _ rfl (.tmp 158) (.tmp 159) 33 rfl B 5 i0 (.int .u8 0) 1 1 Tryz.underlying33 hinf hz0 hz1 hz2 rfl (by decide) _ _ _ rfl (hown.alloc _) ⟨w1.heap.size, 0, none⟩ 1 1 [.int .u8 13] rfl rfl (cell_one_new _ _ _) (by simp [Value.oneCell']) (by unfold maxLen; omega) (by omega) (by simp; omega) ?_))
  intro v' w2 hown1 hg1 hbk hne
  go_wp2_with fail
  refine Handed.intro (r.length - (i + 1 + 1)) ?_ ?_
  · omega
  · refine HJ.out _ _ _ (QInv.of (acc ++ [13]) _ rfl rfl rfl rfl rfl rfl rfl rfl rfl (by show _ = _; rfl) rfl rfl (by omega) (by simp; omega) ?_ HRUN.out)
    refine (HQ.out.alloc _).app hg1 ?_
    simpa [bv_append, bv] using hown1
theorem q_esc_t {W w0 wx : World} {lb fb B i : Nat} {s q nm : ByteArray} {x : LexSt} {raw uni np he ident : Bool} {v : Value} {acc : List UInt8} {R : QR} {r : List UInt8} (t : Nat → Value) (hr : s.data.toList.drop x.pos = r) (hq : q.size = 1 ∨ q.size = 3) (hnm : (nm.toList == [105, 100, 101, 110, 116, 105, 102, 105, 101, 114]) = ident) (hi : i < r.length) (hacc : acc.length ≤ 4 * i)
    (hQ : QAt W w0 lb fb s x B v acc wx) (hrun : Link np he (qrun q.data.toList raw uni ident r i acc) R) (hgood : np = false → R.good r.length) (hcalm : np = true → calm r) (hc : q.data.toList.isPrefixOf (r.drop i) = false) (h92 : byteAt r i = 92) (hlt : i + 1 < r.length) (hraw : raw = false) (hd : byteAt r (i + 1) = 116) {Kx : Act → World → Prop} {Post : Ending → World → Prop} (hPost : ∀ e w', QReadN W w0 lb fb s x np R e w' → Post e w') (J : Nat → Act → World → Prop) (K : Act → World → Prop)
    (hJ : ∀ g a w, QInv W w0 lb fb s x B q raw uni nm np ident r R g a w → J g a w) (hK : ∀ a w, Handed J (r.length - i) a w → K a w) :
    Code.wp Tryz.prog qbody (Exit.then K (Exit.inBlock 0 (Exit.then Kx (bodyPost Tryz.prog Tryz.f71 Post)))) (QFrame t lb q raw uni nm np he i v) wx := by
  have hsz := hQ.cur.sz
  have hpos := hQ.cur.pos
  have hrl : r.length = s.size - x.pos := by rw [← hr]; exact hQ.cur.len
  have hPK : Hid (∀ (acc' : List UInt8) (v' : Value) (w1 : World), QAt W w0 lb fb s x B v' acc' w1 → ∀ (k : Nat) (j : Int), j = k → k < r.length → Calls Tryz.prog 65 #[.pointer (some ⟨lb, 0, none⟩), .int .i64 j] w1 fun e w' => e = .returned (.int .u8 (byteAt r k)) ∧ QAt W w0 lb fb s x B v' acc' w') := Lib.hid (fun acc' v' w1 h1 k j hj hk => by have := peekQ h1 k j hj (by rw [hr]; exact hk); rw [hr] at this; exact this)
  have hOK : Hid (∀ (acc' : List UInt8) (v' : Value) (w1 : World), QAt W w0 lb fb s x B v' acc' w1 → ∀ (k : Nat) (j : Int), j = k → k < r.length → Calls Tryz.prog 63 #[.pointer (some ⟨lb, 0, none⟩), .int .i64 j] w1 fun e w' => e = .returned (.bool true) ∧ QAt W w0 lb fb s x B v' acc' w') := Lib.hid (fun acc' v' w1 h1 k j hj hk => by have := peekOkQ h1 k j hj (by omega); rw [hr, show decide (k < r.length) = true from by simpa using hk] at this; exact this)
  have hSL : Hid (∀ (acc' : List UInt8) (v' : Value) (w1 : World), QAt W w0 lb fb s x B v' acc' w1 → ∀ (a b : Nat) (j k : Int), j = a → k = b → a ≤ b → b ≤ 2000000 → a ≤ r.length → Calls Tryz.prog 76 #[.pointer (some ⟨lb, 0, none⟩), .int .i64 j, .int .i64 k] w1 fun e w' => e = .returned (.string ⟨(sub r a b).toArray⟩) ∧ QAt W w0 lb fb s x B v' acc' w') := Lib.hid (fun acc' v' w1 h1 a b j k hj hk hab hb ha => by have := sliceQ h1 a b j k hj hk hab hb (by rw [hr]; exact ha); rw [hr] at this; exact this)
  rw [qrun_in _ _ _ _ _ _ _ hi] at hrun
  subst hraw
  have hst : qstep q.data.toList false uni r i = .next 1 [9] := by
    unfold qstep
    rw [hc, if_neg (by decide), if_pos h92, if_pos hlt, hd]; rfl
  rw [hst] at hrun
  have hsub : ((⟨(sub r i (i + q.size)).toArray⟩ : ByteArray).toList == q.toList) = false := by rw [sub_pre]; exact hc
  have HSL2 : Hid (∀ w1, QAt W w0 lb fb s x B v acc w1 → Calls Tryz.prog 76 #[.pointer (some ⟨lb, 0, none⟩), .int .i64 (i : Int), .int .i64 ((i : Int) + (q.size : Int))] w1 fun e w' => e = .returned (.string ⟨(sub r i (i + q.size)).toArray⟩) ∧ QAt W w0 lb fb s x B v acc w') := Lib.hid (fun w1 h1 => hSL.out acc v w1 h1 i (i + q.size) _ _ rfl (by omega) (by omega) (by omega) (Nat.le_of_lt hi))
  generalize (⟨(sub r i (i + q.size)).toArray⟩ : ByteArray) = S at *
  obtain ⟨i0, hinf, hz0, hz1, hz2⟩ := info_parts info_u8q
  have HOK2 : Hid (∀ w1, QAt W w0 lb fb s x B v acc w1 → Calls Tryz.prog 63 #[.pointer (some ⟨lb, 0, none⟩), .int .i64 (i : Int)] w1 fun e w' => e = .returned (.bool true) ∧ QAt W w0 lb fb s x B v acc w') := Lib.hid (fun w1 h1 => hOK.out acc v w1 h1 i _ rfl hi)
  have hcb := byteAt_bd r i
  have HPK2 : Hid (∀ w1, QAt W w0 lb fb s x B v acc w1 → Calls Tryz.prog 65 #[.pointer (some ⟨lb, 0, none⟩), .int .i64 (i : Int)] w1 fun e w' => e = .returned (.int .u8 (byteAt r i)) ∧ QAt W w0 lb fb s x B v acc w') := Lib.hid (fun w1 h1 => hPK.out acc v w1 h1 i _ rfl hi)
  rw [h92] at HPK2
  have hdb := byteAt_bd r (i + 1)
  have HOK3 : Hid (∀ w1, QAt W w0 lb fb s x B v acc w1 → Calls Tryz.prog 63 #[.pointer (some ⟨lb, 0, none⟩), .int .i64 ((i : Int) + 1)] w1 fun e w' => e = .returned (.bool true) ∧ QAt W w0 lb fb s x B v acc w') := Lib.hid (fun w1 h1 => hOK.out acc v w1 h1 (i + 1) _ (by omega) hlt)
  have HPK3 : Hid (∀ w1, QAt W w0 lb fb s x B v acc w1 → Calls Tryz.prog 65 #[.pointer (some ⟨lb, 0, none⟩), .int .i64 ((i : Int) + 1)] w1 fun e w' => e = .returned (.int .u8 (byteAt r (i + 1))) ∧ QAt W w0 lb fb s x B v acc w') := Lib.hid (fun w1 h1 => hPK.out acc v w1 h1 (i + 1) _ (by omega) hlt)
  have HRUN := Lib.hid hrun; have HQ := Lib.hid hQ; have HPost := Lib.hid hPost; have HJ := Lib.hid hJ; have HNM := Lib.hid hnm; have HRr := Lib.hid hr
  rw [hd] at HPK3
  clear hrun hQ hPost hgood hcalm hst hJ hr hnm hOK hPK hSL hc h92 hd hdb
  unfold QFrame
  conv => arg 2; whnf
  go_wp2_with fail
  refine (HOK2.out _ HQ.out).mono ?_
  rintro e w1 ⟨rfl, hQ1⟩
  clear HQ; have HQ := Lib.hid hQ1; clear hQ1
  go_wp2_with fail
  refine (HSL2.out _ HQ.out).mono ?_
  rintro e w1 ⟨rfl, hQ1⟩
  clear HQ; have HQ := Lib.hid hQ1; clear hQ1
  go_wp2_with fail
  refine (HPK2.out _ HQ.out).mono ?_
  rintro e w1 ⟨rfl, hQ1⟩
  clear HQ; have HQ := Lib.hid hQ1; clear hQ1
  go_wp2_with fail
  refine (HOK3.out _ HQ.out).mono ?_
  rintro e w1 ⟨rfl, hQ1⟩
  clear HQ; have HQ := Lib.hid hQ1; clear hQ1
  go_wp2_with fail
  refine (HPK3.out _ HQ.out).mono ?_
  rintro e w1 ⟨rfl, hQ1⟩
  clear HQ; have HQ := Lib.hid hQ1; clear hQ1
  have hown := HQ.out.own
  have hB := HQ.out.hB
  go_wp2_with (at_builtin; go_loud (refine wpList_append_Own _ rfl (.tmp 163) (.tmp 164) 33 rfl B 5 i0 (.int .u8 0) 1 1 Tryz.underlying33 hinf hz0 hz1 hz2 rfl (by decide) _ _ _ rfl (hown.alloc _) ⟨w1.heap.size, 0, none⟩ 1 1 [.int .u8 9] rfl rfl (cell_one_new _ _ _) (by simp [Value.oneCell']) (by unfold maxLen; omega) (by omega) (by simp; omega) ?_))
  intro v' w2 hown1 hg1 hbk hne
  go_wp2_with fail
  refine Handed.intro (r.length - (i + 1 + 1)) ?_ ?_
  · omega
  · refine HJ.out _ _ _ (QInv.of (acc ++ [9]) _ rfl rfl rfl rfl rfl rfl rfl rfl rfl (by show _ = _; rfl) rfl rfl (by omega) (by simp; omega) ?_ HRUN.out)
    refine (HQ.out.alloc _).app hg1 ?_
    simpa [bv_append, bv] using hown1
theorem q_esc_v {W w0 wx : World} {lb fb B i : Nat} {s q nm : ByteArray} {x : LexSt} {raw uni np he ident : Bool} {v : Value} {acc : List UInt8} {R : QR} {r : List UInt8} (t : Nat → Value) (hr : s.data.toList.drop x.pos = r) (hq : q.size = 1 ∨ q.size = 3) (hnm : (nm.toList == [105, 100, 101, 110, 116, 105, 102, 105, 101, 114]) = ident) (hi : i < r.length) (hacc : acc.length ≤ 4 * i)
    (hQ : QAt W w0 lb fb s x B v acc wx) (hrun : Link np he (qrun q.data.toList raw uni ident r i acc) R) (hgood : np = false → R.good r.length) (hcalm : np = true → calm r) (hc : q.data.toList.isPrefixOf (r.drop i) = false) (h92 : byteAt r i = 92) (hlt : i + 1 < r.length) (hraw : raw = false) (hd : byteAt r (i + 1) = 118) {Kx : Act → World → Prop} {Post : Ending → World → Prop} (hPost : ∀ e w', QReadN W w0 lb fb s x np R e w' → Post e w') (J : Nat → Act → World → Prop) (K : Act → World → Prop)
    (hJ : ∀ g a w, QInv W w0 lb fb s x B q raw uni nm np ident r R g a w → J g a w) (hK : ∀ a w, Handed J (r.length - i) a w → K a w) :
    Code.wp Tryz.prog qbody (Exit.then K (Exit.inBlock 0 (Exit.then Kx (bodyPost Tryz.prog Tryz.f71 Post)))) (QFrame t lb q raw uni nm np he i v) wx := by
  have hsz := hQ.cur.sz
  have hpos := hQ.cur.pos
  have hrl : r.length = s.size - x.pos := by rw [← hr]; exact hQ.cur.len
  have hPK : Hid (∀ (acc' : List UInt8) (v' : Value) (w1 : World), QAt W w0 lb fb s x B v' acc' w1 → ∀ (k : Nat) (j : Int), j = k → k < r.length → Calls Tryz.prog 65 #[.pointer (some ⟨lb, 0, none⟩), .int .i64 j] w1 fun e w' => e = .returned (.int .u8 (byteAt r k)) ∧ QAt W w0 lb fb s x B v' acc' w') := Lib.hid (fun acc' v' w1 h1 k j hj hk => by have := peekQ h1 k j hj (by rw [hr]; exact hk); rw [hr] at this; exact this)
  have hOK : Hid (∀ (acc' : List UInt8) (v' : Value) (w1 : World), QAt W w0 lb fb s x B v' acc' w1 → ∀ (k : Nat) (j : Int), j = k → k < r.length → Calls Tryz.prog 63 #[.pointer (some ⟨lb, 0, none⟩), .int .i64 j] w1 fun e w' => e = .returned (.bool true) ∧ QAt W w0 lb fb s x B v' acc' w') := Lib.hid (fun acc' v' w1 h1 k j hj hk => by have := peekOkQ h1 k j hj (by omega); rw [hr, show decide (k < r.length) = true from by simpa using hk] at this; exact this)
  have hSL : Hid (∀ (acc' : List UInt8) (v' : Value) (w1 : World), QAt W w0 lb fb s x B v' acc' w1 → ∀ (a b : Nat) (j k : Int), j = a → k = b → a ≤ b → b ≤ 2000000 → a ≤ r.length → Calls Tryz.prog 76 #[.pointer (some ⟨lb, 0, none⟩), .int .i64 j, .int .i64 k] w1 fun e w' => e = .returned (.string ⟨(sub r a b).toArray⟩) ∧ QAt W w0 lb fb s x B v' acc' w') := Lib.hid (fun acc' v' w1 h1 a b j k hj hk hab hb ha => by have := sliceQ h1 a b j k hj hk hab hb (by rw [hr]; exact ha); rw [hr] at this; exact this)
  rw [qrun_in _ _ _ _ _ _ _ hi] at hrun
  subst hraw
  have hst : qstep q.data.toList false uni r i = .next 1 [11] := by
    unfold qstep
    rw [hc, if_neg (by decide), if_pos h92, if_pos hlt, hd]; rfl
  rw [hst] at hrun
  have hsub : ((⟨(sub r i (i + q.size)).toArray⟩ : ByteArray).toList == q.toList) = false := by rw [sub_pre]; exact hc
  have HSL2 : Hid (∀ w1, QAt W w0 lb fb s x B v acc w1 → Calls Tryz.prog 76 #[.pointer (some ⟨lb, 0, none⟩), .int .i64 (i : Int), .int .i64 ((i : Int) + (q.size : Int))] w1 fun e w' => e = .returned (.string ⟨(sub r i (i + q.size)).toArray⟩) ∧ QAt W w0 lb fb s x B v acc w') := Lib.hid (fun w1 h1 => hSL.out acc v w1 h1 i (i + q.size) _ _ rfl (by omega) (by omega) (by omega) (Nat.le_of_lt hi))
  generalize (⟨(sub r i (i + q.size)).toArray⟩ : ByteArray) = S at *
  obtain ⟨i0, hinf, hz0, hz1, hz2⟩ := info_parts info_u8q
  have HOK2 : Hid (∀ w1, QAt W w0 lb fb s x B v acc w1 → Calls Tryz.prog 63 #[.pointer (some ⟨lb, 0, none⟩), .int .i64 (i : Int)] w1 fun e w' => e = .returned (.bool true) ∧ QAt W w0 lb fb s x B v acc w') := Lib.hid (fun w1 h1 => hOK.out acc v w1 h1 i _ rfl hi)
  have hcb := byteAt_bd r i
  have HPK2 : Hid (∀ w1, QAt W w0 lb fb s x B v acc w1 → Calls Tryz.prog 65 #[.pointer (some ⟨lb, 0, none⟩), .int .i64 (i : Int)] w1 fun e w' => e = .returned (.int .u8 (byteAt r i)) ∧ QAt W w0 lb fb s x B v acc w') := Lib.hid (fun w1 h1 => hPK.out acc v w1 h1 i _ rfl hi)
  rw [h92] at HPK2
  have hdb := byteAt_bd r (i + 1)
  have HOK3 : Hid (∀ w1, QAt W w0 lb fb s x B v acc w1 → Calls Tryz.prog 63 #[.pointer (some ⟨lb, 0, none⟩), .int .i64 ((i : Int) + 1)] w1 fun e w' => e = .returned (.bool true) ∧ QAt W w0 lb fb s x B v acc w') := Lib.hid (fun w1 h1 => hOK.out acc v w1 h1 (i + 1) _ (by omega) hlt)
  have HPK3 : Hid (∀ w1, QAt W w0 lb fb s x B v acc w1 → Calls Tryz.prog 65 #[.pointer (some ⟨lb, 0, none⟩), .int .i64 ((i : Int) + 1)] w1 fun e w' => e = .returned (.int .u8 (byteAt r (i + 1))) ∧ QAt W w0 lb fb s x B v acc w') := Lib.hid (fun w1 h1 => hPK.out acc v w1 h1 (i + 1) _ (by omega) hlt)
  have HRUN := Lib.hid hrun; have HQ := Lib.hid hQ; have HPost := Lib.hid hPost; have HJ := Lib.hid hJ; have HNM := Lib.hid hnm; have HRr := Lib.hid hr
  rw [hd] at HPK3
  clear hrun hQ hPost hgood hcalm hst hJ hr hnm hOK hPK hSL hc h92 hd hdb
  unfold QFrame
  conv => arg 2; whnf
  go_wp2_with fail
  refine (HOK2.out _ HQ.out).mono ?_
  rintro e w1 ⟨rfl, hQ1⟩
  clear HQ; have HQ := Lib.hid hQ1; clear hQ1
  go_wp2_with fail
  refine (HSL2.out _ HQ.out).mono ?_
  rintro e w1 ⟨rfl, hQ1⟩
  clear HQ; have HQ := Lib.hid hQ1; clear hQ1
  go_wp2_with fail
  refine (HPK2.out _ HQ.out).mono ?_
  rintro e w1 ⟨rfl, hQ1⟩
  clear HQ; have HQ := Lib.hid hQ1; clear hQ1
  go_wp2_with fail
  refine (HOK3.out _ HQ.out).mono ?_
  rintro e w1 ⟨rfl, hQ1⟩
  clear HQ; have HQ := Lib.hid hQ1; clear hQ1
  go_wp2_with fail
  refine (HPK3.out _ HQ.out).mono ?_
  rintro e w1 ⟨rfl, hQ1⟩
  clear HQ; have HQ := Lib.hid hQ1; clear hQ1
  have hown := HQ.out.own
  have hB := HQ.out.hB
  go_wp2_with (at_builtin; go_loud (refine wpList_append_Own _ rfl (.tmp 168) (.tmp 169) 33 rfl B 5 i0 (.int .u8 0) 1 1 Tryz.underlying33 hinf hz0 hz1 hz2 rfl (by decide) _ _ _ rfl (hown.alloc _) ⟨w1.heap.size, 0, none⟩ 1 1 [.int .u8 11] rfl rfl (cell_one_new _ _ _) (by simp [Value.oneCell']) (by unfold maxLen; omega) (by omega) (by simp; omega) ?_))
  intro v' w2 hown1 hg1 hbk hne
  go_wp2_with fail
  refine Handed.intro (r.length - (i + 1 + 1)) ?_ ?_
  · omega
  · refine HJ.out _ _ _ (QInv.of (acc ++ [11]) _ rfl rfl rfl rfl rfl rfl rfl rfl rfl (by show _ = _; rfl) rfl rfl (by omega) (by simp; omega) ?_ HRUN.out)
    refine (HQ.out.alloc _).app hg1 ?_
    simpa [bv_append, bv] using hown1
theorem q_esc_bs {W w0 wx : World} {lb fb B i : Nat} {s q nm : ByteArray} {x : LexSt} {raw uni np he ident : Bool} {v : Value} {acc : List UInt8} {R : QR} {r : List UInt8} (t : Nat → Value) (hr : s.data.toList.drop x.pos = r) (hq : q.size = 1 ∨ q.size = 3) (hnm : (nm.toList == [105, 100, 101, 110, 116, 105, 102, 105, 101, 114]) = ident) (hi : i < r.length) (hacc : acc.length ≤ 4 * i)
    (hQ : QAt W w0 lb fb s x B v acc wx) (hrun : Link np he (qrun q.data.toList raw uni ident r i acc) R) (hgood : np = false → R.good r.length) (hcalm : np = true → calm r) (hc : q.data.toList.isPrefixOf (r.drop i) = false) (h92 : byteAt r i = 92) (hlt : i + 1 < r.length) (hraw : raw = false) (hd : byteAt r (i + 1) = 92) {Kx : Act → World → Prop} {Post : Ending → World → Prop} (hPost : ∀ e w', QReadN W w0 lb fb s x np R e w' → Post e w') (J : Nat → Act → World → Prop) (K : Act → World → Prop)
    (hJ : ∀ g a w, QInv W w0 lb fb s x B q raw uni nm np ident r R g a w → J g a w) (hK : ∀ a w, Handed J (r.length - i) a w → K a w) :
    Code.wp Tryz.prog qbody (Exit.then K (Exit.inBlock 0 (Exit.then Kx (bodyPost Tryz.prog Tryz.f71 Post)))) (QFrame t lb q raw uni nm np he i v) wx := by
  have hsz := hQ.cur.sz
  have hpos := hQ.cur.pos
  have hrl : r.length = s.size - x.pos := by rw [← hr]; exact hQ.cur.len
  have hPK : Hid (∀ (acc' : List UInt8) (v' : Value) (w1 : World), QAt W w0 lb fb s x B v' acc' w1 → ∀ (k : Nat) (j : Int), j = k → k < r.length → Calls Tryz.prog 65 #[.pointer (some ⟨lb, 0, none⟩), .int .i64 j] w1 fun e w' => e = .returned (.int .u8 (byteAt r k)) ∧ QAt W w0 lb fb s x B v' acc' w') := Lib.hid (fun acc' v' w1 h1 k j hj hk => by have := peekQ h1 k j hj (by rw [hr]; exact hk); rw [hr] at this; exact this)
  have hOK : Hid (∀ (acc' : List UInt8) (v' : Value) (w1 : World), QAt W w0 lb fb s x B v' acc' w1 → ∀ (k : Nat) (j : Int), j = k → k < r.length → Calls Tryz.prog 63 #[.pointer (some ⟨lb, 0, none⟩), .int .i64 j] w1 fun e w' => e = .returned (.bool true) ∧ QAt W w0 lb fb s x B v' acc' w') := Lib.hid (fun acc' v' w1 h1 k j hj hk => by have := peekOkQ h1 k j hj (by omega); rw [hr, show decide (k < r.length) = true from by simpa using hk] at this; exact this)
  have hSL : Hid (∀ (acc' : List UInt8) (v' : Value) (w1 : World), QAt W w0 lb fb s x B v' acc' w1 → ∀ (a b : Nat) (j k : Int), j = a → k = b → a ≤ b → b ≤ 2000000 → a ≤ r.length → Calls Tryz.prog 76 #[.pointer (some ⟨lb, 0, none⟩), .int .i64 j, .int .i64 k] w1 fun e w' => e = .returned (.string ⟨(sub r a b).toArray⟩) ∧ QAt W w0 lb fb s x B v' acc' w') := Lib.hid (fun acc' v' w1 h1 a b j k hj hk hab hb ha => by have := sliceQ h1 a b j k hj hk hab hb (by rw [hr]; exact ha); rw [hr] at this; exact this)
  rw [qrun_in _ _ _ _ _ _ _ hi] at hrun
  subst hraw
  have hst : qstep q.data.toList false uni r i = .next 1 [92] := by
    unfold qstep
    rw [hc, if_neg (by decide), if_pos h92, if_pos hlt, hd]; rfl
  rw [hst] at hrun
  have hsub : ((⟨(sub r i (i + q.size)).toArray⟩ : ByteArray).toList == q.toList) = false := by rw [sub_pre]; exact hc
  have HSL2 : Hid (∀ w1, QAt W w0 lb fb s x B v acc w1 → Calls Tryz.prog 76 #[.pointer (some ⟨lb, 0, none⟩), .int .i64 (i : Int), .int .i64 ((i : Int) + (q.size : Int))] w1 fun e w' => e = .returned (.string ⟨(sub r i (i + q.size)).toArray⟩) ∧ QAt W w0 lb fb s x B v acc w') := Lib.hid (fun w1 h1 => hSL.out acc v w1 h1 i (i + q.size) _ _ rfl (by omega) (by omega) (by omega) (Nat.le_of_lt hi))
  generalize (⟨(sub r i (i + q.size)).toArray⟩ : ByteArray) = S at *
  obtain ⟨i0, hinf, hz0, hz1, hz2⟩ := info_parts info_u8q
  have HOK2 : Hid (∀ w1, QAt W w0 lb fb s x B v acc w1 → Calls Tryz.prog 63 #[.pointer (some ⟨lb, 0, none⟩), .int .i64 (i : Int)] w1 fun e w' => e = .returned (.bool true) ∧ QAt W w0 lb fb s x B v acc w') := Lib.hid (fun w1 h1 => hOK.out acc v w1 h1 i _ rfl hi)
  have hcb := byteAt_bd r i
  have HPK2 : Hid (∀ w1, QAt W w0 lb fb s x B v acc w1 → Calls Tryz.prog 65 #[.pointer (some ⟨lb, 0, none⟩), .int .i64 (i : Int)] w1 fun e w' => e = .returned (.int .u8 (byteAt r i)) ∧ QAt W w0 lb fb s x B v acc w') := Lib.hid (fun w1 h1 => hPK.out acc v w1 h1 i _ rfl hi)
  rw [h92] at HPK2
  have hdb := byteAt_bd r (i + 1)
  have HOK3 : Hid (∀ w1, QAt W w0 lb fb s x B v acc w1 → Calls Tryz.prog 63 #[.pointer (some ⟨lb, 0, none⟩), .int .i64 ((i : Int) + 1)] w1 fun e w' => e = .returned (.bool true) ∧ QAt W w0 lb fb s x B v acc w') := Lib.hid (fun w1 h1 => hOK.out acc v w1 h1 (i + 1) _ (by omega) hlt)
  have HPK3 : Hid (∀ w1, QAt W w0 lb fb s x B v acc w1 → Calls Tryz.prog 65 #[.pointer (some ⟨lb, 0, none⟩), .int .i64 ((i : Int) + 1)] w1 fun e w' => e = .returned (.int .u8 (byteAt r (i + 1))) ∧ QAt W w0 lb fb s x B v acc w') := Lib.hid (fun w1 h1 => hPK.out acc v w1 h1 (i + 1) _ (by omega) hlt)
  have HRUN := Lib.hid hrun; have HQ := Lib.hid hQ; have HPost := Lib.hid hPost; have HJ := Lib.hid hJ; have HNM := Lib.hid hnm; have HRr := Lib.hid hr
  rw [hd] at HPK3
  clear hrun hQ hPost hgood hcalm hst hJ hr hnm hOK hPK hSL hc h92 hd hdb
  unfold QFrame
  conv => arg 2; whnf
  go_wp2_with fail
  refine (HOK2.out _ HQ.out).mono ?_
  rintro e w1 ⟨rfl, hQ1⟩
  clear HQ; have HQ := Lib.hid hQ1; clear hQ1
  go_wp2_with fail
  refine (HSL2.out _ HQ.out).mono ?_
  rintro e w1 ⟨rfl, hQ1⟩
  clear HQ; have HQ := Lib.hid hQ1; clear hQ1
  go_wp2_with fail
  refine (HPK2.out _ HQ.out).mono ?_
  rintro e w1 ⟨rfl, hQ1⟩
  clear HQ; have HQ := Lib.hid hQ1; clear hQ1
  go_wp2_with fail
  refine (HOK3.out _ HQ.out).mono ?_
  rintro e w1 ⟨rfl, hQ1⟩
  clear HQ; have HQ := Lib.hid hQ1; clear hQ1
  go_wp2_with fail
  refine (HPK3.out _ HQ.out).mono ?_
  rintro e w1 ⟨rfl, hQ1⟩
  clear HQ; have HQ := Lib.hid hQ1; clear hQ1
  have hown := HQ.out.own
  have hB := HQ.out.hB
  go_wp2_with (at_builtin; go_loud (refine wpList_append_Own _ rfl (.tmp 177) (.tmp 179) 33 rfl B 5 i0 (.int .u8 0) 1 1 Tryz.underlying33 hinf hz0 hz1 hz2 rfl (by decide) _ _ _ rfl (hown.alloc _) ⟨w1.heap.size, 0, none⟩ 1 1 [.int .u8 92] rfl rfl (cell_one_new _ _ _) (by simp [Value.oneCell']) (by unfold maxLen; omega) (by omega) (by simp; omega) ?_))
  intro v' w2 hown1 hg1 hbk hne
  go_wp2_with fail
  refine Handed.intro (r.length - (i + 1 + 1)) ?_ ?_
  · omega
  · refine HJ.out _ _ _ (QInv.of (acc ++ [92]) _ rfl rfl rfl rfl rfl rfl rfl rfl rfl (by show _ = _; rfl) rfl rfl (by omega) (by simp; omega) ?_ HRUN.out)
    refine (HQ.out.alloc _).app hg1 ?_
    simpa [bv_append, bv] using hown1
theorem q_esc_qm {W w0 wx : World} {lb fb B i : Nat} {s q nm : ByteArray} {x : LexSt} {raw uni np he ident : Bool} {v : Value} {acc : List UInt8} {R : QR} {r : List UInt8} (t : Nat → Value) (hr : s.data.toList.drop x.pos = r) (hq : q.size = 1 ∨ q.size = 3) (hnm : (nm.toList == [105, 100, 101, 110, 116, 105, 102, 105, 101, 114]) = ident) (hi : i < r.length) (hacc : acc.length ≤ 4 * i)
    (hQ : QAt W w0 lb fb s x B v acc wx) (hrun : Link np he (qrun q.data.toList raw uni ident r i acc) R) (hgood : np = false → R.good r.length) (hcalm : np = true → calm r) (hc : q.data.toList.isPrefixOf (r.drop i) = false) (h92 : byteAt r i = 92) (hlt : i + 1 < r.length) (hraw : raw = false) (hd : byteAt r (i + 1) = 63) {Kx : Act → World → Prop} {Post : Ending → World → Prop} (hPost : ∀ e w', QReadN W w0 lb fb s x np R e w' → Post e w') (J : Nat → Act → World → Prop) (K : Act → World → Prop)
    (hJ : ∀ g a w, QInv W w0 lb fb s x B q raw uni nm np ident r R g a w → J g a w) (hK : ∀ a w, Handed J (r.length - i) a w → K a w) :
    Code.wp Tryz.prog qbody (Exit.then K (Exit.inBlock 0 (Exit.then Kx (bodyPost Tryz.prog Tryz.f71 Post)))) (QFrame t lb q raw uni nm np he i v) wx := by
  have hsz := hQ.cur.sz
  have hpos := hQ.cur.pos
  have hrl : r.length = s.size - x.pos := by rw [← hr]; exact hQ.cur.len
  have hPK : Hid (∀ (acc' : List UInt8) (v' : Value) (w1 : World), QAt W w0 lb fb s x B v' acc' w1 → ∀ (k : Nat) (j : Int), j = k → k < r.length → Calls Tryz.prog 65 #[.pointer (some ⟨lb, 0, none⟩), .int .i64 j] w1 fun e w' => e = .returned (.int .u8 (byteAt r k)) ∧ QAt W w0 lb fb s x B v' acc' w') := Lib.hid (fun acc' v' w1 h1 k j hj hk => by have := peekQ h1 k j hj (by rw [hr]; exact hk); rw [hr] at this; exact this)
  have hOK : Hid (∀ (acc' : List UInt8) (v' : Value) (w1 : World), QAt W w0 lb fb s x B v' acc' w1 → ∀ (k : Nat) (j : Int), j = k → k < r.length → Calls Tryz.prog 63 #[.pointer (some ⟨lb, 0, none⟩), .int .i64 j] w1 fun e w' => e = .returned (.bool true) ∧ QAt W w0 lb fb s x B v' acc' w') := Lib.hid (fun acc' v' w1 h1 k j hj hk => by have := peekOkQ h1 k j hj (by omega); rw [hr, show decide (k < r.length) = true from by simpa using hk] at this; exact this)
  have hSL : Hid (∀ (acc' : List UInt8) (v' : Value) (w1 : World), QAt W w0 lb fb s x B v' acc' w1 → ∀ (a b : Nat) (j k : Int), j = a → k = b → a ≤ b → b ≤ 2000000 → a ≤ r.length → Calls Tryz.prog 76 #[.pointer (some ⟨lb, 0, none⟩), .int .i64 j, .int .i64 k] w1 fun e w' => e = .returned (.string ⟨(sub r a b).toArray⟩) ∧ QAt W w0 lb fb s x B v' acc' w') := Lib.hid (fun acc' v' w1 h1 a b j k hj hk hab hb ha => by have := sliceQ h1 a b j k hj hk hab hb (by rw [hr]; exact ha); rw [hr] at this; exact this)
  rw [qrun_in _ _ _ _ _ _ _ hi] at hrun
  subst hraw
  have hst : qstep q.data.toList false uni r i = .next 1 [63] := by
    unfold qstep
    rw [hc, if_neg (by decide), if_pos h92, if_pos hlt, hd]; rfl
  rw [hst] at hrun
  have hsub : ((⟨(sub r i (i + q.size)).toArray⟩ : ByteArray).toList == q.toList) = false := by rw [sub_pre]; exact hc
  have HSL2 : Hid (∀ w1, QAt W w0 lb fb s x B v acc w1 → Calls Tryz.prog 76 #[.pointer (some ⟨lb, 0, none⟩), .int .i64 (i : Int), .int .i64 ((i : Int) + (q.size : Int))] w1 fun e w' => e = .returned (.string ⟨(sub r i (i + q.size)).toArray⟩) ∧ QAt W w0 lb fb s x B v acc w') := Lib.hid (fun w1 h1 => hSL.out acc v w1 h1 i (i + q.size) _ _ rfl (by omega) (by omega) (by omega) (Nat.le_of_lt hi))
  generalize (⟨(sub r i (i + q.size)).toArray⟩ : ByteArray) = S at *
  obtain ⟨i0, hinf, hz0, hz1, hz2⟩ := info_parts info_u8q
  have HOK2 : Hid (∀ w1, QAt W w0 lb fb s x B v acc w1 → Calls Tryz.prog 63 #[.pointer (some ⟨lb, 0, none⟩), .int .i64 (i : Int)] w1 fun e w' => e = .returned (.bool true) ∧ QAt W w0 lb fb s x B v acc w') := Lib.hid (fun w1 h1 => hOK.out acc v w1 h1 i _ rfl hi)
  have hcb := byteAt_bd r i
  have HPK2 : Hid (∀ w1, QAt W w0 lb fb s x B v acc w1 → Calls Tryz.prog 65 #[.pointer (some ⟨lb, 0, none⟩), .int .i64 (i : Int)] w1 fun e w' => e = .returned (.int .u8 (byteAt r i)) ∧ QAt W w0 lb fb s x B v acc w') := Lib.hid (fun w1 h1 => hPK.out acc v w1 h1 i _ rfl hi)
  rw [h92] at HPK2
  have hdb := byteAt_bd r (i + 1)
  have HOK3 : Hid (∀ w1, QAt W w0 lb fb s x B v acc w1 → Calls Tryz.prog 63 #[.pointer (some ⟨lb, 0, none⟩), .int .i64 ((i : Int) + 1)] w1 fun e w' => e = .returned (.bool true) ∧ QAt W w0 lb fb s x B v acc w') := Lib.hid (fun w1 h1 => hOK.out acc v w1 h1 (i + 1) _ (by omega) hlt)
  have HPK3 : Hid (∀ w1, QAt W w0 lb fb s x B v acc w1 → Calls Tryz.prog 65 #[.pointer (some ⟨lb, 0, none⟩), .int .i64 ((i : Int) + 1)] w1 fun e w' => e = .returned (.int .u8 (byteAt r (i + 1))) ∧ QAt W w0 lb fb s x B v acc w') := Lib.hid (fun w1 h1 => hPK.out acc v w1 h1 (i + 1) _ (by omega) hlt)
  have HRUN := Lib.hid hrun; have HQ := Lib.hid hQ; have HPost := Lib.hid hPost; have HJ := Lib.hid hJ; have HNM := Lib.hid hnm; have HRr := Lib.hid hr
  rw [hd] at HPK3
  clear hrun hQ hPost hgood hcalm hst hJ hr hnm hOK hPK hSL hc h92 hd hdb
  unfold QFrame
  conv => arg 2; whnf
  go_wp2_with fail
  refine (HOK2.out _ HQ.out).mono ?_
  rintro e w1 ⟨rfl, hQ1⟩
  clear HQ; have HQ := Lib.hid hQ1; clear hQ1
  go_wp2_with fail
  refine (HSL2.out _ HQ.out).mono ?_
  rintro e w1 ⟨rfl, hQ1⟩
  clear HQ; have HQ := Lib.hid hQ1; clear hQ1
  go_wp2_with fail
  refine (HPK2.out _ HQ.out).mono ?_
  rintro e w1 ⟨rfl, hQ1⟩
  clear HQ; have HQ := Lib.hid hQ1; clear hQ1
  go_wp2_with fail
  refine (HOK3.out _ HQ.out).mono ?_
  rintro e w1 ⟨rfl, hQ1⟩
  clear HQ; have HQ := Lib.hid hQ1; clear hQ1
  go_wp2_with fail
  refine (HPK3.out _ HQ.out).mono ?_
  rintro e w1 ⟨rfl, hQ1⟩
  clear HQ; have HQ := Lib.hid hQ1; clear hQ1
  have hown := HQ.out.own
  have hB := HQ.out.hB
  go_wp2_with (at_builtin; go_loud (refine wpList_append_Own _ rfl (.tmp 177) (.tmp 179) 33 rfl B 5 i0 (.int .u8 0) 1 1 Tryz.underlying33 hinf hz0 hz1 hz2 rfl (by decide) _ _ _ rfl (hown.alloc _) ⟨w1.heap.size, 0, none⟩ 1 1 [.int .u8 63] rfl rfl (cell_one_new _ _ _) (by simp [Value.oneCell']) (by unfold maxLen; omega) (by omega) (by simp; omega) ?_))
  intro v' w2 hown1 hg1 hbk hne
  go_wp2_with fail
  refine Handed.intro (r.length - (i + 1 + 1)) ?_ ?_
  · omega
  · refine HJ.out _ _ _ (QInv.of (acc ++ [63]) _ rfl rfl rfl rfl rfl rfl rfl rfl rfl (by show _ = _; rfl) rfl rfl (by omega) (by simp; omega) ?_ HRUN.out)
    refine (HQ.out.alloc _).app hg1 ?_
    simpa [bv_append, bv] using hown1
theorem q_esc_dq {W w0 wx : World} {lb fb B i : Nat} {s q nm : ByteArray} {x : LexSt} {raw uni np he ident : Bool} {v : Value} {acc : List UInt8} {R : QR} {r : List UInt8} (t : Nat → Value) (hr : s.data.toList.drop x.pos = r) (hq : q.size = 1 ∨ q.size = 3) (hnm : (nm.toList == [105, 100, 101, 110, 116, 105, 102, 105, 101, 114]) = ident) (hi : i < r.length) (hacc : acc.length ≤ 4 * i)
    (hQ : QAt W w0 lb fb s x B v acc wx) (hrun : Link np he (qrun q.data.toList raw uni ident r i acc) R) (hgood : np = false → R.good r.length) (hcalm : np = true → calm r) (hc : q.data.toList.isPrefixOf (r.drop i) = false) (h92 : byteAt r i = 92) (hlt : i + 1 < r.length) (hraw : raw = false) (hd : byteAt r (i + 1) = 34) {Kx : Act → World → Prop} {Post : Ending → World → Prop} (hPost : ∀ e w', QReadN W w0 lb fb s x np R e w' → Post e w') (J : Nat → Act → World → Prop) (K : Act → World → Prop)
    (hJ : ∀ g a w, QInv W w0 lb fb s x B q raw uni nm np ident r R g a w → J g a w) (hK : ∀ a w, Handed J (r.length - i) a w → K a w) :
    Code.wp Tryz.prog qbody (Exit.then K (Exit.inBlock 0 (Exit.then Kx (bodyPost Tryz.prog Tryz.f71 Post)))) (QFrame t lb q raw uni nm np he i v) wx := by
  have hsz := hQ.cur.sz
  have hpos := hQ.cur.pos
  have hrl : r.length = s.size - x.pos := by rw [← hr]; exact hQ.cur.len
  have hPK : Hid (∀ (acc' : List UInt8) (v' : Value) (w1 : World), QAt W w0 lb fb s x B v' acc' w1 → ∀ (k : Nat) (j : Int), j = k → k < r.length → Calls Tryz.prog 65 #[.pointer (some ⟨lb, 0, none⟩), .int .i64 j] w1 fun e w' => e = .returned (.int .u8 (byteAt r k)) ∧ QAt W w0 lb fb s x B v' acc' w') := Lib.hid (fun acc' v' w1 h1 k j hj hk => by have := peekQ h1 k j hj (by rw [hr]; exact hk); rw [hr] at this; exact this)
  have hOK : Hid (∀ (acc' : List UInt8) (v' : Value) (w1 : World), QAt W w0 lb fb s x B v' acc' w1 → ∀ (k : Nat) (j : Int), j = k → k < r.length → Calls Tryz.prog 63 #[.pointer (some ⟨lb, 0, none⟩), .int .i64 j] w1 fun e w' => e = .returned (.bool true) ∧ QAt W w0 lb fb s x B v' acc' w') := Lib.hid (fun acc' v' w1 h1 k j hj hk => by have := peekOkQ h1 k j hj (by omega); rw [hr, show decide (k < r.length) = true from by simpa using hk] at this; exact this)
  have hSL : Hid (∀ (acc' : List UInt8) (v' : Value) (w1 : World), QAt W w0 lb fb s x B v' acc' w1 → ∀ (a b : Nat) (j k : Int), j = a → k = b → a ≤ b → b ≤ 2000000 → a ≤ r.length → Calls Tryz.prog 76 #[.pointer (some ⟨lb, 0, none⟩), .int .i64 j, .int .i64 k] w1 fun e w' => e = .returned (.string ⟨(sub r a b).toArray⟩) ∧ QAt W w0 lb fb s x B v' acc' w') := Lib.hid (fun acc' v' w1 h1 a b j k hj hk hab hb ha => by have := sliceQ h1 a b j k hj hk hab hb (by rw [hr]; exact ha); rw [hr] at this; exact this)
  rw [qrun_in _ _ _ _ _ _ _ hi] at hrun
  subst hraw
  have hst : qstep q.data.toList false uni r i = .next 1 [34] := by
    unfold qstep
    rw [hc, if_neg (by decide), if_pos h92, if_pos hlt, hd]; rfl
  rw [hst] at hrun
  have hsub : ((⟨(sub r i (i + q.size)).toArray⟩ : ByteArray).toList == q.toList) = false := by rw [sub_pre]; exact hc
  have HSL2 : Hid (∀ w1, QAt W w0 lb fb s x B v acc w1 → Calls Tryz.prog 76 #[.pointer (some ⟨lb, 0, none⟩), .int .i64 (i : Int), .int .i64 ((i : Int) + (q.size : Int))] w1 fun e w' => e = .returned (.string ⟨(sub r i (i + q.size)).toArray⟩) ∧ QAt W w0 lb fb s x B v acc w') := Lib.hid (fun w1 h1 => hSL.out acc v w1 h1 i (i + q.size) _ _ rfl (by omega) (by omega) (by omega) (Nat.le_of_lt hi))
  generalize (⟨(sub r i (i + q.size)).toArray⟩ : ByteArray) = S at *
  obtain ⟨i0, hinf, hz0, hz1, hz2⟩ := info_parts info_u8q
  have HOK2 : Hid (∀ w1, QAt W w0 lb fb s x B v acc w1 → Calls Tryz.prog 63 #[.pointer (some ⟨lb, 0, none⟩), .int .i64 (i : Int)] w1 fun e w' => e = .returned (.bool true) ∧ QAt W w0 lb fb s x B v acc w') := Lib.hid (fun w1 h1 => hOK.out acc v w1 h1 i _ rfl hi)
  have hcb := byteAt_bd r i
  have HPK2 : Hid (∀ w1, QAt W w0 lb fb s x B v acc w1 → Calls Tryz.prog 65 #[.pointer (some ⟨lb, 0, none⟩), .int .i64 (i : Int)] w1 fun e w' => e = .returned (.int .u8 (byteAt r i)) ∧ QAt W w0 lb fb s x B v acc w') := Lib.hid (fun w1 h1 => hPK.out acc v w1 h1 i _ rfl hi)
  rw [h92] at HPK2
  have hdb := byteAt_bd r (i + 1)
  have HOK3 : Hid (∀ w1, QAt W w0 lb fb s x B v acc w1 → Calls Tryz.prog 63 #[.pointer (some ⟨lb, 0, none⟩), .int .i64 ((i : Int) + 1)] w1 fun e w' => e = .returned (.bool true) ∧ QAt W w0 lb fb s x B v acc w') := Lib.hid (fun w1 h1 => hOK.out acc v w1 h1 (i + 1) _ (by omega) hlt)
  have HPK3 : Hid (∀ w1, QAt W w0 lb fb s x B v acc w1 → Calls Tryz.prog 65 #[.pointer (some ⟨lb, 0, none⟩), .int .i64 ((i : Int) + 1)] w1 fun e w' => e = .returned (.int .u8 (byteAt r (i + 1))) ∧ QAt W w0 lb fb s x B v acc w') := Lib.hid (fun w1 h1 => hPK.out acc v w1 h1 (i + 1) _ (by omega) hlt)
  have HRUN := Lib.hid hrun; have HQ := Lib.hid hQ; have HPost := Lib.hid hPost; have HJ := Lib.hid hJ; have HNM := Lib.hid hnm; have HRr := Lib.hid hr
  rw [hd] at HPK3
  clear hrun hQ hPost hgood hcalm hst hJ hr hnm hOK hPK hSL hc h92 hd hdb
  unfold QFrame
  conv => arg 2; whnf
  go_wp2_with fail
  refine (HOK2.out _ HQ.out).mono ?_
  rintro e w1 ⟨rfl, hQ1⟩
  clear HQ; have HQ := Lib.hid hQ1; clear hQ1
  go_wp2_with fail
  refine (HSL2.out _ HQ.out).mono ?_
  rintro e w1 ⟨rfl, hQ1⟩
  clear HQ; have HQ := Lib.hid hQ1; clear hQ1
  go_wp2_with fail
  refine (HPK2.out _ HQ.out).mono ?_
  rintro e w1 ⟨rfl, hQ1⟩
  clear HQ; have HQ := Lib.hid hQ1; clear hQ1
  go_wp2_with fail
  refine (HOK3.out _ HQ.out).mono ?_
  rintro e w1 ⟨rfl, hQ1⟩
  clear HQ; have HQ := Lib.hid hQ1; clear hQ1
  go_wp2_with fail
  refine (HPK3.out _ HQ.out).mono ?_
  rintro e w1 ⟨rfl, hQ1⟩
  clear HQ; have HQ := Lib.hid hQ1; clear hQ1
  have hown := HQ.out.own
  have hB := HQ.out.hB
  go_wp2_with (at_builtin; go_loud (refine wpList_append_Own _ rfl (.tmp 177) (.tmp 179) 33 rfl B 5 i0 (.int .u8 0) 1 1 Tryz.underlying33 hinf hz0 hz1 hz2 rfl (by decide) _ _ _ rfl (hown.alloc _) ⟨w1.heap.size, 0, none⟩ 1 1 [.int .u8 34] rfl rfl (cell_one_new _ _ _) (by simp [Value.oneCell']) (by unfold maxLen; omega) (by omega) (by simp; omega) ?_))
  intro v' w2 hown1 hg1 hbk hne
  go_wp2_with fail
  refine Handed.intro (r.length - (i + 1 + 1)) ?_ ?_
  · omega
  · refine HJ.out _ _ _ (QInv.of (acc ++ [34]) _ rfl rfl rfl rfl rfl rfl rfl rfl rfl (by show _ = _; rfl) rfl rfl (by omega) (by simp; omega) ?_ HRUN.out)
    refine (HQ.out.alloc _).app hg1 ?_
    simpa [bv_append, bv] using hown1
theorem q_esc_sq {W w0 wx : World} {lb fb B i : Nat} {s q nm : ByteArray} {x : LexSt} {raw uni np he ident : Bool} {v : Value} {acc : List UInt8} {R : QR} {r : List UInt8} (t : Nat → Value) (hr : s.data.toList.drop x.pos = r) (hq : q.size = 1 ∨ q.size = 3) (hnm : (nm.toList == [105, 100, 101, 110, 116, 105, 102, 105, 101, 114]) = ident) (hi : i < r.length) (hacc : acc.length ≤ 4 * i)
    (hQ : QAt W w0 lb fb s x B v acc wx) (hrun : Link np he (qrun q.data.toList raw uni ident r i acc) R) (hgood : np = false → R.good r.length) (hcalm : np = true → calm r) (hc : q.data.toList.isPrefixOf (r.drop i) = false) (h92 : byteAt r i = 92) (hlt : i + 1 < r.length) (hraw : raw = false) (hd : byteAt r (i + 1) = 39) {Kx : Act → World → Prop} {Post : Ending → World → Prop} (hPost : ∀ e w', QReadN W w0 lb fb s x np R e w' → Post e w') (J : Nat → Act → World → Prop) (K : Act → World → Prop)
    (hJ : ∀ g a w, QInv W w0 lb fb s x B q raw uni nm np ident r R g a w → J g a w) (hK : ∀ a w, Handed J (r.length - i) a w → K a w) :
    Code.wp Tryz.prog qbody (Exit.then K (Exit.inBlock 0 (Exit.then Kx (bodyPost Tryz.prog Tryz.f71 Post)))) (QFrame t lb q raw uni nm np he i v) wx := by
  have hsz := hQ.cur.sz
  have hpos := hQ.cur.pos
  have hrl : r.length = s.size - x.pos := by rw [← hr]; exact hQ.cur.len
  have hPK : Hid (∀ (acc' : List UInt8) (v' : Value) (w1 : World), QAt W w0 lb fb s x B v' acc' w1 → ∀ (k : Nat) (j : Int), j = k → k < r.length → Calls Tryz.prog 65 #[.pointer (some ⟨lb, 0, none⟩), .int .i64 j] w1 fun e w' => e = .returned (.int .u8 (byteAt r k)) ∧ QAt W w0 lb fb s x B v' acc' w') := Lib.hid (fun acc' v' w1 h1 k j hj hk => by have := peekQ h1 k j hj (by rw [hr]; exact hk); rw [hr] at this; exact this)
  have hOK : Hid (∀ (acc' : List UInt8) (v' : Value) (w1 : World), QAt W w0 lb fb s x B v' acc' w1 → ∀ (k : Nat) (j : Int), j = k → k < r.length → Calls Tryz.prog 63 #[.pointer (some ⟨lb, 0, none⟩), .int .i64 j] w1 fun e w' => e = .returned (.bool true) ∧ QAt W w0 lb fb s x B v' acc' w') := Lib.hid (fun acc' v' w1 h1 k j hj hk => by have := peekOkQ h1 k j hj (by omega); rw [hr, show decide (k < r.length) = true from by simpa using hk] at this; exact this)
  have hSL : Hid (∀ (acc' : List UInt8) (v' : Value) (w1 : World), QAt W w0 lb fb s x B v' acc' w1 → ∀ (a b : Nat) (j k : Int), j = a → k = b → a ≤ b → b ≤ 2000000 → a ≤ r.length → Calls Tryz.prog 76 #[.pointer (some ⟨lb, 0, none⟩), .int .i64 j, .int .i64 k] w1 fun e w' => e = .returned (.string ⟨(sub r a b).toArray⟩) ∧ QAt W w0 lb fb s x B v' acc' w') := Lib.hid (fun acc' v' w1 h1 a b j k hj hk hab hb ha => by have := sliceQ h1 a b j k hj hk hab hb (by rw [hr]; exact ha); rw [hr] at this; exact this)
  rw [qrun_in _ _ _ _ _ _ _ hi] at hrun
  subst hraw
  have hst : qstep q.data.toList false uni r i = .next 1 [39] := by
    unfold qstep
    rw [hc, if_neg (by decide), if_pos h92, if_pos hlt, hd]; rfl
  rw [hst] at hrun
  have hsub : ((⟨(sub r i (i + q.size)).toArray⟩ : ByteArray).toList == q.toList) = false := by rw [sub_pre]; exact hc
  have HSL2 : Hid (∀ w1, QAt W w0 lb fb s x B v acc w1 → Calls Tryz.prog 76 #[.pointer (some ⟨lb, 0, none⟩), .int .i64 (i : Int), .int .i64 ((i : Int) + (q.size : Int))] w1 fun e w' => e = .returned (.string ⟨(sub r i (i + q.size)).toArray⟩) ∧ QAt W w0 lb fb s x B v acc w') := Lib.hid (fun w1 h1 => hSL.out acc v w1 h1 i (i + q.size) _ _ rfl (by omega) (by omega) (by omega) (Nat.le_of_lt hi))
  generalize (⟨(sub r i (i + q.size)).toArray⟩ : ByteArray) = S at *
  obtain ⟨i0, hinf, hz0, hz1, hz2⟩ := info_parts info_u8q
  have HOK2 : Hid (∀ w1, QAt W w0 lb fb s x B v acc w1 → Calls Tryz.prog 63 #[.pointer (some ⟨lb, 0, none⟩), .int .i64 (i : Int)] w1 fun e w' => e = .returned (.bool true) ∧ QAt W w0 lb fb s x B v acc w') := Lib.hid (fun w1 h1 => hOK.out acc v w1 h1 i _ rfl hi)
  have hcb := byteAt_bd r i
  have HPK2 : Hid (∀ w1, QAt W w0 lb fb s x B v acc w1 → Calls Tryz.prog 65 #[.pointer (some ⟨lb, 0, none⟩), .int .i64 (i : Int)] w1 fun e w' => e = .returned (.int .u8 (byteAt r i)) ∧ QAt W w0 lb fb s x B v acc w') := Lib.hid (fun w1 h1 => hPK.out acc v w1 h1 i _ rfl hi)
  rw [h92] at HPK2
  have hdb := byteAt_bd r (i + 1)
  have HOK3 : Hid (∀ w1, QAt W w0 lb fb s x B v acc w1 → Calls Tryz.prog 63 #[.pointer (some ⟨lb, 0, none⟩), .int .i64 ((i : Int) + 1)] w1 fun e w' => e = .returned (.bool true) ∧ QAt W w0 lb fb s x B v acc w') := Lib.hid (fun w1 h1 => hOK.out acc v w1 h1 (i + 1) _ (by omega) hlt)
  have HPK3 : Hid (∀ w1, QAt W w0 lb fb s x B v acc w1 → Calls Tryz.prog 65 #[.pointer (some ⟨lb, 0, none⟩), .int .i64 ((i : Int) + 1)] w1 fun e w' => e = .returned (.int .u8 (byteAt r (i + 1))) ∧ QAt W w0 lb fb s x B v acc w') := Lib.hid (fun w1 h1 => hPK.out acc v w1 h1 (i + 1) _ (by omega) hlt)
  have HRUN := Lib.hid hrun; have HQ := Lib.hid hQ; have HPost := Lib.hid hPost; have HJ := Lib.hid hJ; have HNM := Lib.hid hnm; have HRr := Lib.hid hr
  rw [hd] at HPK3
  clear hrun hQ hPost hgood hcalm hst hJ hr hnm hOK hPK hSL hc h92 hd hdb
  unfold QFrame
  conv => arg 2; whnf
  go_wp2_with fail
  refine (HOK2.out _ HQ.out).mono ?_
  rintro e w1 ⟨rfl, hQ1⟩
  clear HQ; have HQ := Lib.hid hQ1; clear hQ1
  go_wp2_with fail
  refine (HSL2.out _ HQ.out).mono ?_
  rintro e w1 ⟨rfl, hQ1⟩
  clear HQ; have HQ := Lib.hid hQ1; clear hQ1
  go_wp2_with fail
  refine (HPK2.out _ HQ.out).mono ?_
  rintro e w1 ⟨rfl, hQ1⟩
  clear HQ; have HQ := Lib.hid hQ1; clear hQ1
  go_wp2_with fail
  refine (HOK3.out _ HQ.out).mono ?_
  rintro e w1 ⟨rfl, hQ1⟩
  clear HQ; have HQ := Lib.hid hQ1; clear hQ1
  go_wp2_with fail
  refine (HPK3.out _ HQ.out).mono ?_
  rintro e w1 ⟨rfl, hQ1⟩
  clear HQ; have HQ := Lib.hid hQ1; clear hQ1
  have hown := HQ.out.own
  have hB := HQ.out.hB
  go_wp2_with (at_builtin; go_loud (refine wpList_append_Own _ rfl (.tmp 177) (.tmp 179) 33 rfl B 5 i0 (.int .u8 0) 1 1 Tryz.underlying33 hinf hz0 hz1 hz2 rfl (by decide) _ _ _ rfl (hown.alloc _) ⟨w1.heap.size, 0, none⟩ 1 1 [.int .u8 39] rfl rfl (cell_one_new _ _ _) (by simp [Value.oneCell']) (by unfold maxLen; omega) (by omega) (by simp; omega) ?_))
  intro v' w2 hown1 hg1 hbk hne
  go_wp2_with fail
  refine Handed.intro (r.length - (i + 1 + 1)) ?_ ?_
  · omega
  · refine HJ.out _ _ _ (QInv.of (acc ++ [39]) _ rfl rfl rfl rfl rfl rfl rfl rfl rfl (by show _ = _; rfl) rfl rfl (by omega) (by simp; omega) ?_ HRUN.out)
    refine (HQ.out.alloc _).app hg1 ?_
    simpa [bv_append, bv] using hown1
theorem q_esc_bq {W w0 wx : World} {lb fb B i : Nat} {s q nm : ByteArray} {x : LexSt} {raw uni np he ident : Bool} {v : Value} {acc : List UInt8} {R : QR} {r : List UInt8} (t : Nat → Value) (hr : s.data.toList.drop x.pos = r) (hq : q.size = 1 ∨ q.size = 3) (hnm : (nm.toList == [105, 100, 101, 110, 116, 105, 102, 105, 101, 114]) = ident) (hi : i < r.length) (hacc : acc.length ≤ 4 * i)
    (hQ : QAt W w0 lb fb s x B v acc wx) (hrun : Link np he (qrun q.data.toList raw uni ident r i acc) R) (hgood : np = false → R.good r.length) (hcalm : np = true → calm r) (hc : q.data.toList.isPrefixOf (r.drop i) = false) (h92 : byteAt r i = 92) (hlt : i + 1 < r.length) (hraw : raw = false) (hd : byteAt r (i + 1) = 96) {Kx : Act → World → Prop} {Post : Ending → World → Prop} (hPost : ∀ e w', QReadN W w0 lb fb s x np R e w' → Post e w') (J : Nat → Act → World → Prop) (K : Act → World → Prop)
    (hJ : ∀ g a w, QInv W w0 lb fb s x B q raw uni nm np ident r R g a w → J g a w) (hK : ∀ a w, Handed J (r.length - i) a w → K a w) :
    Code.wp Tryz.prog qbody (Exit.then K (Exit.inBlock 0 (Exit.then Kx (bodyPost Tryz.prog Tryz.f71 Post)))) (QFrame t lb q raw uni nm np he i v) wx := by
  have hsz := hQ.cur.sz
  have hpos := hQ.cur.pos
  have hrl : r.length = s.size - x.pos := by rw [← hr]; exact hQ.cur.len
  have hPK : Hid (∀ (acc' : List UInt8) (v' : Value) (w1 : World), QAt W w0 lb fb s x B v' acc' w1 → ∀ (k : Nat) (j : Int), j = k → k < r.length → Calls Tryz.prog 65 #[.pointer (some ⟨lb, 0, none⟩), .int .i64 j] w1 fun e w' => e = .returned (.int .u8 (byteAt r k)) ∧ QAt W w0 lb fb s x B v' acc' w') := Lib.hid (fun acc' v' w1 h1 k j hj hk => by have := peekQ h1 k j hj (by rw [hr]; exact hk); rw [hr] at this; exact this)
  have hOK : Hid (∀ (acc' : List UInt8) (v' : Value) (w1 : World), QAt W w0 lb fb s x B v' acc' w1 → ∀ (k : Nat) (j : Int), j = k → k < r.length → Calls Tryz.prog 63 #[.pointer (some ⟨lb, 0, none⟩), .int .i64 j] w1 fun e w' => e = .returned (.bool true) ∧ QAt W w0 lb fb s x B v' acc' w') := Lib.hid (fun acc' v' w1 h1 k j hj hk => by have := peekOkQ h1 k j hj (by omega); rw [hr, show decide (k < r.length) = true from by simpa using hk] at this; exact this)
  have hSL : Hid (∀ (acc' : List UInt8) (v' : Value) (w1 : World), QAt W w0 lb fb s x B v' acc' w1 → ∀ (a b : Nat) (j k : Int), j = a → k = b → a ≤ b → b ≤ 2000000 → a ≤ r.length → Calls Tryz.prog 76 #[.pointer (some ⟨lb, 0, none⟩), .int .i64 j, .int .i64 k] w1 fun e w' => e = .returned (.string ⟨(sub r a b).toArray⟩) ∧ QAt W w0 lb fb s x B v' acc' w') := Lib.hid (fun acc' v' w1 h1 a b j k hj hk hab hb ha => by have := sliceQ h1 a b j k hj hk hab hb (by rw [hr]; exact ha); rw [hr] at this; exact this)
  rw [qrun_in _ _ _ _ _ _ _ hi] at hrun
  subst hraw
  have hst : qstep q.data.toList false uni r i = .next 1 [96] := by
    unfold qstep
    rw [hc, if_neg (by decide), if_pos h92, if_pos hlt, hd]; rfl
  rw [hst] at hrun
  have hsub : ((⟨(sub r i (i + q.size)).toArray⟩ : ByteArray).toList == q.toList) = false := by rw [sub_pre]; exact hc
  have HSL2 : Hid (∀ w1, QAt W w0 lb fb s x B v acc w1 → Calls Tryz.prog 76 #[.pointer (some ⟨lb, 0, none⟩), .int .i64 (i : Int), .int .i64 ((i : Int) + (q.size : Int))] w1 fun e w' => e = .returned (.string ⟨(sub r i (i + q.size)).toArray⟩) ∧ QAt W w0 lb fb s x B v acc w') := Lib.hid (fun w1 h1 => hSL.out acc v w1 h1 i (i + q.size) _ _ rfl (by omega) (by omega) (by omega) (Nat.le_of_lt hi))
  generalize (⟨(sub r i (i + q.size)).toArray⟩ : ByteArray) = S at *
  obtain ⟨i0, hinf, hz0, hz1, hz2⟩ := info_parts info_u8q
  have HOK2 : Hid (∀ w1, QAt W w0 lb fb s x B v acc w1 → Calls Tryz.prog 63 #[.pointer (some ⟨lb, 0, none⟩), .int .i64 (i : Int)] w1 fun e w' => e = .returned (.bool true) ∧ QAt W w0 lb fb s x B v acc w') := Lib.hid (fun w1 h1 => hOK.out acc v w1 h1 i _ rfl hi)
  have hcb := byteAt_bd r i
  have HPK2 : Hid (∀ w1, QAt W w0 lb fb s x B v acc w1 → Calls Tryz.prog 65 #[.pointer (some ⟨lb, 0, none⟩), .int .i64 (i : Int)] w1 fun e w' => e = .returned (.int .u8 (byteAt r i)) ∧ QAt W w0 lb fb s x B v acc w') := Lib.hid (fun w1 h1 => hPK.out acc v w1 h1 i _ rfl hi)
  rw [h92] at HPK2
  have hdb := byteAt_bd r (i + 1)
  have HOK3 : Hid (∀ w1, QAt W w0 lb fb s x B v acc w1 → Calls Tryz.prog 63 #[.pointer (some ⟨lb, 0, none⟩), .int .i64 ((i : Int) + 1)] w1 fun e w' => e = .returned (.bool true) ∧ QAt W w0 lb fb s x B v acc w') := Lib.hid (fun w1 h1 => hOK.out acc v w1 h1 (i + 1) _ (by omega) hlt)
  have HPK3 : Hid (∀ w1, QAt W w0 lb fb s x B v acc w1 → Calls Tryz.prog 65 #[.pointer (some ⟨lb, 0, none⟩), .int .i64 ((i : Int) + 1)] w1 fun e w' => e = .returned (.int .u8 (byteAt r (i + 1))) ∧ QAt W w0 lb fb s x B v acc w') := Lib.hid (fun w1 h1 => hPK.out acc v w1 h1 (i + 1) _ (by omega) hlt)
  have HRUN := Lib.hid hrun; have HQ := Lib.hid hQ; have HPost := Lib.hid hPost; have HJ := Lib.hid hJ; have HNM := Lib.hid hnm; have HRr := Lib.hid hr
  rw [hd] at HPK3
  clear hrun hQ hPost hgood hcalm hst hJ hr hnm hOK hPK hSL hc h92 hd hdb
  unfold QFrame
  conv => arg 2; whnf
  go_wp2_with fail
  refine (HOK2.out _ HQ.out).mono ?_
  rintro e w1 ⟨rfl, hQ1⟩
  clear HQ; have HQ := Lib.hid hQ1; clear hQ1
  go_wp2_with fail
  refine (HSL2.out _ HQ.out).mono ?_
  rintro e w1 ⟨rfl, hQ1⟩
  clear HQ; have HQ := Lib.hid hQ1; clear hQ1
  go_wp2_with fail
  refine (HPK2.out _ HQ.out).mono ?_
  rintro e w1 ⟨rfl, hQ1⟩
  clear HQ; have HQ := Lib.hid hQ1; clear hQ1
  go_wp2_with fail
  refine (HOK3.out _ HQ.out).mono ?_
  rintro e w1 ⟨rfl, hQ1⟩
  clear HQ; have HQ := Lib.hid hQ1; clear hQ1
  go_wp2_with fail
  refine (HPK3.out _ HQ.out).mono ?_
  rintro e w1 ⟨rfl, hQ1⟩
  clear HQ; have HQ := Lib.hid hQ1; clear hQ1
  have hown := HQ.out.own
  have hB := HQ.out.hB
  go_wp2_with (at_builtin; go_loud (refine wpList_append_Own _ rfl (.tmp 177) (.tmp 179) 33 rfl B 5 i0 (.int .u8 0) 1 1 Tryz.underlying33 hinf hz0 hz1 hz2 rfl (by decide) _ _ _ rfl (hown.alloc _) ⟨w1.heap.size, 0, none⟩ 1 1 [.int .u8 96] rfl rfl (cell_one_new _ _ _) (by simp [Value.oneCell']) (by unfold maxLen; omega) (by omega) (by simp; omega) ?_))
  intro v' w2 hown1 hg1 hbk hne
  go_wp2_with fail
  refine Handed.intro (r.length - (i + 1 + 1)) ?_ ?_
  · omega
  · refine HJ.out _ _ _ (QInv.of (acc ++ [96]) _ rfl rfl rfl rfl rfl rfl rfl rfl rfl (by show _ = _; rfl) rfl rfl (by omega) (by simp; omega) ?_ HRUN.out)
    refine (HQ.out.alloc _).app hg1 ?_
    simpa [bv_append, bv] using hown1
end Go.Proofs.YtcelnnjjakiehaaGreatDoor
