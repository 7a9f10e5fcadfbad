/-
  A round of consumeQuotedContent: a byte as it is.
-/
import Derived.Test.YtcelnnjjakiehaaGreatDoorQlB
namespace Go.Proofs.YtcelnnjjakiehaaGreatDoor
open Go.RowKit
set_option linter.unusedVariables false
set_option maxRecDepth 1000000
set_option maxHeartbeats 16000000

theorem sub_pre (r : List UInt8) (i : Nat) (q : ByteArray) : ((⟨(sub r i (i + q.size)).toArray⟩ : ByteArray).toList == q.toList) = q.data.toList.isPrefixOf (r.drop i) := by
  rw [Lib.toList_data, Lib.toList_data]
  show (sub r i (i + q.size) == q.data.toList) = _
  rw [sub, List.drop_take, Bool.eq_iff_iff, beq_iff_eq, List.isPrefixOf_iff_prefix, List.prefix_iff_eq_take, ba_toList_length, show i + q.size - i = q.size from by omega]
  exact eq_comm
theorem panicfAtQ {W w0 w : World} {lb fb B : Nat} {s : ByteArray} {x : LexSt} {v : Value} {l : List UInt8} (h : QAt W w0 lb fb s x B v l w) (p q : Nat) (a b : Int) (msg : ByteArray) (ha : a = (x.pos + p : Nat)) (hb : b = (x.pos + q : Nat)) (hpq : p ≤ q) (hq : x.pos + q ≤ s.size) :
    Calls Tryz.prog 83 #[.pointer (some ⟨lb, 0, none⟩), .int .i64 a, .int .i64 b, .string msg] w (Fault W w0 lb fb (x.pos + p)) := by
  subst ha hb
  exact panicfAt_any h.cur _ _ msg (by omega) hq
theorem info_u8q : (Tryz.prog.info? 5).map (fun i => (i.zero, i.size, i.bytes)) = some (some (.int .u8 0), 1, 1) := by kernel_rfl
theorem q_plain {W w0 wx : World} {lb fb B i : Nat} {s q nm : ByteArray} {x : LexSt} {raw uni np he ident : Bool} {v : Value} {acc : List UInt8} {R : QR} {r : List UInt8} (t : Nat → Value) (hr : s.data.toList.drop x.pos = r) (hq : q.size = 1 ∨ q.size = 3) (hnm : (nm.toList == [105, 100, 101, 110, 116, 105, 102, 105, 101, 114]) = ident) (hi : i < r.length) (hacc : acc.length ≤ 4 * i)
    (hQ : QAt W w0 lb fb s x B v acc wx) (hrun : Link np he (qrun q.data.toList raw uni ident r i acc) R) (hgood : np = false → R.good r.length) (hcalm : np = true → calm r) (hc : q.data.toList.isPrefixOf (r.drop i) = false) (h92 : byteAt r i ≠ 92) (h10 : byteAt r i ≠ 10 ∨ q.size = 3) {Kx : Act → World → Prop} {Post : Ending → World → Prop} (hPost : ∀ e w', QReadN W w0 lb fb s x np R e w' → Post e w') (J : Nat → Act → World → Prop) (K : Act → World → Prop)
    (hJ : ∀ g a w, QInv W w0 lb fb s x B q raw uni nm np ident r R g a w → J g a w) (hK : ∀ a w, Handed J (r.length - i) a w → K a w) :
    Code.wp Tryz.prog qbody (Exit.then K (Exit.inBlock 0 (Exit.then Kx (bodyPost Tryz.prog Tryz.f71 Post)))) (QFrame t lb q raw uni nm np he i v) wx := by
  have hsz := hQ.cur.sz
  have hpos := hQ.cur.pos
  have hrl : r.length = s.size - x.pos := by rw [← hr]; exact hQ.cur.len
  have hPK : Hid (∀ (acc' : List UInt8) (v' : Value) (w1 : World), QAt W w0 lb fb s x B v' acc' w1 → ∀ (k : Nat) (j : Int), j = k → k < r.length → Calls Tryz.prog 65 #[.pointer (some ⟨lb, 0, none⟩), .int .i64 j] w1 fun e w' => e = .returned (.int .u8 (byteAt r k)) ∧ QAt W w0 lb fb s x B v' acc' w') := Lib.hid (fun acc' v' w1 h1 k j hj hk => by have := peekQ h1 k j hj (by rw [hr]; exact hk); rw [hr] at this; exact this)
  have hOK : Hid (∀ (acc' : List UInt8) (v' : Value) (w1 : World), QAt W w0 lb fb s x B v' acc' w1 → ∀ (k : Nat) (j : Int), j = k → k < r.length → Calls Tryz.prog 63 #[.pointer (some ⟨lb, 0, none⟩), .int .i64 j] w1 fun e w' => e = .returned (.bool true) ∧ QAt W w0 lb fb s x B v' acc' w') := Lib.hid (fun acc' v' w1 h1 k j hj hk => by have := peekOkQ h1 k j hj (by omega); rw [hr, show decide (k < r.length) = true from by simpa using hk] at this; exact this)
  have hSL : Hid (∀ (acc' : List UInt8) (v' : Value) (w1 : World), QAt W w0 lb fb s x B v' acc' w1 → ∀ (a b : Nat) (j k : Int), j = a → k = b → a ≤ b → b ≤ 2000000 → a ≤ r.length → Calls Tryz.prog 76 #[.pointer (some ⟨lb, 0, none⟩), .int .i64 j, .int .i64 k] w1 fun e w' => e = .returned (.string ⟨(sub r a b).toArray⟩) ∧ QAt W w0 lb fb s x B v' acc' w') := Lib.hid (fun acc' v' w1 h1 a b j k hj hk hab hb ha => by have := sliceQ h1 a b j k hj hk hab hb (by rw [hr]; exact ha); rw [hr] at this; exact this)
  rw [qrun_in _ _ _ _ _ _ _ hi] at hrun
  have hst : qstep q.data.toList raw uni r i = .next 0 [r.getD i 0] := by
    unfold qstep
    rw [hc, if_neg (by decide), if_neg h92, if_neg (by rw [ba_toList_length]; intro h; rcases h10 with h' | h'; exact h' h.1; exact h.2 h')]
  rw [hst] at hrun
  have HRUN := Lib.hid hrun; have HQ := Lib.hid hQ; have HPost := Lib.hid hPost; have HJ := Lib.hid hJ
  clear hrun hQ hPost hgood hcalm hst hJ hr
  have hsub : ((⟨(sub r i (i + q.size)).toArray⟩ : ByteArray).toList == q.toList) = false := by rw [sub_pre]; exact hc
  have HSL2 : Hid (∀ w1, QAt W w0 lb fb s x B v acc w1 → Calls Tryz.prog 76 #[.pointer (some ⟨lb, 0, none⟩), .int .i64 (i : Int), .int .i64 ((i : Int) + (q.size : Int))] w1 fun e w' => e = .returned (.string ⟨(sub r i (i + q.size)).toArray⟩) ∧ QAt W w0 lb fb s x B v acc w') := Lib.hid (fun w1 h1 => hSL.out acc v w1 h1 i (i + q.size) _ _ rfl (by omega) (by omega) (by omega) (Nat.le_of_lt hi))
  generalize (⟨(sub r i (i + q.size)).toArray⟩ : ByteArray) = S at *
  obtain ⟨i0, hinf, hz0, hz1, hz2⟩ := info_parts info_u8q
  have hcb := byteAt_bd r i
  have HPK2 : Hid (∀ w1, QAt W w0 lb fb s x B v acc w1 → Calls Tryz.prog 65 #[.pointer (some ⟨lb, 0, none⟩), .int .i64 (i : Int)] w1 fun e w' => e = .returned (.int .u8 (byteAt r i)) ∧ QAt W w0 lb fb s x B v acc w') := Lib.hid (fun w1 h1 => hPK.out acc v w1 h1 i _ rfl hi)
  have HOK2 : Hid (∀ w1, QAt W w0 lb fb s x B v acc w1 → Calls Tryz.prog 63 #[.pointer (some ⟨lb, 0, none⟩), .int .i64 (i : Int)] w1 fun e w' => e = .returned (.bool true) ∧ QAt W w0 lb fb s x B v acc w') := Lib.hid (fun w1 h1 => hOK.out acc v w1 h1 i _ rfl hi)
  have hgd : byteAt r i = ((r.getD i 0).toNat : Int) := rfl
  generalize hcc : byteAt r i = c at *
  have HGD := Lib.hid hgd
  clear hOK hPK hSL hc hcc hgd
  have b92 : (c == 92) = false := by rw [beq_eq_false_iff_ne]; exact h92
  unfold QFrame
  conv => arg 2; whnf
  by_cases hc10 : c = 10
  · have b10 : (c == 10) = true := by rw [beq_iff_eq]; exact hc10
    have b3 : ((q.size : Int) != 3) = false := by
      rcases h10 with h | h
      · exact absurd hc10 h
      · rw [h]; rfl
    clear hc10 h10 h92
    go_wp2_with fail
    refine (HOK2.out _ HQ.out).mono ?_
    rintro e w1 ⟨rfl, hQ1⟩
    clear HQ
    have HQ := Lib.hid hQ1; clear hQ1
    go_wp2_with fail
    refine (HSL2.out _ HQ.out).mono ?_
    rintro e w1 ⟨rfl, hQ1⟩
    clear HQ
    have HQ := Lib.hid hQ1; clear hQ1
    go_wp2_with fail
    refine (HPK2.out _ HQ.out).mono ?_
    rintro e w1 ⟨rfl, hQ1⟩
    clear HQ
    have HQ := Lib.hid hQ1; clear hQ1
    have hown := HQ.out.own
    have hB := HQ.out.hB
    go_wp2_with (at_builtin; go_loud (refine wpList_append_Own _ rfl (.tmp 489) (.tmp 491) 33 rfl B 5 i0 (.int .u8 0) 1 1 Tryz.underlying33 hinf hz0 hz1 hz2 rfl (by decide) _ _ _ rfl (hown.alloc _) ⟨w1.heap.size, 0, none⟩ 1 1 [.int .u8 c] rfl rfl (cell_one_new _ _ _) (by simp [Value.oneCell']) (by unfold maxLen; omega) (by omega) (by simp; omega) ?_))
    intro v' w2 hown1 hg1 hbk hne
    go_wp2_with fail
    refine Handed.intro (r.length - (i + 0 + 1)) ?_ ?_
    · omega
    · refine HJ.out _ _ _ (QInv.of (acc ++ [r.getD i 0]) _ rfl rfl rfl rfl rfl rfl rfl rfl rfl (by show _ = _; rfl) rfl rfl (by omega) (by simp; omega) ?_ HRUN.out)
      refine (HQ.out.alloc _).app hg1 ?_
      rw [HGD.out] at hown1
      simpa [bv_append, bv] using hown1
  · have b10 : (c == 10) = false := by rw [beq_eq_false_iff_ne]; exact hc10
    clear hc10 h10 h92
    go_wp2_with fail
    refine (HOK2.out _ HQ.out).mono ?_
    rintro e w1 ⟨rfl, hQ1⟩
    clear HQ
    have HQ := Lib.hid hQ1; clear hQ1
    go_wp2_with fail
    refine (HSL2.out _ HQ.out).mono ?_
    rintro e w1 ⟨rfl, hQ1⟩
    clear HQ
    have HQ := Lib.hid hQ1; clear hQ1
    go_wp2_with fail
    refine (HPK2.out _ HQ.out).mono ?_
    rintro e w1 ⟨rfl, hQ1⟩
    clear HQ
    have HQ := Lib.hid hQ1; clear hQ1
    have hown := HQ.out.own
    have hB := HQ.out.hB
    go_wp2_with (at_builtin; go_loud (refine wpList_append_Own _ rfl (.tmp 489) (.tmp 491) 33 rfl B 5 i0 (.int .u8 0) 1 1 Tryz.underlying33 hinf hz0 hz1 hz2 rfl (by decide) _ _ _ rfl (hown.alloc _) ⟨w1.heap.size, 0, none⟩ 1 1 [.int .u8 c] rfl rfl (cell_one_new _ _ _) (by simp [Value.oneCell']) (by unfold maxLen; omega) (by omega) (by simp; omega) ?_))
    intro v' w2 hown1 hg1 hbk hne
    go_wp2_with fail
    refine Handed.intro (r.length - (i + 0 + 1)) ?_ ?_
    · omega
    · refine HJ.out _ _ _ (QInv.of (acc ++ [r.getD i 0]) _ rfl rfl rfl rfl rfl rfl rfl rfl rfl (by show _ = _; rfl) rfl rfl (by omega) (by simp; omega) ?_ HRUN.out)
      refine (HQ.out.alloc _).app hg1 ?_
      rw [HGD.out] at hown1
      simpa [bv_append, bv] using hown1
end Go.Proofs.YtcelnnjjakiehaaGreatDoor
