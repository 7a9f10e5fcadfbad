/-
  A round of consumeQuotedContent.
-/
import Derived.Test.YtcelnnjjakiehaaGreatDoorQlD
import Derived.Test.YtcelnnjjakiehaaGreatDoorQlC5
import Derived.Test.YtcelnnjjakiehaaGreatDoorQlO
import Derived.Test.YtcelnnjjakiehaaGreatDoorQlU
namespace Go.Proofs.YtcelnnjjakiehaaGreatDoor
open Go.RowKit
set_option linter.unusedVariables false
set_option maxRecDepth 1000000
set_option maxHeartbeats 16000000

theorem q_round {W w0 wx : World} {lb fb B i : Nat} {s q nm : ByteArray} {x : LexSt} {raw uni np he ident : Bool} {v : Value} {acc : List UInt8} {R : QR} {r : List UInt8} (t : Nat → Value) (hr : s.data.toList.drop x.pos = r) (hq : q.size = 1 ∨ q.size = 3) (hnm : (nm.toList == [105, 100, 101, 110, 116, 105, 102, 105, 101, 114]) = ident) (hi : i < r.length) (hacc : acc.length ≤ 4 * i)
    (hQ : QAt W w0 lb fb s x B v acc wx) (hrun : Link np he (qrun q.data.toList raw uni ident r i acc) R) (hgood : np = false → R.good r.length) (hcalm : np = true → calm r) {Kx : Act → World → Prop} {Post : Ending → World → Prop} (hPost : ∀ e w', QReadN W w0 lb fb s x np R e w' → Post e w') (J : Nat → Act → World → Prop) (K : Act → World → Prop)
    (hJ : ∀ g a w, QInv W w0 lb fb s x B q raw uni nm np ident r R g a w → J g a w) (hK : ∀ a w, Handed J (r.length - i) a w → K a w) :
    Code.wp Tryz.prog qbody (Exit.then K (Exit.inBlock 0 (Exit.then Kx (bodyPost Tryz.prog Tryz.f71 Post)))) (QFrame t lb q raw uni nm np he i v) wx := by
  cases hc : q.data.toList.isPrefixOf (r.drop i) with
  | true =>
    by_cases hid : ident = true
    · by_cases hac : acc = []
      · exact q_empty t hr hq hnm hi hacc hQ hrun hgood hcalm hc hid hac hPost J K hJ hK
      · exact q_close t hr hq hnm hi hacc hQ hrun hgood hcalm hc (.inr hac) hPost J K hJ hK
    · exact q_close t hr hq hnm hi hacc hQ hrun hgood hcalm hc (.inl (by simpa using hid)) hPost J K hJ hK
  | false =>
    by_cases h92 : byteAt r i = 92
    · by_cases hlt : i + 1 < r.length
      · cases hraw : raw with
        | true =>
          subst hraw
          exact q_raw t hr hq hnm hi hacc hQ hrun hgood hcalm hc h92 hlt rfl hPost J K hJ hK
        | false =>
          subst hraw
          by_cases e97 : byteAt r (i + 1) = 97
          · exact q_esc_a t hr hq hnm hi hacc hQ hrun hgood hcalm hc h92 hlt rfl e97 hPost J K hJ hK
          by_cases e98 : byteAt r (i + 1) = 98
          · exact q_esc_b t hr hq hnm hi hacc hQ hrun hgood hcalm hc h92 hlt rfl e98 hPost J K hJ hK
          by_cases e102 : byteAt r (i + 1) = 102
          · exact q_esc_f t hr hq hnm hi hacc hQ hrun hgood hcalm hc h92 hlt rfl e102 hPost J K hJ hK
          by_cases e110 : byteAt r (i + 1) = 110
          · exact q_esc_n t hr hq hnm hi hacc hQ hrun hgood hcalm hc h92 hlt rfl e110 hPost J K hJ hK
          by_cases e114 : byteAt r (i + 1) = 114
          · exact q_esc_r t hr hq hnm hi hacc hQ hrun hgood hcalm hc h92 hlt rfl e114 hPost J K hJ hK
          by_cases e116 : byteAt r (i + 1) = 116
          · exact q_esc_t t hr hq hnm hi hacc hQ hrun hgood hcalm hc h92 hlt rfl e116 hPost J K hJ hK
          by_cases e118 : byteAt r (i + 1) = 118
          · exact q_esc_v t hr hq hnm hi hacc hQ hrun hgood hcalm hc h92 hlt rfl e118 hPost J K hJ hK
          by_cases e92 : byteAt r (i + 1) = 92
          · exact q_esc_bs t hr hq hnm hi hacc hQ hrun hgood hcalm hc h92 hlt rfl e92 hPost J K hJ hK
          by_cases e63 : byteAt r (i + 1) = 63
          · exact q_esc_qm t hr hq hnm hi hacc hQ hrun hgood hcalm hc h92 hlt rfl e63 hPost J K hJ hK
          by_cases e34 : byteAt r (i + 1) = 34
          · exact q_esc_dq t hr hq hnm hi hacc hQ hrun hgood hcalm hc h92 hlt rfl e34 hPost J K hJ hK
          by_cases e39 : byteAt r (i + 1) = 39
          · exact q_esc_sq t hr hq hnm hi hacc hQ hrun hgood hcalm hc h92 hlt rfl e39 hPost J K hJ hK
          by_cases e96 : byteAt r (i + 1) = 96
          · exact q_esc_bq t hr hq hnm hi hacc hQ hrun hgood hcalm hc h92 hlt rfl e96 hPost J K hJ hK
          by_cases e120 : byteAt r (i + 1) = 120
          · exact q_x120 t hr hq hnm hi hacc hQ hrun hgood hcalm hc h92 hlt rfl e120 hPost J K hJ hK
          by_cases e88 : byteAt r (i + 1) = 88
          · exact q_x88 t hr hq hnm hi hacc hQ hrun hgood hcalm hc h92 hlt rfl e88 hPost J K hJ hK
          by_cases e117 : byteAt r (i + 1) = 117
          · cases huni : uni with
            | true =>
              subst huni
              exact q_u117 t hr hq hnm hi hacc hQ hrun hgood hcalm hc h92 hlt rfl rfl e117 hPost J K hJ hK
            | false =>
              subst huni
              exact q_u117_no t hr hq hnm hi hacc hQ hrun hgood hcalm hc h92 hlt rfl rfl e117 hPost J K hJ hK
          by_cases e85 : byteAt r (i + 1) = 85
          · cases huni : uni with
            | true =>
              subst huni
              exact q_u85 t hr hq hnm hi hacc hQ hrun hgood hcalm hc h92 hlt rfl rfl e85 hPost J K hJ hK
            | false =>
              subst huni
              exact q_u85_no t hr hq hnm hi hacc hQ hrun hgood hcalm hc h92 hlt rfl rfl e85 hPost J K hJ hK
          by_cases e48 : byteAt r (i + 1) = 48
          · exact q_o48 t hr hq hnm hi hacc hQ hrun hgood hcalm hc h92 hlt rfl e48 hPost J K hJ hK
          by_cases e49 : byteAt r (i + 1) = 49
          · exact q_o49 t hr hq hnm hi hacc hQ hrun hgood hcalm hc h92 hlt rfl e49 hPost J K hJ hK
          by_cases e50 : byteAt r (i + 1) = 50
          · exact q_o50 t hr hq hnm hi hacc hQ hrun hgood hcalm hc h92 hlt rfl e50 hPost J K hJ hK
          by_cases e51 : byteAt r (i + 1) = 51
          · exact q_o51 t hr hq hnm hi hacc hQ hrun hgood hcalm hc h92 hlt rfl e51 hPost J K hJ hK
          exact q_other t hr hq hnm hi hacc hQ hrun hgood hcalm hc h92 hlt rfl (by unfold simpleEsc; rw [if_neg e97, if_neg e98, if_neg e102, if_neg e110, if_neg e114, if_neg e116, if_neg e118, if_neg e92, if_neg e63, if_neg e34, if_neg e39, if_neg e96]) (by omega) (by omega) (by omega) hPost J K hJ hK
      · exact q_esc_eof t hr hq hnm hi hacc hQ hrun hgood hcalm hc h92 (by omega) hPost J K hJ hK
    · by_cases h10 : byteAt r i = 10
      · rcases hq with hq1 | hq3
        · exact q_nl t hr (.inl hq1) hnm hi hacc hQ hrun hgood hcalm hc h10 hq1 hPost J K hJ hK
        · exact q_plain t hr (.inr hq3) hnm hi hacc hQ hrun hgood hcalm hc h92 (.inr hq3) hPost J K hJ hK
      · exact q_plain t hr hq hnm hi hacc hQ hrun hgood hcalm hc h92 (.inl h10) hPost J K hJ hK
theorem q_end {W w0 wx : World} {lb fb B i : Nat} {s q nm : ByteArray} {x : LexSt} {raw uni np he : Bool} {v : Value} {acc : List UInt8} {r : List UInt8} (t : Nat → Value) (hr : s.data.toList.drop x.pos = r) (hi : r.length ≤ i) (hi2 : i ≤ r.length)
    (hQ : QAt W w0 lb fb s x B v acc wx) {Kx : Act → World → Prop} {Post : Ending → World → Prop} (K : Act → World → Prop)
    (hKx : ∀ (l : List Value) (hl : l.length = 512) (h0 : l.getD 0 undef = .pointer (some ⟨lb, 0, none⟩)) (h1 : l.getD 1 undef = .string q) (h2 : l.getD 2 undef = .bool raw) (h3 : l.getD 3 undef = .bool uni) (h4 : l.getD 4 undef = .string nm) (h5 : l.getD 5 undef = .bool np) (h12 : l.getD 12 undef = .string ⟨#[]⟩) (h13 : l.getD 13 undef = .bool false) (h14 : l.getD 14 undef = .int .i64 (i : Int)) (h15 : l.getD 15 undef = v) (h16 : l.getD 16 undef = .bool he) w', QAt W w0 lb fb s x B v acc w' → Kx ⟨l.toArray, []⟩ w') :
    Code.wp Tryz.prog qbody (Exit.then K (Exit.inBlock 0 (Exit.then Kx (bodyPost Tryz.prog Tryz.f71 Post)))) (QFrame t lb q raw uni nm np he i v) wx := by
  have hsz := hQ.cur.sz
  have hpos := hQ.cur.pos
  have hrl : r.length = s.size - x.pos := by rw [← hr]; exact hQ.cur.len
  have hOK : Hid (∀ w1, QAt W w0 lb fb s x B v acc w1 → Calls Tryz.prog 63 #[.pointer (some ⟨lb, 0, none⟩), .int .i64 (i : Int)] w1 fun e w' => e = .returned (.bool false) ∧ QAt W w0 lb fb s x B v acc w') := Lib.hid (fun w1 h1 => by have := peekOkQ h1 i (i : Int) rfl (by omega); rw [hr, show decide (i < r.length) = false from by simp; omega] at this; exact this)
  have HQ := Lib.hid hQ; have HKx := Lib.hid hKx
  clear hQ hKx hr
  unfold QFrame
  conv => arg 2; whnf
  go_wp2_with fail
  refine (hOK.out _ HQ.out).mono ?_
  rintro e w1 ⟨rfl, hQ1⟩
  clear HQ; have HQ := Lib.hid hQ1; clear hQ1
  go_wp2_with fail
  exact HKx.out _ rfl rfl rfl rfl rfl rfl rfl rfl rfl rfl rfl rfl _ HQ.out
end Go.Proofs.YtcelnnjjakiehaaGreatDoor
