/-
  The contract of consumeQuotedContent, in both ways of reading.
-/
import Derived.Test.YtcelnnjjakiehaaGreatDoorQlR
import Derived.StillTailTactics
namespace Go.Proofs.YtcelnnjjakiehaaGreatDoor
open Go.RowKit
set_option linter.unusedVariables false
set_option maxRecDepth 1000000
set_option maxHeartbeats 16000000

theorem calm.drop {l : List UInt8} (h : calm l) (p : Nat) : calm (l.drop p) := by
  intro i hi hl
  rw [List.length_drop] at hi hl
  have := h (p + i) (by omega) (by omega)
  rwa [byteAt_drop]
theorem errorfAtQ {W w0 w : World} {lb fb B : Nat} {s : ByteArray} {x : LexSt} {v : Value} {l : List UInt8} (h : QAt W w0 lb fb s x B v l w) (p q : Nat) (a b : Int) (msg : ByteArray) (ha : a = (x.pos + p : Nat)) (hb : b = (x.pos + q : Nat)) (hpq : p ≤ q) (hq : x.pos + q ≤ s.size) :
    Calls Tryz.prog 89 #[.pointer (some ⟨lb, 0, none⟩), .int .i64 a, .int .i64 b, .string msg] w fun e w' => ∃ EB, e = .returned (.pointer (some ⟨EB, 0, none⟩)) ∧ ErrAt W w0 lb fb w' EB (x.pos + p) := by
  subst ha hb
  exact errorfAt_any h.cur _ _ msg (by omega) hq
theorem quotedB_any {W w0 w : World} {lb fb : Nat} {s : ByteArray} {x : LexSt} (h : Cur W w0 lb fb s x w) (np : Bool) (q : ByteArray) (raw uni : Bool) (name : ByteArray) (ident : Bool) (hq : q.size = 1 ∨ q.size = 3) (hql : q.size ≤ s.size - x.pos)
    (hn1 : (name.toList == [105, 100, 101, 110, 116, 105, 102, 105, 101, 114]) = ident) (hn2 : ident = true → q.size = 1) (hn3 : name.size ≤ 1000)
    (hg : np = false → (qrun q.data.toList raw uni ident (s.data.toList.drop x.pos) q.size []).good (s.size - x.pos)) (hcalm : np = true → calm s.data.toList) :
    Calls Tryz.prog 71 #[.pointer (some ⟨lb, 0, none⟩), .string q, .bool raw, .bool uni, .string name, .bool np] w (QReadN W w0 lb fb s x np (qrun q.data.toList raw uni ident (s.data.toList.drop x.pos) q.size [])) := by
  have hpos := h.pos
  have hrl := h.len
  have hsz := h.sz
  obtain ⟨_, _, _, hgr, _⟩ := h.grow
  have hq0 : QAt W w0 lb fb s x w.heap.size (.slice none 0 0) [] w := ⟨h, Own.nil _ _ _ _, h.lex.lt.1, h.lex.lt.2, Nat.le_refl _, hgr⟩
  have hPost0 : ∀ e w', QReadN W w0 lb fb s x np (qrun q.data.toList raw uni ident (s.data.toList.drop x.pos) q.size []) e w' → QReadN W w0 lb fb s x np (qrun q.data.toList raw uni ident (s.data.toList.drop x.pos) q.size []) e w' := fun _ _ hh => hh
  generalize hR : qrun q.data.toList raw uni ident (s.data.toList.drop x.pos) q.size [] = R at *
  generalize hPost : QReadN W w0 lb fb s x np R = Post
  have hPost1 : ∀ e w', QReadN W w0 lb fb s x np R e w' → Post e w' := by rw [← hPost]; exact fun _ _ hh => hh
  have HQ0 := Lib.hid hq0; have HR := Lib.hid hR; have HPost := Lib.hid hPost1; have HN2 := Lib.hid hn2; have HN1 := Lib.hid hn1
  rw [← hrl] at hg
  have HCM : Hid (np = true → calm (s.data.toList.drop x.pos)) := Lib.hid (fun h => (hcalm h).drop _)
  clear hcalm
  clear hq0 hR hPost hPost0 hPost1 hn2 h hn1
  generalize hr : s.data.toList.drop x.pos = r at *
  have HRr := Lib.hid hr; have HG := Lib.hid hg; clear hr hg
  generalize w.heap.size = B at *
  go_enter Tryz.func71, Tryz.ntmps71
  rcases hq with hq | hq
  · have hqb : ((q.size : Int) == 3) = false := by rw [beq_eq_false_iff_ne]; omega
    have hqI : (q.size : Int) = 1 := by omega
    have HRN : Hid (qrun q.data.toList raw uni ident r 1 [] = R) := Lib.hid (by have := HR.out; rw [hq] at this; exact this)
    go_wp2_with fail
    rename_i Kx hKx
    have HKx := Lib.hid hKx; clear hKx
    refine wp_loop_ghost_k (QInv W w0 lb fb s x B q raw uni name np ident r R) (r.length - 1) (QInv.of [] _ rfl rfl rfl rfl rfl rfl rfl rfl rfl rfl rfl rfl (by omega) (by simp) HQ0.out (Link.ok HRN.out)) ?_
    rintro g a wx ⟨t, he, i, v, acc, rfl, rfl, ⟨hi0, hi⟩, hacc, hQ, hrun⟩ J K hJ hK
    by_cases hlt : i < r.length
    · exact q_round t HRr.out (.inl hq) HN1.out hlt hacc hQ hrun HG.out HCM.out HPost.out J K hJ hK
    · refine q_end t HRr.out (by omega) hi hQ K (fun l hl h0 h1 h2 h3 h4 h5 h12 h13 h14 h15 h16 w' hQ' => HKx.out _ _ ?_)
      rw [QFrame.of l hl h0 h1 h2 h3 h4 h5 h12 h13 h14 h15 h16]
      clear h0 h1 h2 h3 h4 h5 h12 h13 h14 h15 h16
      generalize (fun k => l.getD k undef) = t'
      clear hl
      rw [qrun_out _ _ _ _ _ _ _ hlt] at hrun
      have HRUN := Lib.hid hrun
      clear hrun hQ HQ0 HRN HKx HR hJ hK
      have HQ := Lib.hid hQ'; clear hQ'
      cases np with
      | false =>
        obtain ⟨h1, h2⟩ := HRUN.out.strict
        subst h1; subst h2
        clear HRUN
        unfold QFrame
        obtain ⟨c0, c9, c1⟩ := HQ.out.cur.lex.rd
        go_wp2_with fail
        go_still_tail 11, (by kernel_rfl)
        clear c0 c9 c1
        change wpList _ _ _ _ _ (w'.drewN 1)
        have HQ2 := Lib.hid (HQ.out.drewN 1)
        clear HQ
        generalize w'.drewN 1 = w2 at *
        obtain ⟨c0, c9, c1⟩ := HQ2.out.cur.lex.rd
        go_wp2_with fail
        refine (errorfAtQ HQ2.out 0 i _ _ _ (by omega) (by omega) (by omega) (by omega)).mono ?_
        rintro e w9 ⟨EB, rfl, hE⟩
        have HE := Lib.hid hE; clear hE
        go_wp2_with fail
        exact ⟨rfl, HPost.out _ _ (QReadN.fault ⟨EB, rfl, HE.out⟩)⟩
      | true =>
        have HBAD := Lib.hid HRUN.out.err
        clear HRUN
        have hn1 : x.pos + i ≤ s.size := by omega
        have hSK := skipNQ HQ.out i (i : Int) rfl hn1
        have HSK := Lib.hid hSK; clear hSK
        unfold QFrame
        go_wp2_with fail
        refine HSK.out.mono ?_
        rintro e w9 ⟨rfl, hQ1⟩
        have HQ2 := Lib.hid hQ1; clear hQ1
        go_wp2_with fail
        exact HPost.out _ _ (QReadN.loose HBAD.out rfl HQ2.out.cur hi0 hn1)
  · have hqb : ((q.size : Int) == 3) = true := by rw [beq_iff_eq]; omega
    have hqI : (q.size : Int) = 3 := by omega
    have HRN : Hid (qrun q.data.toList raw uni ident r 3 [] = R) := Lib.hid (by have := HR.out; rw [hq] at this; exact this)
    have hcat : ¬ (((⟨#[116, 114, 105, 112, 108, 101, 45, 113, 117, 111, 116, 101, 100, 32]⟩ : ByteArray).size + name.size : Nat) : Int) > IntKind.i64.max := by
      have e1 : (⟨#[116, 114, 105, 112, 108, 101, 45, 113, 117, 111, 116, 101, 100, 32]⟩ : ByteArray).size = 14 := rfl
      have e2 : IntKind.i64.max = 9223372036854775807 := rfl
      rw [e1, e2]; omega
    have hi : ident = false := by
      cases hid : ident with
      | false => rfl
      | true => have := HN2.out hid; omega
    have hnb : (((⟨#[116, 114, 105, 112, 108, 101, 45, 113, 117, 111, 116, 101, 100, 32]⟩ : ByteArray) ++ name).toList == [105, 100, 101, 110, 116, 105, 102, 105, 101, 114]) = ident := by
      rw [hi, beq_eq_false_iff_ne, Lib.toList_data, ByteArray.data_append, Array.toList_append]
      intro e
      have := congrArg List.head? e
      simp at this
    clear HN1
    have HN1 := Lib.hid hnb; clear hnb hi
    go_wp2_with fail
    rename_i Kx hKx
    have HKx := Lib.hid hKx; clear hKx
    refine wp_loop_ghost_k (QInv W w0 lb fb s x B q raw uni (⟨#[116, 114, 105, 112, 108, 101, 45, 113, 117, 111, 116, 101, 100, 32]⟩ ++ name) np ident r R) (r.length - 3) (QInv.of [] _ rfl rfl rfl rfl rfl rfl rfl rfl rfl rfl rfl rfl (by omega) (by simp) HQ0.out (Link.ok HRN.out)) ?_
    rintro g a wx ⟨t, he, i, v, acc, rfl, rfl, ⟨hi0, hi⟩, hacc, hQ, hrun⟩ J K hJ hK
    by_cases hlt : i < r.length
    · exact q_round t HRr.out (.inr hq) HN1.out hlt hacc hQ hrun HG.out HCM.out HPost.out J K hJ hK
    · refine q_end t HRr.out (by omega) hi hQ K (fun l hl h0 h1 h2 h3 h4 h5 h12 h13 h14 h15 h16 w' hQ' => HKx.out _ _ ?_)
      rw [QFrame.of l hl h0 h1 h2 h3 h4 h5 h12 h13 h14 h15 h16]
      clear h0 h1 h2 h3 h4 h5 h12 h13 h14 h15 h16
      generalize (fun k => l.getD k undef) = t'
      clear hl
      rw [qrun_out _ _ _ _ _ _ _ hlt] at hrun
      have HRUN := Lib.hid hrun
      clear hrun hQ HQ0 HRN HKx HR hJ hK
      have HQ := Lib.hid hQ'; clear hQ'
      cases np with
      | false =>
        obtain ⟨h1, h2⟩ := HRUN.out.strict
        subst h1; subst h2
        clear HRUN
        unfold QFrame
        obtain ⟨c0, c9, c1⟩ := HQ.out.cur.lex.rd
        go_wp2_with fail
        go_still_tail 11, (by kernel_rfl)
        clear c0 c9 c1
        change wpList _ _ _ _ _ (w'.drewN 1)
        have HQ2 := Lib.hid (HQ.out.drewN 1)
        clear HQ
        generalize w'.drewN 1 = w2 at *
        obtain ⟨c0, c9, c1⟩ := HQ2.out.cur.lex.rd
        go_wp2_with fail
        refine (errorfAtQ HQ2.out 0 i _ _ _ (by omega) (by omega) (by omega) (by omega)).mono ?_
        rintro e w9 ⟨EB, rfl, hE⟩
        have HE := Lib.hid hE; clear hE
        go_wp2_with fail
        exact ⟨rfl, HPost.out _ _ (QReadN.fault ⟨EB, rfl, HE.out⟩)⟩
      | true =>
        have HBAD := Lib.hid HRUN.out.err
        clear HRUN
        have hn1 : x.pos + i ≤ s.size := by omega
        have hSK := skipNQ HQ.out i (i : Int) rfl hn1
        have HSK := Lib.hid hSK; clear hSK
        unfold QFrame
        go_wp2_with fail
        refine HSK.out.mono ?_
        rintro e w9 ⟨rfl, hQ1⟩
        have HQ2 := Lib.hid hQ1; clear hQ1
        go_wp2_with fail
        exact HPost.out _ _ (QReadN.loose HBAD.out rfl HQ2.out.cur hi0 hn1)
end Go.Proofs.YtcelnnjjakiehaaGreatDoor
