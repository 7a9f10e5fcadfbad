/-
  Quoted texts behind letters; names in backquotes; all other heads.
-/
import Derived.Test.YtcelnnjjakiehaaGreatDoorTok5
import Derived.Test.YtcelnnjjakiehaaGreatDoorTok4
import Derived.Deep.CutBlock
import Derived.Deep.DeepCutAuto
namespace Go.Proofs.YtcelnnjjakiehaaGreatDoor
open Go.RowKit
set_option linter.unusedVariables false
set_option maxRecDepth 1000000
set_option maxHeartbeats 16000000


/-- a reading moved on by some bytes -/
def Rs.shift (i : Nat) : Rs → Rs
  | .ok t => .ok { t with len := i + t.len }
  | .err p e => .err (i + p) (i + e)
theorem qtok_shift (q : List UInt8) (raw uni ident : Bool) (kind : List UInt8) (i : Nat) (r : List UInt8) : qtok q raw uni ident kind i r = (qtok q raw uni ident kind 0 (r.drop i)).shift i := by
  unfold qtok
  rw [List.drop_zero]
  cases qrun q raw uni ident (r.drop i) q.length [] with
  | ok t n => show Rs.ok _ = Rs.ok _; rw [Nat.zero_add]
  | err p e => show Rs.err _ _ = Rs.err _ _; rw [Nat.zero_add, Nat.zero_add]
theorem ReadN.shift {W w0 : World} {lb fb : Nat} {s : ByteArray} {x : LexSt} {np : Bool} {rs : Rs} {i : Nat} {e : Ending} {w' : World} (h : ReadN W w0 lb fb s { x with pos := x.pos + i } np rs e w') : ReadN W w0 lb fb s x np (rs.shift i) e w' := by
  have htk : ∀ t : Tk, LexSt.took { x with pos := x.pos + i } t = x.took { t with len := i + t.len } := by
    intro t
    unfold LexSt.took
    simp only [Nat.add_assoc]
  unfold ReadN at h ⊢
  cases np with
  | true =>
    obtain ⟨t, h1, h2, h3, h4⟩ := h
    refine ⟨{ t with len := i + t.len }, ?_, ?_, ?_, ?_⟩
    · intro t' ht
      cases rs with
      | ok t2 => rw [h1 t2 rfl]; cases ht; rfl
      | err p e => cases ht
    · have h2 : x.pos + i + t.len ≤ s.size := h2
      show x.pos + (i + t.len) ≤ s.size
      omega
    · intro hh
      show 0 < i + t.len
      have h3 : x.pos + i < s.size → 0 < t.len := h3
      omega
    · rw [← htk]; exact h4
  | false =>
    cases rs with
    | ok t =>
      show Did _ _ _ _ _ _ _ _ _
      rw [← htk]; exact h
    | err p q =>
      show Fault W w0 lb fb (x.pos + (i + p)) e w'
      rw [← Nat.add_assoc]; exact h
theorem pfx_at (r : List UInt8) : ∀ n i by_ ra j b a, pfx r n i by_ ra = some (j, b, a) → j < r.length ∧ (byteAt r j = 34 ∨ byteAt r j = 39) := by
  intro n
  induction n with
  | zero => intro i by_ ra j b a h; cases h
  | succ n ih =>
    intro i by_ ra j b a h
    unfold pfx at h
    split at h
    · next hl =>
      split at h
      · exact ih _ _ _ _ _ _ h
      · split at h
        · exact ih _ _ _ _ _ _ h
        · split at h
          · next hq =>
            cases h
            rw [Bool.or_eq_true, isAt_in r i 34 hl, isAt_in r i 39 hl, decide_eq_true_eq, decide_eq_true_eq] at hq
            exact ⟨hl, hq⟩
          · cases h
    · cases h
theorem delim_drop0 (r : List UInt8) (i : Nat) : delim (r.drop i) 0 = delim r i := (delim_drop r i).symm
theorem lit_any {W w0 w : World} {lb fb : Nat} {s : ByteArray} {x : LexSt} {r : List UInt8} (np : Bool) (hm : Mode np s) (hx : x.text = ⟨#[]⟩ ∧ x.base = 0) (hr : s.data.toList.drop x.pos = r) {i : Nat} {by_ ra : Bool} (hi : i < r.length) (hq : byteAt r i = 34 ∨ byteAt r i = 39) (h : Cur W w0 lb fb s { x with pos := x.pos + i } w)
    (hg : np = false → (qtok (delim r i) ra (!by_) false (if by_ then kBytes else kString) i r).good r.length) :
    Calls Tryz.prog (litF by_ ra) #[.pointer (some ⟨lb, 0, none⟩), .bool np] w (ReadN W w0 lb fb s x np (qtok (delim r i) ra (!by_) false (if by_ then kBytes else kString) i r)) := by
  have hr2 : s.data.toList.drop (x.pos + i) = r.drop i := by rw [← hr, List.drop_drop]
  have hl2 : 0 < (r.drop i).length := by rw [List.length_drop]; omega
  have hq2 : byteAt (r.drop i) 0 = 34 ∨ byteAt (r.drop i) 0 = 39 := by rw [byteAt_drop]; exact hq
  have hg2 : np = false → (qtok (delim (r.drop i) 0) ra (!by_) false (if by_ then kBytes else kString) 0 (r.drop i)).good (r.drop i).length := by
    intro hnp
    have := hg hnp
    rw [qtok_shift, ← delim_drop0] at this
    rw [List.length_drop]
    cases hh : qtok (delim (r.drop i) 0) ra (!by_) false (if by_ then kBytes else kString) 0 (r.drop i) with
    | ok t => rw [hh] at this; have this : i + t.len ≤ r.length := this; show t.len ≤ r.length - i; omega
    | err p e => rw [hh] at this; have this : i + p ≤ i + e ∧ i + e ≤ r.length := this; show p ≤ e ∧ e ≤ r.length - i; omega
  rw [qtok_shift, ← delim_drop0]
  cases by_ <;> cases ra
  · exact (litString h np hm hx hr2 hl2 hq2 hg2).mono fun e w' hh => hh.shift
  · exact (litRawString h np hm hx hr2 hl2 hq2 hg2).mono fun e w' hh => hh.shift
  · exact (litBytes h np hm hx hr2 hl2 hq2 hg2).mono fun e w' hh => hh.shift
  · exact (litRawBytes h np hm hx hr2 hl2 hq2 hg2).mono fun e w' hh => hh.shift
/-- no byte that begins a token by itself -/
def headOther : List Int := [40, 41, 123, 125, 59, 44, 91, 93, 126, 42, 47, 38, 94, 37, 58, 63, 92, 36, 46, 60, 62, 43, 45, 61, 124, 33, 64, 96, 48, 49, 50, 51, 52, 53, 54, 55, 56, 57]
theorem tk_bq {W w0 w : World} {lb fb : Nat} {s : ByteArray} {x : LexSt} {r : List UInt8} (h : Cur W w0 lb fb s x w) (np : Bool) (hx : x.text = ⟨#[]⟩ ∧ x.base = 0) (hr : s.data.toList.drop x.pos = r) (hl : 0 < r.length) (hm : Mode np s) (hc : byteAt r 0 = 96) (hg : np = false → (qtok [96] false true true kIdent 0 r).good r.length) :
    Calls Tryz.prog 52 #[.pointer (some ⟨lb, 0, none⟩), .bool np] w (ReadN W w0 lb fb s x np (qtok [96] false true true kIdent 0 r)) := by
  have hpos := h.pos
  have hsz := h.sz
  have hrl : r.length = s.size - x.pos := by rw [← hr]; exact h.len
  have HE : Hid (∀ w1, Cur W w0 lb fb s x w1 → Calls Tryz.prog 57 #[.pointer (some ⟨lb, 0, none⟩)] w1 (Did W w0 lb fb s (.bool false) x)) := Lib.hid (fun w1 h1 => by have := eofR h1; rw [show decide (s.size ≤ x.pos) = false from by simp; omega] at this; exact this)
  have HPK : Hid (∀ w1, Cur W w0 lb fb s x w1 → Calls Tryz.prog 65 #[.pointer (some ⟨lb, 0, none⟩), .int .i64 0] w1 (Did W w0 lb fb s (.int .u8 (byteAt r 0)) x)) := Lib.hid (fun w1 h1 => by have := peekR h1 0 0 rfl (by rw [hr]; exact hl); rw [hr] at this; exact this)
  have HSK : Hid (∀ w1, Cur W w0 lb fb s x w1 → Calls Tryz.prog 66 #[.pointer (some ⟨lb, 0, none⟩)] w1 (Did W w0 lb fb s (.int .u8 (byteAt r 0)) { x with pos := x.pos + 1 })) := Lib.hid (fun w1 h1 => by have := skipR h1 (by omega); rw [← hr, byteAt_drop]; exact this)
  have HIS : Hid (∀ w1, Cur W w0 lb fb s x w1 → ∀ c : Int, Calls Tryz.prog 61 #[.pointer (some ⟨lb, 0, none⟩), .int .i64 1, .int .u8 c] w1 (Did W w0 lb fb s (.bool (isAt r 1 c)) x)) := Lib.hid (fun w1 h1 c => by have := peekIsR h1 1 1 c rfl (by omega); rw [hr] at this; exact this)
  have HS2 : Hid (2 ≤ r.length → ∀ w1, Cur W w0 lb fb s x w1 → Calls Tryz.prog 60 #[.pointer (some ⟨lb, 0, none⟩), .int .i64 2] w1 (Did W w0 lb fb s (.tuple #[]) { x with pos := x.pos + 2 })) := Lib.hid (fun h2 w1 h1 => skipNR h1 2 2 rfl (by omega))
  rw [hc] at HPK HSK
  have HQ : Hid (∀ w1, Cur W w0 lb fb s { x with kind := ⟨kIdent.toArray⟩ } w1 → Calls Tryz.prog 71 #[.pointer (some ⟨lb, 0, none⟩), .string ⟨#[96]⟩, .bool false, .bool true, .string ⟨#[105, 100, 101, 110, 116, 105, 102, 105, 101, 114]⟩, .bool np] w1 (QReadN W w0 lb fb s { x with kind := ⟨kIdent.toArray⟩ } np (qrun [96] false true true r 1 []))) := Lib.hid (fun w1 h1 => by
    have := quotedN_any h1 np hm ⟨#[96]⟩ false true ⟨#[105, 100, 101, 110, 116, 105, 102, 105, 101, 114]⟩ true (.inl rfl) (by show 1 ≤ s.size - x.pos; omega) (by rw [Lib.toList_data]; rfl) (fun _ => rfl) (by decide) (fun hnp => by
      have h2 := hg hnp
      show (qrun [96] false true true (s.data.toList.drop x.pos) 1 []).good (s.size - x.pos)
      rw [hr, ← hrl]
      unfold qtok at h2
      rw [List.drop_zero] at h2
      have h2 : (match qrun [96] false true true r 1 [] with | .ok t n => Rs.ok ⟨kIdent, t, 0, 0 + n, none⟩ | .err p e => Rs.err (0 + p) (0 + e)).good r.length := h2
      cases hq : qrun [96] false true true r 1 [] with
      | ok t n => rw [hq] at h2; have h2 : 0 + n ≤ r.length := h2; show n ≤ r.length; omega
      | err p e => rw [hq] at h2; have h2 : 0 + p ≤ 0 + e ∧ 0 + e ≤ r.length := h2; show p ≤ e ∧ e ≤ r.length; omega)
    have h3 : QReadN W w0 lb fb s { x with kind := ⟨kIdent.toArray⟩ } np (qrun [96] false true true (s.data.toList.drop x.pos) 1 []) = QReadN W w0 lb fb s { x with kind := ⟨kIdent.toArray⟩ } np (qrun [96] false true true r 1 []) := by rw [hr]
    rw [← h3]; exact this)
  have hql := fun t n => qrun_len [96] false true true r r.length 1 [] t n (by omega)
  have hok : ∀ t n, qrun [96] false true true r 1 [] = .ok t n → qtok [96] false true true kIdent 0 r = .ok ⟨kIdent, t, 0, n, none⟩ := by
    intro t n hh
    unfold qtok
    rw [List.drop_zero]
    show (match qrun [96] false true true r 1 [] with | .ok t n => Rs.ok ⟨kIdent, t, 0, 0 + n, none⟩ | .err p e => Rs.err (0 + p) (0 + e)) = _
    rw [hh]
    show Rs.ok ⟨kIdent, t, 0, 0 + n, none⟩ = _
    rw [Nat.zero_add]
  have herr : ∀ p e, qrun [96] false true true r 1 [] = .err p e → qtok [96] false true true kIdent 0 r = .err p e := by
    intro p e hh
    unfold qtok
    rw [List.drop_zero]
    show (match qrun [96] false true true r 1 [] with | .ok t n => Rs.ok ⟨kIdent, t, 0, 0 + n, none⟩ | .err p e => Rs.err (0 + p) (0 + e)) = _
    rw [hh]
    show Rs.err (0 + p) (0 + e) = _
    rw [Nat.zero_add, Nat.zero_add]
  generalize qtok [96] false true true kIdent 0 r = RS at *
  generalize qrun [96] false true true r 1 [] = Q at *
  have HOKR := Lib.hid hok; have HERR := Lib.hid herr
  clear hok herr hm hg
  have HC := Lib.hid h; have HX := Lib.hid hx
  clear h hx hr
  go_enter Tryz.func52, Tryz.ntmps52
  go_wp2_with fail
  refine (HE.out _ HC.out).mono ?_
  rintro e w1 ⟨rfl, hC1⟩
  clear HC; have HC := Lib.hid hC1; clear hC1
  go_wp2_with fail
  refine (HPK.out _ HC.out).mono ?_
  rintro e w1 ⟨rfl, hC1⟩
  clear HC; have HC := Lib.hid hC1; clear hC1
  have k1 := (HC.out.lex.cell 1).1; have f1 := (HC.out.lex.cell 1).2
  simp only [LexSt.cells, List.getElem?_toArray, List.getElem?_cons_succ, List.getElem?_cons_zero] at k1
  go_wp2_with fail
  have hC1 : Cur W w0 lb fb s { x with kind := ⟨kIdent.toArray⟩ } (w1.setCell ⟨lb, 1, none⟩ (.string ⟨kIdent.toArray⟩)) := HC.out.set 1 _ _ rfl hpos
  clear HC k1 f1
  have HC := Lib.hid hC1; clear hC1
  refine (HQ.out _ HC.out).mono ?_
  intro e w2 hq
  have hq : QReadN W w0 lb fb s { x with kind := ⟨kIdent.toArray⟩ } np Q e w2 := hq
  clear HC
  cases np with
  | true =>
    obtain ⟨b, t, n, rfl, hC, hn0, hn1, hn2⟩ := hq
    have HC := Lib.hid hC; clear hC
    have k5 := (HC.out.lex.cell 5).1; have f5 := (HC.out.lex.cell 5).2
    simp only [LexSt.cells, List.getElem?_toArray, List.getElem?_cons_succ, List.getElem?_cons_zero] at k5
    have HN := Lib.hid hn2; clear hn2
    cases b with
    | true =>
      have hC5 := HC.out.set 5 (.string ⟨t.toArray⟩) { x with kind := ⟨kIdent.toArray⟩, pos := x.pos + n, text := ⟨t.toArray⟩ } rfl hn1
      have k1 := (hC5.lex.cell 1).1; have f1 := (hC5.lex.cell 1).2
      simp only [LexSt.cells, List.getElem?_toArray, List.getElem?_cons_succ, List.getElem?_cons_zero] at k1
      have HC5 := Lib.hid hC5; clear hC5
      go_wp2_with fail
      go_end0
      refine ⟨⟨kBad, t, 0, n, none⟩, ?_, hn1, fun _ => hn0, ?_⟩
      · intro t' ht
        cases Q with
        | ok t2 n2 => have := (HN.out t2 n2 rfl).1; cases this
        | err p e => rw [HERR.out p e rfl] at ht; cases ht
      · rw [took_text x HX.out]
        exact ⟨rfl, HC5.out.set 1 _ _ rfl hn1⟩
    | false =>
      go_wp2_with fail
      go_end0
      refine ⟨⟨kIdent, t, 0, n, none⟩, ?_, hn1, fun _ => hn0, ?_⟩
      · intro t' ht
        cases Q with
        | ok t2 n2 =>
          obtain ⟨_, h2, h3⟩ := HN.out t2 n2 rfl
          rw [HOKR.out t2 n2 rfl] at ht
          cases ht
          rw [h2, h3]
        | err p e => rw [HERR.out p e rfl] at ht; cases ht
      · rw [took_text x HX.out]
        exact ⟨rfl, HC.out.set 5 _ _ rfl hn1⟩
  | false =>
    cases Q with
    | ok t n =>
      obtain ⟨rfl, hC⟩ : QRead W w0 lb fb s { x with kind := ⟨kIdent.toArray⟩ } (.ok t n) e w2 := hq
      have hn := hql t n rfl
      have hn1 : x.pos + n ≤ s.size := by omega
      have HC := Lib.hid hC; clear hC
      have k5 := (HC.out.lex.cell 5).1; have f5 := (HC.out.lex.cell 5).2
      simp only [LexSt.cells, List.getElem?_toArray, List.getElem?_cons_succ, List.getElem?_cons_zero] at k5
      go_wp2_with fail
      go_end0
      rw [HOKR.out t n rfl]
      show Did _ _ _ _ _ _ _ _ _
      rw [took_text x HX.out]
      exact ⟨rfl, HC.out.set 5 _ _ rfl hn1⟩
    | err p q =>
      obtain ⟨EB, rfl, hE⟩ : Fault W w0 lb fb (x.pos + p) e w2 := hq
      have HE := Lib.hid hE; clear hE
      go_wp2_with fail
      refine ⟨rfl, ?_⟩
      rw [HERR.out p q rfl]
      exact ⟨EB, rfl, HE.out⟩
theorem tk_rest {W w0 w : World} {lb fb : Nat} {s : ByteArray} {x : LexSt} {r : List UInt8} (h : Cur W w0 lb fb s x w) (np : Bool) (hx : x.text = ⟨#[]⟩ ∧ x.base = 0) (hr : s.data.toList.drop x.pos = r) (hl : 0 < r.length) (hm : Mode np s) (hne : ∀ k ∈ headOther, byteAt r 0 ≠ k) (hg : np = false → (restTok r).good r.length) :
    Calls Tryz.prog 52 #[.pointer (some ⟨lb, 0, none⟩), .bool np] w (ReadN W w0 lb fb s x np (restTok r)) := by
  have hpos := h.pos
  have hsz := h.sz
  have hrl : r.length = s.size - x.pos := by rw [← hr]; exact h.len
  have HE : Hid (∀ w1, Cur W w0 lb fb s x w1 → Calls Tryz.prog 57 #[.pointer (some ⟨lb, 0, none⟩)] w1 (Did W w0 lb fb s (.bool false) x)) := Lib.hid (fun w1 h1 => by have := eofR h1; rw [show decide (s.size ≤ x.pos) = false from by simp; omega] at this; exact this)
  have HPK : Hid (∀ w1, Cur W w0 lb fb s x w1 → Calls Tryz.prog 65 #[.pointer (some ⟨lb, 0, none⟩), .int .i64 0] w1 (Did W w0 lb fb s (.int .u8 (byteAt r 0)) x)) := Lib.hid (fun w1 h1 => by have := peekR h1 0 0 rfl (by rw [hr]; exact hl); rw [hr] at this; exact this)
  have HSK : Hid (∀ w1, Cur W w0 lb fb s x w1 → Calls Tryz.prog 66 #[.pointer (some ⟨lb, 0, none⟩)] w1 (Did W w0 lb fb s (.int .u8 (byteAt r 0)) { x with pos := x.pos + 1 })) := Lib.hid (fun w1 h1 => by have := skipR h1 (by omega); rw [← hr, byteAt_drop]; exact this)
  have HIS : Hid (∀ w1, Cur W w0 lb fb s x w1 → ∀ c : Int, Calls Tryz.prog 61 #[.pointer (some ⟨lb, 0, none⟩), .int .i64 1, .int .u8 c] w1 (Did W w0 lb fb s (.bool (isAt r 1 c)) x)) := Lib.hid (fun w1 h1 c => by have := peekIsR h1 1 1 c rfl (by omega); rw [hr] at this; exact this)
  have HS2 : Hid (2 ≤ r.length → ∀ w1, Cur W w0 lb fb s x w1 → Calls Tryz.prog 60 #[.pointer (some ⟨lb, 0, none⟩), .int .i64 2] w1 (Did W w0 lb fb s (.tuple #[]) { x with pos := x.pos + 2 })) := Lib.hid (fun h2 w1 h1 => skipNR h1 2 2 rfl (by omega))
  have hrt : ∀ P, pfx r 3 0 false false = P → restTok r = (match P with
      | some (i, by_, raw) => qtok (delim r i) raw (!by_) false (if by_ then kBytes else kString) i r
      | none => if idStart (byteAt r 0) then wordTok r else .err 0 0) := fun P hP => by rw [← hP]; rfl
  have HLit : Hid (∀ i by_ ra, pfx r 3 0 false false = some (i, by_, ra) → ∀ w1, Cur W w0 lb fb s { x with pos := x.pos + i } w1 → Calls Tryz.prog (litF by_ ra) #[.pointer (some ⟨lb, 0, none⟩), .bool np] w1 (ReadN W w0 lb fb s x np (restTok r))) := Lib.hid (fun i by_ ra hP w1 h1 => by
    have hq := pfx_at r 3 0 false false i by_ ra hP
    have e := hrt _ hP
    simp only at e
    rw [e] at hg ⊢
    exact lit_any np hm hx hr hq.1 hq.2 h1 hg)
  have HTail : Hid (pfx r 3 0 false false = none → ∀ (l : List Value) (hll : l.length = 464) (h0 : l.getD 0 undef = .pointer (some ⟨lb, 0, none⟩)) (h1 : l.getD 1 undef = .bool np) w1, Cur W w0 lb fb s x w1 → Code.wp Tryz.prog ttail (bodyPost Tryz.prog Tryz.f52 (ReadN W w0 lb fb s x np (restTok r))) ⟨l.toArray, []⟩ w1) := Lib.hid (fun hP l hll h0 h1 w1 hC => by
    have e := hrt _ hP
    simp only at e
    cases hst : idStart (byteAt r 0) with
    | true => rw [hst, if_pos rfl] at e; exact tk_word hC hx hr hl _ e hst l hll h0 h1
    | false => rw [hst, if_neg (by decide)] at e; exact tk_bad hC hx hr hl _ e hst l hll h0 h1)
  have HR0 := Lib.hid hr
  have hpn : ¬ (byteAt r 0 = 66 ∨ byteAt r 0 = 98 ∨ byteAt r 0 = 82 ∨ byteAt r 0 = 114 ∨ byteAt r 0 = 34 ∨ byteAt r 0 = 39) → pfx r 3 0 false false = none := by
    intro hh
    unfold pfx
    rw [if_pos hl, isAt_in r 0 66 hl, isAt_in r 0 98 hl, isAt_in r 0 82 hl, isAt_in r 0 114 hl, isAt_in r 0 34 hl, isAt_in r 0 39 hl]
    simp only [not_or] at hh
    obtain ⟨n1, n2, n3, n4, n5, n6⟩ := hh
    simp [n1, n2, n3, n4, n5, n6]
  clear hm hg hrt
  generalize restTok r = RS at *
  by_cases h6 : byteAt r 0 = 66 ∨ byteAt r 0 = 98 ∨ byteAt r 0 = 82 ∨ byteAt r 0 = 114 ∨ byteAt r 0 = 34 ∨ byteAt r 0 = 39
  · clear hpn hne
    rcases h6 with h6 | h6 | h6 | h6 | h6 | h6
    all_goals
      rw [h6] at HPK HSK
      clear h6
      have HC := Lib.hid h; have HX := Lib.hid hx
      clear h hx hr
      go_enter Tryz.func52, Tryz.ntmps52
      go_wp2_with fail
      refine (HE.out _ HC.out).mono ?_
      rintro e w1 ⟨rfl, hC1⟩
      clear HC; have HC := Lib.hid hC1; clear hC1
      go_wp2_with fail
      refine (HPK.out _ HC.out).mono ?_
      rintro e w1 ⟨rfl, hC1⟩
      clear HC; have HC := Lib.hid hC1; clear hC1
      go_wp2_with fail
      go_step3
      go_wp2_with fail
      go_step3
      go_wp2_with fail
      rename_i Kx hKx
      have HKx := Lib.hid hKx; clear hKx
      refine wp_loop_ghost_k (PInv W w0 lb fb s x np r (pfx r 3 0 false false)) 3 ⟨_, false, false, 0, TF9.of _ rfl rfl rfl rfl rfl rfl, rfl, by omega, rfl, HC.out⟩ ?_
      rintro g a wx ⟨t, by_, ra, i, rfl, rfl, hi3, hP, hC⟩ J K hJ hK
      exact tk_pfx t by_ ra i hi3 hP hC HR0.out (fun hPn l hll h0 h1 w' hC' => HKx.out _ _ (HTail.out hPn l hll h0 h1 w' hC')) HLit.out J K hJ hK
  · have hPn := hpn h6
    simp only [not_or] at h6
    obtain ⟨n66, n98, n82, n114, n34, n39⟩ := h6
    have e40 : (byteAt r 0 == 40) = false := by rw [beq_eq_false_iff_ne]; exact hne 40 (by decide)
    have e41 : (byteAt r 0 == 41) = false := by rw [beq_eq_false_iff_ne]; exact hne 41 (by decide)
    have e123 : (byteAt r 0 == 123) = false := by rw [beq_eq_false_iff_ne]; exact hne 123 (by decide)
    have e125 : (byteAt r 0 == 125) = false := by rw [beq_eq_false_iff_ne]; exact hne 125 (by decide)
    have e59 : (byteAt r 0 == 59) = false := by rw [beq_eq_false_iff_ne]; exact hne 59 (by decide)
    have e44 : (byteAt r 0 == 44) = false := by rw [beq_eq_false_iff_ne]; exact hne 44 (by decide)
    have e91 : (byteAt r 0 == 91) = false := by rw [beq_eq_false_iff_ne]; exact hne 91 (by decide)
    have e93 : (byteAt r 0 == 93) = false := by rw [beq_eq_false_iff_ne]; exact hne 93 (by decide)
    have e126 : (byteAt r 0 == 126) = false := by rw [beq_eq_false_iff_ne]; exact hne 126 (by decide)
    have e42 : (byteAt r 0 == 42) = false := by rw [beq_eq_false_iff_ne]; exact hne 42 (by decide)
    have e47 : (byteAt r 0 == 47) = false := by rw [beq_eq_false_iff_ne]; exact hne 47 (by decide)
    have e38 : (byteAt r 0 == 38) = false := by rw [beq_eq_false_iff_ne]; exact hne 38 (by decide)
    have e94 : (byteAt r 0 == 94) = false := by rw [beq_eq_false_iff_ne]; exact hne 94 (by decide)
    have e37 : (byteAt r 0 == 37) = false := by rw [beq_eq_false_iff_ne]; exact hne 37 (by decide)
    have e58 : (byteAt r 0 == 58) = false := by rw [beq_eq_false_iff_ne]; exact hne 58 (by decide)
    have e63 : (byteAt r 0 == 63) = false := by rw [beq_eq_false_iff_ne]; exact hne 63 (by decide)
    have e92 : (byteAt r 0 == 92) = false := by rw [beq_eq_false_iff_ne]; exact hne 92 (by decide)
    have e36 : (byteAt r 0 == 36) = false := by rw [beq_eq_false_iff_ne]; exact hne 36 (by decide)
    have e46 : (byteAt r 0 == 46) = false := by rw [beq_eq_false_iff_ne]; exact hne 46 (by decide)
    have e60 : (byteAt r 0 == 60) = false := by rw [beq_eq_false_iff_ne]; exact hne 60 (by decide)
    have e62 : (byteAt r 0 == 62) = false := by rw [beq_eq_false_iff_ne]; exact hne 62 (by decide)
    have e43 : (byteAt r 0 == 43) = false := by rw [beq_eq_false_iff_ne]; exact hne 43 (by decide)
    have e45 : (byteAt r 0 == 45) = false := by rw [beq_eq_false_iff_ne]; exact hne 45 (by decide)
    have e61 : (byteAt r 0 == 61) = false := by rw [beq_eq_false_iff_ne]; exact hne 61 (by decide)
    have e124 : (byteAt r 0 == 124) = false := by rw [beq_eq_false_iff_ne]; exact hne 124 (by decide)
    have e33 : (byteAt r 0 == 33) = false := by rw [beq_eq_false_iff_ne]; exact hne 33 (by decide)
    have e64 : (byteAt r 0 == 64) = false := by rw [beq_eq_false_iff_ne]; exact hne 64 (by decide)
    have e96 : (byteAt r 0 == 96) = false := by rw [beq_eq_false_iff_ne]; exact hne 96 (by decide)
    have e48 : (byteAt r 0 == 48) = false := by rw [beq_eq_false_iff_ne]; exact hne 48 (by decide)
    have e49 : (byteAt r 0 == 49) = false := by rw [beq_eq_false_iff_ne]; exact hne 49 (by decide)
    have e50 : (byteAt r 0 == 50) = false := by rw [beq_eq_false_iff_ne]; exact hne 50 (by decide)
    have e51 : (byteAt r 0 == 51) = false := by rw [beq_eq_false_iff_ne]; exact hne 51 (by decide)
    have e52 : (byteAt r 0 == 52) = false := by rw [beq_eq_false_iff_ne]; exact hne 52 (by decide)
    have e53 : (byteAt r 0 == 53) = false := by rw [beq_eq_false_iff_ne]; exact hne 53 (by decide)
    have e54 : (byteAt r 0 == 54) = false := by rw [beq_eq_false_iff_ne]; exact hne 54 (by decide)
    have e55 : (byteAt r 0 == 55) = false := by rw [beq_eq_false_iff_ne]; exact hne 55 (by decide)
    have e56 : (byteAt r 0 == 56) = false := by rw [beq_eq_false_iff_ne]; exact hne 56 (by decide)
    have e57 : (byteAt r 0 == 57) = false := by rw [beq_eq_false_iff_ne]; exact hne 57 (by decide)
    have e66 : (byteAt r 0 == 66) = false := by rw [beq_eq_false_iff_ne]; exact n66
    have e98 : (byteAt r 0 == 98) = false := by rw [beq_eq_false_iff_ne]; exact n98
    have e82 : (byteAt r 0 == 82) = false := by rw [beq_eq_false_iff_ne]; exact n82
    have e114 : (byteAt r 0 == 114) = false := by rw [beq_eq_false_iff_ne]; exact n114
    have e34 : (byteAt r 0 == 34) = false := by rw [beq_eq_false_iff_ne]; exact n34
    have e39 : (byteAt r 0 == 39) = false := by rw [beq_eq_false_iff_ne]; exact n39
    clear hpn hne n66 n98 n82 n114 n34 n39
    generalize byteAt r 0 = c at *
    have HC := Lib.hid h; have HX := Lib.hid hx
    clear h hx hr
    go_enter Tryz.func52, Tryz.ntmps52
    go_wp2_with fail
    refine (HE.out _ HC.out).mono ?_
    rintro e w1 ⟨rfl, hC1⟩
    clear HC; have HC := Lib.hid hC1; clear hC1
    go_wp2_with fail
    refine (HPK.out _ HC.out).mono ?_
    rintro e w1 ⟨rfl, hC1⟩
    clear HC; have HC := Lib.hid hC1; clear hC1
    go_upto_block 0 with fail
    rename_i Kx hKx
    have HKx := Lib.hid hKx; clear hKx
    go_wp2_with fail
    exact HKx.out _ _ (HTail.out hPn _ rfl rfl rfl _ HC.out)
end Go.Proofs.YtcelnnjjakiehaaGreatDoor
