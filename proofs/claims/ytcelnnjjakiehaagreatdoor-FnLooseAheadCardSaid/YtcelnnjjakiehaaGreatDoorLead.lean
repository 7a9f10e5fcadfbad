/-
  The contract of consumeFieldToken.
  Blanks and comments ahead of a token, a whole token: the plain law of nextToken; comments in memory.
-/
import Derived.Test.YtcelnnjjakiehaaGreatDoorTok8
import Derived.Deep.LoopGhost
import Derived.Deep.CutBlock
import Derived.Deep.DeepCutAuto
import Derived.Test.YtcelnnjjakiehaaGreatDoorCom
namespace Go.Proofs.YtcelnnjjakiehaaGreatDoor
open Go.RowKit
set_option linter.unusedVariables false
set_option maxRecDepth 1000000
set_option maxHeartbeats 16000000

theorem consumeField_any {W w0 w : World} {lb fb : Nat} {s : ByteArray} {x : LexSt} {r : List UInt8} (h : Cur W w0 lb fb s x w) (np : Bool) (hm : Mode np s) (hx : x.text = ⟨#[]⟩ ∧ x.base = 0) (hr : s.data.toList.drop x.pos = r) (hg : np = false → (ftok x.last.data.toList r).good r.length) :
    Calls Tryz.prog 51 #[.pointer (some ⟨lb, 0, none⟩), .bool np] w (ReadN W w0 lb fb s x np (ftok x.last.data.toList r)) := by
  have hpos := h.pos
  have hsz := h.sz
  have hrl : r.length = s.size - x.pos := by rw [← hr]; exact h.len
  by_cases hl : 0 < r.length
  · cases hst : idPart (byteAt r 0) with
    | true =>
      have hft : ftok x.last.data.toList r = .ok ⟨kIdent, r.take (wordLen r), 0, wordLen r, none⟩ := by unfold ftok; rw [if_pos ⟨hl, hst⟩]
      rw [hft]
      have HOK0 : Hid (∀ w1, Cur W w0 lb fb s x w1 → Calls Tryz.prog 63 #[.pointer (some ⟨lb, 0, none⟩), .int .i64 0] w1 (Did W w0 lb fb s (.bool true) x)) := Lib.hid (fun w1 h1 => by have := peekOkR h1 0 0 rfl (by omega); rw [hr, show decide (0 < r.length) = true from by simpa using hl] at this; exact this)
      have HPK0 : Hid (∀ w1, Cur W w0 lb fb s x w1 → Calls Tryz.prog 65 #[.pointer (some ⟨lb, 0, none⟩), .int .i64 0] w1 (Did W w0 lb fb s (.int .u8 (byteAt r 0)) x)) := Lib.hid (fun w1 h1 => by have := peekR h1 0 0 rfl (by rw [hr]; exact hl); rw [hr] at this; exact this)
      have HID0 : Hid (∀ w1, Calls Tryz.prog 64 #[.int .u8 (byteAt r 0)] w1 fun e w' => e = .returned (.bool true) ∧ w1 = w') := Lib.hid (fun w1 => by have := isIdentPart_any (byteAt r 0) w1; rw [hst] at this; exact this)
      have HOK : Hid (∀ w1, Cur W w0 lb fb s x w1 → ∀ (k : Nat), k ≤ r.length → Calls Tryz.prog 63 #[.pointer (some ⟨lb, 0, none⟩), .int .i64 (k : Int)] w1 (Did W w0 lb fb s (.bool (decide (k < r.length))) x)) := Lib.hid (fun w1 h1 k hk => by have := peekOkR h1 k k rfl (by omega); rw [hr] at this; exact this)
      have HPKI : Hid (∀ w1, Cur W w0 lb fb s x w1 → ∀ (k : Nat), k < r.length → Calls Tryz.prog 65 #[.pointer (some ⟨lb, 0, none⟩), .int .i64 (k : Int)] w1 (Did W w0 lb fb s (.int .u8 (byteAt r k)) x)) := Lib.hid (fun w1 h1 k hk => by have := peekR h1 k k rfl (by rw [hr]; exact hk); rw [hr] at this; exact this)
      have hn1 := wordLen_le r
      have hn0 : 0 < wordLen r := by
        cases r with
        | nil => simp at hl
        | cons c t =>
          have hst : idPart (c.toNat : Int) = true := hst
          unfold wordLen; rw [List.takeWhile_cons, if_pos hst]; simp
      have HIN : Hid (∀ i, 0 ≤ i → i < wordLen r → idPart (byteAt r i) = true) := Lib.hid (fun i _ h1 => (wordLen_in r i h1).2)
      have HOUT : Hid (wordLen r < r.length → idPart (byteAt r (wordLen r)) = false) := Lib.hid (wordLen_at r)
      have HSKN : Hid (∀ w1 y, Cur W w0 lb fb s y w1 → y.pos = x.pos → Calls Tryz.prog 60 #[.pointer (some ⟨lb, 0, none⟩), .int .i64 ((wordLen r : Nat) : Int)] w1 (Did W w0 lb fb s (.tuple #[]) { y with pos := y.pos + wordLen r })) := Lib.hid (fun w1 y h1 hy => skipNR h1 (wordLen r) _ rfl (by omega))
      have hex : s.extract x.pos (x.pos + wordLen r) = ⟨(r.take (wordLen r)).toArray⟩ := by
        apply ba_ext
        have h3 := sub_drop s.data.toList x.pos 0 (wordLen r)
        rw [sub_data, show sub s.data.toList x.pos (x.pos + wordLen r) = sub s.data.toList (x.pos + 0) (x.pos + wordLen r) from rfl, h3, hr]
        show sub r 0 (wordLen r) = _
        unfold sub; simp
      clear hst hft hg hm
      generalize r.take (wordLen r) = V at *
      generalize wordLen r = n at *
      have HC := Lib.hid h; have HX := Lib.hid hx
      clear h hx hr
      go_enter Tryz.func51, Tryz.ntmps51
      go_wp2_with fail
      refine (HOK0.out _ HC.out).mono ?_
      rintro e w1 ⟨rfl, hC1⟩
      clear HC; have HC := Lib.hid hC1; clear hC1
      go_wp2_with fail
      refine (HPK0.out _ HC.out).mono ?_
      rintro e w1 ⟨rfl, hC1⟩
      clear HC; have HC := Lib.hid hC1; clear hC1
      go_wp2_with fail
      refine (HID0.out _).mono ?_
      rintro e w2 ⟨rfl, rfl⟩
      clear HOK0 HPK0 HID0
      go_upto_block 0 with fail
      go_cut [4] (fun s4 wx => s4 = .int .i64 (n : Int) ∧ Cur W w0 lb fb s x wx)
      case first =>
        go_wp2_with fail
        go_loopg [4] r.length (fun g s4 wx => ∃ i : Nat, i ≤ n ∧ g = r.length - i ∧ s4 = .int .i64 (i : Int) ∧ Cur W w0 lb fb s x wx)
        case atStart => exact ⟨0, Nat.zero_le _, rfl, rfl, HC.out⟩
        case round =>
          obtain ⟨i, hi1, rfl, rfl, hC⟩ := hrel
          clear HC
          have HC := Lib.hid hC; clear hC
          by_cases hlt : i < r.length
          · have hok := HOK.out
            have HOK1 : Hid (∀ w1, Cur W w0 lb fb s x w1 → Calls Tryz.prog 63 #[.pointer (some ⟨lb, 0, none⟩), .int .i64 (i : Int)] w1 (Did W w0 lb fb s (.bool true) x)) := Lib.hid (fun w1 h1 => by have := hok w1 h1 i (by omega); rw [show decide (i < r.length) = true from by simpa using hlt] at this; exact this)
            clear hok
            have HPI1 : Hid (∀ w1, Cur W w0 lb fb s x w1 → Calls Tryz.prog 65 #[.pointer (some ⟨lb, 0, none⟩), .int .i64 (i : Int)] w1 (Did W w0 lb fb s (.int .u8 (byteAt r i)) x)) := Lib.hid (fun w1 h1 => HPKI.out w1 h1 i hlt)
            have HID : Hid (∀ w1, Calls Tryz.prog 64 #[.int .u8 (byteAt r i)] w1 fun e w' => e = .returned (.bool (decide (i < n))) ∧ w1 = w') := Lib.hid (fun w1 => by
              have := isIdentPart_any (byteAt r i) w1
              by_cases hin : i < n
              · rw [HIN.out i (Nat.zero_le _) hin] at this; rw [show decide (i < n) = true from by simpa using hin]; exact this
              · obtain rfl : n = i := by omega
                rw [HOUT.out hlt] at this; rw [show decide (n < n) = false from by simp]; exact this)
            clear HIN HOUT
            generalize byteAt r i = ci at *
            by_cases hin : i < n
            · rw [show decide (i < n) = true from by simpa using hin] at HID
              go_wp2_with fail
              refine (HOK1.out _ HC.out).mono ?_
              rintro e w1 ⟨rfl, hC1⟩
              clear HC; have HC := Lib.hid hC1; clear hC1
              go_wp2_with fail
              refine (HPI1.out _ HC.out).mono ?_
              rintro e w1 ⟨rfl, hC1⟩
              clear HC; have HC := Lib.hid hC1; clear hC1
              go_wp2_with fail
              refine (HID.out _).mono ?_
              rintro e w2 ⟨rfl, rfl⟩
              go_wp2_with fail
              go_roundg (r.length - (i + 1))
              case measure => omega
              case rel => exact ⟨i + 1, by omega, rfl, rfl, HC.out⟩
            · obtain rfl : n = i := by omega
              rw [show decide (n < n) = false from by simp] at HID
              go_wp2_with fail
              refine (HOK1.out _ HC.out).mono ?_
              rintro e w1 ⟨rfl, hC1⟩
              clear HC; have HC := Lib.hid hC1; clear hC1
              go_wp2_with fail
              refine (HPI1.out _ HC.out).mono ?_
              rintro e w1 ⟨rfl, hC1⟩
              clear HC; have HC := Lib.hid hC1; clear hC1
              go_wp2_with fail
              refine (HID.out _).mono ?_
              rintro e w2 ⟨rfl, rfl⟩
              go_wp2_with fail
              go_meet
              exact ⟨rfl, HC.out⟩
          · obtain rfl : n = i := by omega
            have hok := HOK.out
            have HOK1 : Hid (∀ w1, Cur W w0 lb fb s x w1 → Calls Tryz.prog 63 #[.pointer (some ⟨lb, 0, none⟩), .int .i64 (n : Int)] w1 (Did W w0 lb fb s (.bool false) x)) := Lib.hid (fun w1 h1 => by have := hok w1 h1 n (by omega); rw [show decide (n < r.length) = false from by simpa using hlt] at this; exact this)
            clear hok HIN HOUT
            go_wp2_with fail
            refine (HOK1.out _ HC.out).mono ?_
            rintro e w1 ⟨rfl, hC1⟩
            clear HC; have HC := Lib.hid hC1; clear hC1
            go_wp2_with fail
            go_meet
            exact ⟨rfl, HC.out⟩
      case rest =>
        obtain ⟨rfl, hC⟩ := hcut
        clear HC
        have HC := Lib.hid hC; clear hC
        clear HIN HOUT HOK HPKI
        have k1 := (HC.out.lex.cell 1).1; have f1 := (HC.out.lex.cell 1).2
        simp only [LexSt.cells, List.getElem?_toArray, List.getElem?_cons_succ, List.getElem?_cons_zero] at k1
        go_wp2_with fail
        have hC1 : Cur W w0 lb fb s { x with kind := ⟨kIdent.toArray⟩ } (wc.setCell ⟨lb, 1, none⟩ (.string ⟨kIdent.toArray⟩)) := HC.out.set 1 _ _ rfl hpos
        change Code.wp _ _ _ _ (wc.setCell ⟨lb, 1, none⟩ (.string ⟨kIdent.toArray⟩))
        generalize wc.setCell ⟨lb, 1, none⟩ (.string ⟨kIdent.toArray⟩) = w3 at *
        clear HC k1 f1
        have HC := Lib.hid hC1; clear hC1
        obtain ⟨c0, c9, c1⟩ := HC.out.lex.rd
        have hwb : IntKind.i64.wrap ((x.pos : Int) + (n : Int)) = (x.pos : Int) + (n : Int) := IntWalk.i64_in _ (by omega)
        have htb : ((x.pos : Int) + (n : Int)).toNat = x.pos + n := by omega
        have hw3 : (0 : Int) ≤ (x.pos : Int) := by omega
        have hw5 : (x.pos : Int) ≤ (x.pos : Int) + (n : Int) := by omega
        have hw6 : (x.pos : Int) + (n : Int) ≤ (s.size : Int) := by omega
        go_still_tail 22, (by kernel_rfl)
        clear c0 c9 c1
        change wpList _ _ _ _ _ (w3.drewN 1)
        have HC2 := Lib.hid (HC.out.drewN 1)
        clear HC; have HC := HC2; clear HC2
        generalize w3.drewN 1 = w4 at *
        have k5 := (HC.out.lex.cell 5).1; have f5 := (HC.out.lex.cell 5).2
        simp only [LexSt.cells, List.getElem?_toArray, List.getElem?_cons_succ, List.getElem?_cons_zero] at k5
        go_wp2_with fail
        have hC1 : Cur W w0 lb fb s { x with kind := ⟨kIdent.toArray⟩, text := ⟨V.toArray⟩ } (w4.setCell ⟨lb, 5, none⟩ (.string ⟨V.toArray⟩)) := HC.out.set 5 _ _ rfl hpos
        generalize w4.setCell ⟨lb, 5, none⟩ (.string ⟨V.toArray⟩) = w5 at *
        clear HC k5 f5
        have HC := Lib.hid hC1; clear hC1
        refine (HSKN.out _ _ HC.out rfl).mono ?_
        rintro e w6 ⟨rfl, hC1⟩
        clear HC; have HC := Lib.hid hC1; clear hC1
        go_wp2_with fail
        go_end0
        refine ReadN.of_ok (by show x.pos + n ≤ s.size; omega) (fun _ => hn0) ?_
        rw [took_text x HX.out]
        exact ⟨rfl, HC.out⟩
    | false =>
      have hft : ftok x.last.data.toList r = tok x.last.data.toList r := by unfold ftok; rw [if_neg (by rw [hst]; simp)]
      rw [hft] at hg ⊢
      have HOK0 : Hid (∀ w1, Cur W w0 lb fb s x w1 → Calls Tryz.prog 63 #[.pointer (some ⟨lb, 0, none⟩), .int .i64 0] w1 (Did W w0 lb fb s (.bool true) x)) := Lib.hid (fun w1 h1 => by have := peekOkR h1 0 0 rfl (by omega); rw [hr, show decide (0 < r.length) = true from by simpa using hl] at this; exact this)
      have HPK0 : Hid (∀ w1, Cur W w0 lb fb s x w1 → Calls Tryz.prog 65 #[.pointer (some ⟨lb, 0, none⟩), .int .i64 0] w1 (Did W w0 lb fb s (.int .u8 (byteAt r 0)) x)) := Lib.hid (fun w1 h1 => by have := peekR h1 0 0 rfl (by rw [hr]; exact hl); rw [hr] at this; exact this)
      have HID0 : Hid (∀ w1, Calls Tryz.prog 64 #[.int .u8 (byteAt r 0)] w1 fun e w' => e = .returned (.bool false) ∧ w1 = w') := Lib.hid (fun w1 => by have := isIdentPart_any (byteAt r 0) w1; rw [hst] at this; exact this)
      have HTK : Hid (∀ w1, Cur W w0 lb fb s x w1 → Calls Tryz.prog 52 #[.pointer (some ⟨lb, 0, none⟩), .bool np] w1 (ReadN W w0 lb fb s x np (tok x.last.data.toList r))) := Lib.hid (fun w1 h1 => consumeToken_any h1 np hm hx hr hg)
      generalize tok x.last.data.toList r = RS at *
      clear hst hft hg hm
      have HC := Lib.hid h; have HX := Lib.hid hx
      clear h hx hr
      go_enter Tryz.func51, Tryz.ntmps51
      go_wp2_with fail
      refine (HOK0.out _ HC.out).mono ?_
      rintro e w1 ⟨rfl, hC1⟩
      clear HC; have HC := Lib.hid hC1; clear hC1
      go_wp2_with fail
      refine (HPK0.out _ HC.out).mono ?_
      rintro e w1 ⟨rfl, hC1⟩
      clear HC; have HC := Lib.hid hC1; clear hC1
      go_wp2_with fail
      refine (HID0.out _).mono ?_
      rintro e w2 ⟨rfl, rfl⟩
      go_wp2_with fail
      refine (HTK.out _ HC.out).mono ?_
      intro e w2 hrd
      have hen := hrd.ends
      have HRD := Lib.hid hrd; clear hrd
      rcases hen with rfl | ⟨cc, rfl⟩
      · go_wp2_with fail
        go_end0
        exact HRD.out
      · go_wp2_with fail
        exact ⟨rfl, HRD.out⟩
  · have hft : ftok x.last.data.toList r = tok x.last.data.toList r := by unfold ftok; rw [if_neg (fun hh => hl hh.1)]
    rw [hft] at hg ⊢
    have HOK0 : Hid (∀ w1, Cur W w0 lb fb s x w1 → Calls Tryz.prog 63 #[.pointer (some ⟨lb, 0, none⟩), .int .i64 0] w1 (Did W w0 lb fb s (.bool false) x)) := Lib.hid (fun w1 h1 => by have := peekOkR h1 0 0 rfl (by omega); rw [hr, show decide (0 < r.length) = false from by simpa using hl] at this; exact this)
    have HTK : Hid (∀ w1, Cur W w0 lb fb s x w1 → Calls Tryz.prog 52 #[.pointer (some ⟨lb, 0, none⟩), .bool np] w1 (ReadN W w0 lb fb s x np (tok x.last.data.toList r))) := Lib.hid (fun w1 h1 => consumeToken_any h1 np hm hx hr hg)
    generalize tok x.last.data.toList r = RS at *
    clear hft hg hm
    have HC := Lib.hid h; have HX := Lib.hid hx
    clear h hx hr
    go_enter Tryz.func51, Tryz.ntmps51
    go_wp2_with fail
    refine (HOK0.out _ HC.out).mono ?_
    rintro e w1 ⟨rfl, hC1⟩
    clear HC; have HC := Lib.hid hC1; clear hC1
    go_wp2_with fail
    refine (HTK.out _ HC.out).mono ?_
    intro e w2 hrd
    have hen := hrd.ends
    have HRD := Lib.hid hrd; clear hrd
    rcases hen with rfl | ⟨cc, rfl⟩
    · go_wp2_with fail
      go_end0
      exact HRD.out
    · go_wp2_with fail
      exact ⟨rfl, HRD.out⟩
end Go.Proofs.YtcelnnjjakiehaaGreatDoor
namespace Go.Proofs.YtcelnnjjakiehaaGreatDoor
open Go.RowKit
set_option linter.unusedVariables false
set_option maxRecDepth 20000
set_option maxHeartbeats 1000000

/-- a comment: the blanks ahead of it, its bytes, where it begins -/
structure Cm where
  space : List UInt8
  raw : List UInt8
  pos : Nat
def Cm.cells (c : Cm) : List Value := [.string ⟨c.space.toArray⟩, .string ⟨c.raw.toArray⟩, .int .i64 (c.pos : Int), .int .i64 ((c.pos + c.raw.length : Nat) : Int)]
def cmCells : List Cm → List Value
  | [] => []
  | c :: t => c.cells ++ cmCells t
theorem cmCells_append (l m : List Cm) : cmCells (l ++ m) = cmCells l ++ cmCells m := by
  induction l with
  | nil => rfl
  | cons c t ih => show c.cells ++ cmCells (t ++ m) = _; rw [ih]; simp [cmCells]
theorem cmCells_length (l : List Cm) : (cmCells l).length = 4 * l.length := by
  induction l with
  | nil => rfl
  | cons c t ih => show (c.cells ++ cmCells t).length = _; rw [List.length_append, ih]; simp [Cm.cells]; omega
/-- what stands ahead of a token: comments, the blanks behind them, where the token begins; or a comment that does not end -/
inductive Lead where
  | ok (cs : List Cm) (space : List UInt8) (n : Nat)
  | err (cs : List Cm) (p : Nat)
theorem lead_dec (r : List UInt8) (n : Nat) (h : comment (r.drop (spLen r)) = .closed n) : (r.drop (spLen r + n)).length < r.length := by
  have h1 := comment_le _ _ h
  rw [List.length_drop] at h1 ⊢
  omega
def lead (p : Nat) (r : List UInt8) (acc : List Cm) : Lead :=
  match h : comment (r.drop (spLen r)) with
  | .no => .ok acc (r.take (spLen r)) (p + spLen r)
  | .open_ => .err (acc ++ [⟨r.take (spLen r), r.drop (spLen r), p + spLen r⟩]) (p + spLen r)
  | .closed n => lead (p + spLen r + n) (r.drop (spLen r + n)) (acc ++ [⟨r.take (spLen r), (r.drop (spLen r)).take n, p + spLen r⟩])
  termination_by r.length
  decreasing_by exact lead_dec r n h
theorem lead_no (p : Nat) (r : List UInt8) (acc : List Cm) (h : comment (r.drop (spLen r)) = .no) : lead p r acc = .ok acc (r.take (spLen r)) (p + spLen r) := by
  unfold lead
  split
  · rfl
  · next h2 => rw [h] at h2; cases h2
  · next h2 => rw [h] at h2; cases h2
theorem lead_open (p : Nat) (r : List UInt8) (acc : List Cm) (h : comment (r.drop (spLen r)) = .open_) : lead p r acc = .err (acc ++ [⟨r.take (spLen r), r.drop (spLen r), p + spLen r⟩]) (p + spLen r) := by
  unfold lead
  split
  · next h2 => rw [h] at h2; cases h2
  · rfl
  · next h2 => rw [h] at h2; cases h2
theorem lead_closed (p : Nat) (r : List UInt8) (acc : List Cm) (n : Nat) (h : comment (r.drop (spLen r)) = .closed n) : lead p r acc = lead (p + spLen r + n) (r.drop (spLen r + n)) (acc ++ [⟨r.take (spLen r), (r.drop (spLen r)).take n, p + spLen r⟩]) := by
  conv => lhs; unfold lead
  split
  · next h2 => rw [h] at h2; cases h2
  · next h2 => rw [h] at h2; cases h2
  · next h2 => rw [h] at h2; cases h2; rfl
/-- a whole token -/
structure TkF where
  kind : List UInt8
  coms : List Cm
  space : List UInt8
  raw : List UInt8
  text : List UInt8
  base : Int
  pos : Nat
  fin : Nat
/-- how nextToken ends: a token and whether a field's name may follow; a fault with its places -/
inductive NR where
  | ok (t : TkF) (dot : Bool)
  | err (p e : Nat)
def anyTok (dot : Bool) (last r : List UInt8) : Rs := if dot then ftok last r else tok last r
/-- the next token of the text l from the place p on, behind a token of the kind last -/
def next (l last : List UInt8) (dot : Bool) (p : Nat) : NR :=
  match lead p (l.drop p) [] with
  | .err _ q => .err q l.length
  | .ok cs sp n => match anyTok dot last (l.drop n) with
    | .ok t => .ok ⟨t.kind, cs, sp, (l.drop n).take t.len, t.text, t.base, n, n + t.len⟩ (!dot && t.dot.getD false)
    | .err a b => .err (n + a) (n + b)
def NR.good (n : Nat) : NR → Prop
  | .ok t _ => t.fin ≤ n
  | .err p e => p ≤ e ∧ e ≤ n
/-- the lexer, and next to it the comments gathered so far -/
structure NAt (W w0 : World) (lb fb : Nat) (s : ByteArray) (x : LexSt) (B : Nat) (v : Value) (cs : List Cm) (w : World) : Prop where
  cur : Cur W w0 lb fb s x w
  own : Own w B 83 4 v cs.length (cmCells cs)
  lbB : lb < B
  fbB : fb < B
  hB : B ≤ w.heap.size
  w0B : w0.heap.size ≤ B
section
variable {W w0 w : World} {lb fb : Nat} {s : ByteArray} {x y : LexSt} {B : Nat} {v : Value} {cs : List Cm}
theorem NAt.drewN (h : NAt W w0 lb fb s x B v cs w) (n : Nat) : NAt W w0 lb fb s x B v cs (w.drewN n) :=
  ⟨h.cur.drewN n, h.own.keptB fun _ _ => rfl, h.lbB, h.fbB, h.hB, h.w0B⟩
theorem NAt.keep (h : NAt W w0 lb fb s x B v cs w) {w' : World} (hb : Below w.heap.size w w') : NAt W w0 lb fb s x B v cs w' :=
  ⟨h.cur.keep hb, h.own.below hb (fun g hg => (h.own.lt g hg).2), h.lbB, h.fbB, Nat.le_trans h.hB hb.size, h.w0B⟩
theorem NAt.alloc (h : NAt W w0 lb fb s x B v cs w) (o : Obj) : NAt W w0 lb fb s x B v cs (w.alloc o) :=
  h.keep ((Below.refl _ _).alloc (Nat.le_refl _) _)
/-- behind a call that turns the lexer alone, told from where the call begins -/
theorem NAt.turn (h : NAt W w0 lb fb s x B v cs w) {w' : World} (hc : Cur W w lb fb s y w') : NAt W w0 lb fb s y B v cs w' := by
  have hg := hc.grow
  have hne : v.ownBlock = none ∨ v.ownBlock ≠ some lb := by
    right; intro e
    have := (h.own.lt lb e).1
    have := h.lbB
    omega
  exact ⟨⟨h.cur.laid, hc.low, h.cur.hlb, h.cur.hfb, h.cur.sz, hc.pos, hc.lex, grownBy_trans h.cur.grow hg⟩, h.own.kept hg hne, h.lbB, h.fbB, Nat.le_trans h.hB hg.size, h.w0B⟩
theorem NAt.set (h : NAt W w0 lb fb s x B v cs w) (k : Nat) (u : Value) (y : LexSt) (hy : (x.cells fb).setIfInBounds k u = y.cells fb) (hp : y.pos ≤ s.size) : NAt W w0 lb fb s y B v cs (w.setCell ⟨lb, k, none⟩ u) :=
  h.turn (h.cur.own.set k u y hy hp)
/-- behind an append -/
theorem NAt.app (h : NAt W w0 lb fb s x B v cs w) {w' : World} {v' : Value} {cs' : List Cm} (hg : w.grownBy w' v.ownBlock) (ho : Own w' B 83 4 v' cs'.length (cmCells cs')) : NAt W w0 lb fb s x B v' cs' w' := by
  have hne : ∀ b, b < B → some b ≠ v.ownBlock := by
    intro b hb e
    have := (h.own.lt b e.symm).1
    omega
  obtain ⟨g1, g2, g3, g4, g5⟩ := hg
  have hbw : Below B w w' := ⟨g1, g2, g3, g4, fun k hk => g5 k (Nat.lt_of_lt_of_le hk h.hB) (hne k hk)⟩
  have hc := h.cur
  refine ⟨⟨hc.laid, hc.low.trans (hbw.mono (Nat.le_trans hc.hlb (Nat.le_of_lt h.lbB))), hc.hlb, hc.hfb, hc.sz, hc.pos, ⟨?_, ?_⟩, ?_⟩, ho, h.lbB, h.fbB, Nat.le_trans h.hB g4, h.w0B⟩
  · rw [g5 lb hc.lex.lt.1 (hne lb h.lbB)]; exact hc.lex.lex
  · rw [g5 fb hc.lex.lt.2 (hne fb h.fbB)]; exact hc.lex.file
  · obtain ⟨k1, k2, k3, k4, k5⟩ := hc.grow
    exact ⟨g1.trans k1, g2.trans k2, g3.trans k3, Nat.le_trans k4 g4, fun k hk hn => (g5 k (Nat.lt_of_lt_of_le hk k4) (hne k (Nat.lt_of_lt_of_le hk h.w0B))).trans (k5 k hk hn)⟩
end
end Go.Proofs.YtcelnnjjakiehaaGreatDoor
