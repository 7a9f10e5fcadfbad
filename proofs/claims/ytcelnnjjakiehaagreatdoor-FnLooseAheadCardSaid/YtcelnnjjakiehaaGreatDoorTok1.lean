/-
  Tokens of one byte: the cases of consumeToken.
-/
import Derived.Test.YtcelnnjjakiehaaGreatDoorTok0
namespace Go.Proofs.YtcelnnjjakiehaaGreatDoor
open Go.RowKit
set_option linter.unusedVariables false
set_option maxRecDepth 1000000
set_option maxHeartbeats 16000000

theorem run_kind_one (w : World) (b : Nat) (c : UInt8) (hc : w.cell? ⟨b, 0, none⟩ = some (.int .u8 (c.toNat : Int))) :
    (convert 33 58 (.slice (some ⟨b, 0, none⟩) 1 1)).run Tryz.prog w = .ok (.string ⟨#[c]⟩) w := by
  rw [run_convert_bytes_arg w 33 5 Tryz.underlying33 Tryz.underlying5 b 0 1 1 [(c.toNat : Int)] rfl (fun i hi => by
    obtain rfl : i = 0 := by omega
    exact hc) 58 Tryz.underlying58]
  simp [strOfNums]
theorem took_sym (x : LexSt) (hx : x.text = ⟨#[]⟩ ∧ x.base = 0) (k : List UInt8) (n : Nat) : x.took ⟨k, [], 0, n, none⟩ = { x with kind := ⟨k.toArray⟩, pos := x.pos + n } := by
  cases x
  obtain ⟨h1, h2⟩ := hx
  simp only at h1 h2
  subst h1 h2
  rfl
theorem len_two {r : List UInt8} {c : Int} (h : isAt r 1 c = true) : 2 ≤ r.length := by
  rcases Nat.lt_or_ge 1 r.length with h' | h'
  · exact h'
  · rw [isAt_out r 1 _ h'] at h; cases h
theorem head_of {r : List UInt8} {c : UInt8} (h : byteAt r 0 = (c.toNat : Int)) : r.getD 0 0 = c := by
  apply UInt8.toNat_inj.1
  have h2 : ((r.getD 0 0).toNat : Int) = (c.toNat : Int) := h
  omega
theorem tk_one40 {W w0 w : World} {lb fb : Nat} {s : ByteArray} {x : LexSt} {r : List UInt8} (h : Cur W w0 lb fb s x w) (np : Bool) (hx : x.text = ⟨#[]⟩ ∧ x.base = 0) (hr : s.data.toList.drop x.pos = r) (hl : 0 < r.length) (hc : byteAt r 0 = 40) :
    Calls Tryz.prog 52 #[.pointer (some ⟨lb, 0, none⟩), .bool np] w (ReadN W w0 lb fb s x np (sym [40])) := by
  have hpos := h.pos
  have hsz := h.sz
  have hrl : r.length = s.size - x.pos := by rw [← hr]; exact h.len
  have HE : Hid (∀ w1, Cur W w0 lb fb s x w1 → Calls Tryz.prog 57 #[.pointer (some ⟨lb, 0, none⟩)] w1 (Did W w0 lb fb s (.bool false) x)) := Lib.hid (fun w1 h1 => by have := eofR h1; rw [show decide (s.size ≤ x.pos) = false from by simp; omega] at this; exact this)
  have HPK : Hid (∀ w1, Cur W w0 lb fb s x w1 → Calls Tryz.prog 65 #[.pointer (some ⟨lb, 0, none⟩), .int .i64 0] w1 (Did W w0 lb fb s (.int .u8 (byteAt r 0)) x)) := Lib.hid (fun w1 h1 => by have := peekR h1 0 0 rfl (by rw [hr]; exact hl); rw [hr] at this; exact this)
  have HSK : Hid (∀ w1, Cur W w0 lb fb s x w1 → Calls Tryz.prog 66 #[.pointer (some ⟨lb, 0, none⟩)] w1 (Did W w0 lb fb s (.int .u8 (byteAt r 0)) { x with pos := x.pos + 1 })) := Lib.hid (fun w1 h1 => by have := skipR h1 (by omega); rw [← hr, byteAt_drop]; exact this)
  have HIS : Hid (∀ w1, Cur W w0 lb fb s x w1 → ∀ c : Int, Calls Tryz.prog 61 #[.pointer (some ⟨lb, 0, none⟩), .int .i64 1, .int .u8 c] w1 (Did W w0 lb fb s (.bool (isAt r 1 c)) x)) := Lib.hid (fun w1 h1 c => by have := peekIsR h1 1 1 c rfl (by omega); rw [hr] at this; exact this)
  have HS2 : Hid (2 ≤ r.length → ∀ w1, Cur W w0 lb fb s x w1 → Calls Tryz.prog 60 #[.pointer (some ⟨lb, 0, none⟩), .int .i64 2] w1 (Did W w0 lb fb s (.tuple #[]) { x with pos := x.pos + 2 })) := Lib.hid (fun h2 w1 h1 => skipNR h1 2 2 rfl (by omega))
  rw [hc] at HPK HSK
  have HC := Lib.hid h; have HX := Lib.hid hx
  clear h hx hr
  go_enter Tryz.func52, Tryz.ntmps52
  go_wp2_with fail
  refine (HE.out _ HC.out).mono ?_
  rintro e w1 ⟨rfl, hC1⟩
  clear HC; have HC := Lib.hid hC1; clear hC1
  go_wp2_with fail
  refine (HPK.out _ HC.out).mono ?_
  rintro e w1 ⟨rfl, hC1⟩
  clear HC; have HC := Lib.hid hC1; clear hC1
  go_wp2_with fail
  refine (HSK.out _ HC.out).mono ?_
  rintro e w1 ⟨rfl, hC1⟩
  clear HC; have HC := Lib.hid hC1; clear hC1
  have hcv := run_kind_one (w1.alloc (.cells #[Value.int .u8 40] 5)) w1.heap.size 40 (World.cell?_alloc_new (w := w1) #[Value.int .u8 40] 5 0)
  have HC2 : Hid (Cur W w0 lb fb s { x with pos := x.pos + 1 } (w1.alloc (.cells #[Value.int .u8 40] 5))) := Lib.hid (HC.out.keep ((Below.refl _ _).alloc (Nat.le_refl _) _))
  clear HC; have HC := HC2; clear HC2
  have k1 := (HC.out.lex.cell 1).1; have f1 := (HC.out.lex.cell 1).2
  simp only [LexSt.cells, List.getElem?_toArray, List.getElem?_cons_succ, List.getElem?_cons_zero] at k1
  go_wp2_with fail
  go_end0
  refine ReadN.of_ok (by show x.pos + 1 ≤ s.size; omega) (fun _ => by show 0 < 1; omega) ?_
  rw [took_sym x HX.out]
  exact ⟨rfl, HC.out.set 1 _ _ rfl (by show x.pos + 1 ≤ s.size; omega)⟩
theorem tk_one41 {W w0 w : World} {lb fb : Nat} {s : ByteArray} {x : LexSt} {r : List UInt8} (h : Cur W w0 lb fb s x w) (np : Bool) (hx : x.text = ⟨#[]⟩ ∧ x.base = 0) (hr : s.data.toList.drop x.pos = r) (hl : 0 < r.length) (hc : byteAt r 0 = 41) :
    Calls Tryz.prog 52 #[.pointer (some ⟨lb, 0, none⟩), .bool np] w (ReadN W w0 lb fb s x np (sym [41])) := by
  have hpos := h.pos
  have hsz := h.sz
  have hrl : r.length = s.size - x.pos := by rw [← hr]; exact h.len
  have HE : Hid (∀ w1, Cur W w0 lb fb s x w1 → Calls Tryz.prog 57 #[.pointer (some ⟨lb, 0, none⟩)] w1 (Did W w0 lb fb s (.bool false) x)) := Lib.hid (fun w1 h1 => by have := eofR h1; rw [show decide (s.size ≤ x.pos) = false from by simp; omega] at this; exact this)
  have HPK : Hid (∀ w1, Cur W w0 lb fb s x w1 → Calls Tryz.prog 65 #[.pointer (some ⟨lb, 0, none⟩), .int .i64 0] w1 (Did W w0 lb fb s (.int .u8 (byteAt r 0)) x)) := Lib.hid (fun w1 h1 => by have := peekR h1 0 0 rfl (by rw [hr]; exact hl); rw [hr] at this; exact this)
  have HSK : Hid (∀ w1, Cur W w0 lb fb s x w1 → Calls Tryz.prog 66 #[.pointer (some ⟨lb, 0, none⟩)] w1 (Did W w0 lb fb s (.int .u8 (byteAt r 0)) { x with pos := x.pos + 1 })) := Lib.hid (fun w1 h1 => by have := skipR h1 (by omega); rw [← hr, byteAt_drop]; exact this)
  have HIS : Hid (∀ w1, Cur W w0 lb fb s x w1 → ∀ c : Int, Calls Tryz.prog 61 #[.pointer (some ⟨lb, 0, none⟩), .int .i64 1, .int .u8 c] w1 (Did W w0 lb fb s (.bool (isAt r 1 c)) x)) := Lib.hid (fun w1 h1 c => by have := peekIsR h1 1 1 c rfl (by omega); rw [hr] at this; exact this)
  have HS2 : Hid (2 ≤ r.length → ∀ w1, Cur W w0 lb fb s x w1 → Calls Tryz.prog 60 #[.pointer (some ⟨lb, 0, none⟩), .int .i64 2] w1 (Did W w0 lb fb s (.tuple #[]) { x with pos := x.pos + 2 })) := Lib.hid (fun h2 w1 h1 => skipNR h1 2 2 rfl (by omega))
  rw [hc] at HPK HSK
  have HC := Lib.hid h; have HX := Lib.hid hx
  clear h hx hr
  go_enter Tryz.func52, Tryz.ntmps52
  go_wp2_with fail
  refine (HE.out _ HC.out).mono ?_
  rintro e w1 ⟨rfl, hC1⟩
  clear HC; have HC := Lib.hid hC1; clear hC1
  go_wp2_with fail
  refine (HPK.out _ HC.out).mono ?_
  rintro e w1 ⟨rfl, hC1⟩
  clear HC; have HC := Lib.hid hC1; clear hC1
  go_wp2_with fail
  refine (HSK.out _ HC.out).mono ?_
  rintro e w1 ⟨rfl, hC1⟩
  clear HC; have HC := Lib.hid hC1; clear hC1
  have hcv := run_kind_one (w1.alloc (.cells #[Value.int .u8 41] 5)) w1.heap.size 41 (World.cell?_alloc_new (w := w1) #[Value.int .u8 41] 5 0)
  have HC2 : Hid (Cur W w0 lb fb s { x with pos := x.pos + 1 } (w1.alloc (.cells #[Value.int .u8 41] 5))) := Lib.hid (HC.out.keep ((Below.refl _ _).alloc (Nat.le_refl _) _))
  clear HC; have HC := HC2; clear HC2
  have k1 := (HC.out.lex.cell 1).1; have f1 := (HC.out.lex.cell 1).2
  simp only [LexSt.cells, List.getElem?_toArray, List.getElem?_cons_succ, List.getElem?_cons_zero] at k1
  go_wp2_with fail
  go_end0
  refine ReadN.of_ok (by show x.pos + 1 ≤ s.size; omega) (fun _ => by show 0 < 1; omega) ?_
  rw [took_sym x HX.out]
  exact ⟨rfl, HC.out.set 1 _ _ rfl (by show x.pos + 1 ≤ s.size; omega)⟩
theorem tk_one123 {W w0 w : World} {lb fb : Nat} {s : ByteArray} {x : LexSt} {r : List UInt8} (h : Cur W w0 lb fb s x w) (np : Bool) (hx : x.text = ⟨#[]⟩ ∧ x.base = 0) (hr : s.data.toList.drop x.pos = r) (hl : 0 < r.length) (hc : byteAt r 0 = 123) :
    Calls Tryz.prog 52 #[.pointer (some ⟨lb, 0, none⟩), .bool np] w (ReadN W w0 lb fb s x np (sym [123])) := by
  have hpos := h.pos
  have hsz := h.sz
  have hrl : r.length = s.size - x.pos := by rw [← hr]; exact h.len
  have HE : Hid (∀ w1, Cur W w0 lb fb s x w1 → Calls Tryz.prog 57 #[.pointer (some ⟨lb, 0, none⟩)] w1 (Did W w0 lb fb s (.bool false) x)) := Lib.hid (fun w1 h1 => by have := eofR h1; rw [show decide (s.size ≤ x.pos) = false from by simp; omega] at this; exact this)
  have HPK : Hid (∀ w1, Cur W w0 lb fb s x w1 → Calls Tryz.prog 65 #[.pointer (some ⟨lb, 0, none⟩), .int .i64 0] w1 (Did W w0 lb fb s (.int .u8 (byteAt r 0)) x)) := Lib.hid (fun w1 h1 => by have := peekR h1 0 0 rfl (by rw [hr]; exact hl); rw [hr] at this; exact this)
  have HSK : Hid (∀ w1, Cur W w0 lb fb s x w1 → Calls Tryz.prog 66 #[.pointer (some ⟨lb, 0, none⟩)] w1 (Did W w0 lb fb s (.int .u8 (byteAt r 0)) { x with pos := x.pos + 1 })) := Lib.hid (fun w1 h1 => by have := skipR h1 (by omega); rw [← hr, byteAt_drop]; exact this)
  have HIS : Hid (∀ w1, Cur W w0 lb fb s x w1 → ∀ c : Int, Calls Tryz.prog 61 #[.pointer (some ⟨lb, 0, none⟩), .int .i64 1, .int .u8 c] w1 (Did W w0 lb fb s (.bool (isAt r 1 c)) x)) := Lib.hid (fun w1 h1 c => by have := peekIsR h1 1 1 c rfl (by omega); rw [hr] at this; exact this)
  have HS2 : Hid (2 ≤ r.length → ∀ w1, Cur W w0 lb fb s x w1 → Calls Tryz.prog 60 #[.pointer (some ⟨lb, 0, none⟩), .int .i64 2] w1 (Did W w0 lb fb s (.tuple #[]) { x with pos := x.pos + 2 })) := Lib.hid (fun h2 w1 h1 => skipNR h1 2 2 rfl (by omega))
  rw [hc] at HPK HSK
  have HC := Lib.hid h; have HX := Lib.hid hx
  clear h hx hr
  go_enter Tryz.func52, Tryz.ntmps52
  go_wp2_with fail
  refine (HE.out _ HC.out).mono ?_
  rintro e w1 ⟨rfl, hC1⟩
  clear HC; have HC := Lib.hid hC1; clear hC1
  go_wp2_with fail
  refine (HPK.out _ HC.out).mono ?_
  rintro e w1 ⟨rfl, hC1⟩
  clear HC; have HC := Lib.hid hC1; clear hC1
  go_wp2_with fail
  refine (HSK.out _ HC.out).mono ?_
  rintro e w1 ⟨rfl, hC1⟩
  clear HC; have HC := Lib.hid hC1; clear hC1
  have hcv := run_kind_one (w1.alloc (.cells #[Value.int .u8 123] 5)) w1.heap.size 123 (World.cell?_alloc_new (w := w1) #[Value.int .u8 123] 5 0)
  have HC2 : Hid (Cur W w0 lb fb s { x with pos := x.pos + 1 } (w1.alloc (.cells #[Value.int .u8 123] 5))) := Lib.hid (HC.out.keep ((Below.refl _ _).alloc (Nat.le_refl _) _))
  clear HC; have HC := HC2; clear HC2
  have k1 := (HC.out.lex.cell 1).1; have f1 := (HC.out.lex.cell 1).2
  simp only [LexSt.cells, List.getElem?_toArray, List.getElem?_cons_succ, List.getElem?_cons_zero] at k1
  go_wp2_with fail
  go_end0
  refine ReadN.of_ok (by show x.pos + 1 ≤ s.size; omega) (fun _ => by show 0 < 1; omega) ?_
  rw [took_sym x HX.out]
  exact ⟨rfl, HC.out.set 1 _ _ rfl (by show x.pos + 1 ≤ s.size; omega)⟩
theorem tk_one125 {W w0 w : World} {lb fb : Nat} {s : ByteArray} {x : LexSt} {r : List UInt8} (h : Cur W w0 lb fb s x w) (np : Bool) (hx : x.text = ⟨#[]⟩ ∧ x.base = 0) (hr : s.data.toList.drop x.pos = r) (hl : 0 < r.length) (hc : byteAt r 0 = 125) :
    Calls Tryz.prog 52 #[.pointer (some ⟨lb, 0, none⟩), .bool np] w (ReadN W w0 lb fb s x np (sym [125])) := by
  have hpos := h.pos
  have hsz := h.sz
  have hrl : r.length = s.size - x.pos := by rw [← hr]; exact h.len
  have HE : Hid (∀ w1, Cur W w0 lb fb s x w1 → Calls Tryz.prog 57 #[.pointer (some ⟨lb, 0, none⟩)] w1 (Did W w0 lb fb s (.bool false) x)) := Lib.hid (fun w1 h1 => by have := eofR h1; rw [show decide (s.size ≤ x.pos) = false from by simp; omega] at this; exact this)
  have HPK : Hid (∀ w1, Cur W w0 lb fb s x w1 → Calls Tryz.prog 65 #[.pointer (some ⟨lb, 0, none⟩), .int .i64 0] w1 (Did W w0 lb fb s (.int .u8 (byteAt r 0)) x)) := Lib.hid (fun w1 h1 => by have := peekR h1 0 0 rfl (by rw [hr]; exact hl); rw [hr] at this; exact this)
  have HSK : Hid (∀ w1, Cur W w0 lb fb s x w1 → Calls Tryz.prog 66 #[.pointer (some ⟨lb, 0, none⟩)] w1 (Did W w0 lb fb s (.int .u8 (byteAt r 0)) { x with pos := x.pos + 1 })) := Lib.hid (fun w1 h1 => by have := skipR h1 (by omega); rw [← hr, byteAt_drop]; exact this)
  have HIS : Hid (∀ w1, Cur W w0 lb fb s x w1 → ∀ c : Int, Calls Tryz.prog 61 #[.pointer (some ⟨lb, 0, none⟩), .int .i64 1, .int .u8 c] w1 (Did W w0 lb fb s (.bool (isAt r 1 c)) x)) := Lib.hid (fun w1 h1 c => by have := peekIsR h1 1 1 c rfl (by omega); rw [hr] at this; exact this)
  have HS2 : Hid (2 ≤ r.length → ∀ w1, Cur W w0 lb fb s x w1 → Calls Tryz.prog 60 #[.pointer (some ⟨lb, 0, none⟩), .int .i64 2] w1 (Did W w0 lb fb s (.tuple #[]) { x with pos := x.pos + 2 })) := Lib.hid (fun h2 w1 h1 => skipNR h1 2 2 rfl (by omega))
  rw [hc] at HPK HSK
  have HC := Lib.hid h; have HX := Lib.hid hx
  clear h hx hr
  go_enter Tryz.func52, Tryz.ntmps52
  go_wp2_with fail
  refine (HE.out _ HC.out).mono ?_
  rintro e w1 ⟨rfl, hC1⟩
  clear HC; have HC := Lib.hid hC1; clear hC1
  go_wp2_with fail
  refine (HPK.out _ HC.out).mono ?_
  rintro e w1 ⟨rfl, hC1⟩
  clear HC; have HC := Lib.hid hC1; clear hC1
  go_wp2_with fail
  refine (HSK.out _ HC.out).mono ?_
  rintro e w1 ⟨rfl, hC1⟩
  clear HC; have HC := Lib.hid hC1; clear hC1
  have hcv := run_kind_one (w1.alloc (.cells #[Value.int .u8 125] 5)) w1.heap.size 125 (World.cell?_alloc_new (w := w1) #[Value.int .u8 125] 5 0)
  have HC2 : Hid (Cur W w0 lb fb s { x with pos := x.pos + 1 } (w1.alloc (.cells #[Value.int .u8 125] 5))) := Lib.hid (HC.out.keep ((Below.refl _ _).alloc (Nat.le_refl _) _))
  clear HC; have HC := HC2; clear HC2
  have k1 := (HC.out.lex.cell 1).1; have f1 := (HC.out.lex.cell 1).2
  simp only [LexSt.cells, List.getElem?_toArray, List.getElem?_cons_succ, List.getElem?_cons_zero] at k1
  go_wp2_with fail
  go_end0
  refine ReadN.of_ok (by show x.pos + 1 ≤ s.size; omega) (fun _ => by show 0 < 1; omega) ?_
  rw [took_sym x HX.out]
  exact ⟨rfl, HC.out.set 1 _ _ rfl (by show x.pos + 1 ≤ s.size; omega)⟩
theorem tk_one59 {W w0 w : World} {lb fb : Nat} {s : ByteArray} {x : LexSt} {r : List UInt8} (h : Cur W w0 lb fb s x w) (np : Bool) (hx : x.text = ⟨#[]⟩ ∧ x.base = 0) (hr : s.data.toList.drop x.pos = r) (hl : 0 < r.length) (hc : byteAt r 0 = 59) :
    Calls Tryz.prog 52 #[.pointer (some ⟨lb, 0, none⟩), .bool np] w (ReadN W w0 lb fb s x np (sym [59])) := by
  have hpos := h.pos
  have hsz := h.sz
  have hrl : r.length = s.size - x.pos := by rw [← hr]; exact h.len
  have HE : Hid (∀ w1, Cur W w0 lb fb s x w1 → Calls Tryz.prog 57 #[.pointer (some ⟨lb, 0, none⟩)] w1 (Did W w0 lb fb s (.bool false) x)) := Lib.hid (fun w1 h1 => by have := eofR h1; rw [show decide (s.size ≤ x.pos) = false from by simp; omega] at this; exact this)
  have HPK : Hid (∀ w1, Cur W w0 lb fb s x w1 → Calls Tryz.prog 65 #[.pointer (some ⟨lb, 0, none⟩), .int .i64 0] w1 (Did W w0 lb fb s (.int .u8 (byteAt r 0)) x)) := Lib.hid (fun w1 h1 => by have := peekR h1 0 0 rfl (by rw [hr]; exact hl); rw [hr] at this; exact this)
  have HSK : Hid (∀ w1, Cur W w0 lb fb s x w1 → Calls Tryz.prog 66 #[.pointer (some ⟨lb, 0, none⟩)] w1 (Did W w0 lb fb s (.int .u8 (byteAt r 0)) { x with pos := x.pos + 1 })) := Lib.hid (fun w1 h1 => by have := skipR h1 (by omega); rw [← hr, byteAt_drop]; exact this)
  have HIS : Hid (∀ w1, Cur W w0 lb fb s x w1 → ∀ c : Int, Calls Tryz.prog 61 #[.pointer (some ⟨lb, 0, none⟩), .int .i64 1, .int .u8 c] w1 (Did W w0 lb fb s (.bool (isAt r 1 c)) x)) := Lib.hid (fun w1 h1 c => by have := peekIsR h1 1 1 c rfl (by omega); rw [hr] at this; exact this)
  have HS2 : Hid (2 ≤ r.length → ∀ w1, Cur W w0 lb fb s x w1 → Calls Tryz.prog 60 #[.pointer (some ⟨lb, 0, none⟩), .int .i64 2] w1 (Did W w0 lb fb s (.tuple #[]) { x with pos := x.pos + 2 })) := Lib.hid (fun h2 w1 h1 => skipNR h1 2 2 rfl (by omega))
  rw [hc] at HPK HSK
  have HC := Lib.hid h; have HX := Lib.hid hx
  clear h hx hr
  go_enter Tryz.func52, Tryz.ntmps52
  go_wp2_with fail
  refine (HE.out _ HC.out).mono ?_
  rintro e w1 ⟨rfl, hC1⟩
  clear HC; have HC := Lib.hid hC1; clear hC1
  go_wp2_with fail
  refine (HPK.out _ HC.out).mono ?_
  rintro e w1 ⟨rfl, hC1⟩
  clear HC; have HC := Lib.hid hC1; clear hC1
  go_wp2_with fail
  refine (HSK.out _ HC.out).mono ?_
  rintro e w1 ⟨rfl, hC1⟩
  clear HC; have HC := Lib.hid hC1; clear hC1
  have hcv := run_kind_one (w1.alloc (.cells #[Value.int .u8 59] 5)) w1.heap.size 59 (World.cell?_alloc_new (w := w1) #[Value.int .u8 59] 5 0)
  have HC2 : Hid (Cur W w0 lb fb s { x with pos := x.pos + 1 } (w1.alloc (.cells #[Value.int .u8 59] 5))) := Lib.hid (HC.out.keep ((Below.refl _ _).alloc (Nat.le_refl _) _))
  clear HC; have HC := HC2; clear HC2
  have k1 := (HC.out.lex.cell 1).1; have f1 := (HC.out.lex.cell 1).2
  simp only [LexSt.cells, List.getElem?_toArray, List.getElem?_cons_succ, List.getElem?_cons_zero] at k1
  go_wp2_with fail
  go_end0
  refine ReadN.of_ok (by show x.pos + 1 ≤ s.size; omega) (fun _ => by show 0 < 1; omega) ?_
  rw [took_sym x HX.out]
  exact ⟨rfl, HC.out.set 1 _ _ rfl (by show x.pos + 1 ≤ s.size; omega)⟩
theorem tk_one44 {W w0 w : World} {lb fb : Nat} {s : ByteArray} {x : LexSt} {r : List UInt8} (h : Cur W w0 lb fb s x w) (np : Bool) (hx : x.text = ⟨#[]⟩ ∧ x.base = 0) (hr : s.data.toList.drop x.pos = r) (hl : 0 < r.length) (hc : byteAt r 0 = 44) :
    Calls Tryz.prog 52 #[.pointer (some ⟨lb, 0, none⟩), .bool np] w (ReadN W w0 lb fb s x np (sym [44])) := by
  have hpos := h.pos
  have hsz := h.sz
  have hrl : r.length = s.size - x.pos := by rw [← hr]; exact h.len
  have HE : Hid (∀ w1, Cur W w0 lb fb s x w1 → Calls Tryz.prog 57 #[.pointer (some ⟨lb, 0, none⟩)] w1 (Did W w0 lb fb s (.bool false) x)) := Lib.hid (fun w1 h1 => by have := eofR h1; rw [show decide (s.size ≤ x.pos) = false from by simp; omega] at this; exact this)
  have HPK : Hid (∀ w1, Cur W w0 lb fb s x w1 → Calls Tryz.prog 65 #[.pointer (some ⟨lb, 0, none⟩), .int .i64 0] w1 (Did W w0 lb fb s (.int .u8 (byteAt r 0)) x)) := Lib.hid (fun w1 h1 => by have := peekR h1 0 0 rfl (by rw [hr]; exact hl); rw [hr] at this; exact this)
  have HSK : Hid (∀ w1, Cur W w0 lb fb s x w1 → Calls Tryz.prog 66 #[.pointer (some ⟨lb, 0, none⟩)] w1 (Did W w0 lb fb s (.int .u8 (byteAt r 0)) { x with pos := x.pos + 1 })) := Lib.hid (fun w1 h1 => by have := skipR h1 (by omega); rw [← hr, byteAt_drop]; exact this)
  have HIS : Hid (∀ w1, Cur W w0 lb fb s x w1 → ∀ c : Int, Calls Tryz.prog 61 #[.pointer (some ⟨lb, 0, none⟩), .int .i64 1, .int .u8 c] w1 (Did W w0 lb fb s (.bool (isAt r 1 c)) x)) := Lib.hid (fun w1 h1 c => by have := peekIsR h1 1 1 c rfl (by omega); rw [hr] at this; exact this)
  have HS2 : Hid (2 ≤ r.length → ∀ w1, Cur W w0 lb fb s x w1 → Calls Tryz.prog 60 #[.pointer (some ⟨lb, 0, none⟩), .int .i64 2] w1 (Did W w0 lb fb s (.tuple #[]) { x with pos := x.pos + 2 })) := Lib.hid (fun h2 w1 h1 => skipNR h1 2 2 rfl (by omega))
  rw [hc] at HPK HSK
  have HC := Lib.hid h; have HX := Lib.hid hx
  clear h hx hr
  go_enter Tryz.func52, Tryz.ntmps52
  go_wp2_with fail
  refine (HE.out _ HC.out).mono ?_
  rintro e w1 ⟨rfl, hC1⟩
  clear HC; have HC := Lib.hid hC1; clear hC1
  go_wp2_with fail
  refine (HPK.out _ HC.out).mono ?_
  rintro e w1 ⟨rfl, hC1⟩
  clear HC; have HC := Lib.hid hC1; clear hC1
  go_wp2_with fail
  refine (HSK.out _ HC.out).mono ?_
  rintro e w1 ⟨rfl, hC1⟩
  clear HC; have HC := Lib.hid hC1; clear hC1
  have hcv := run_kind_one (w1.alloc (.cells #[Value.int .u8 44] 5)) w1.heap.size 44 (World.cell?_alloc_new (w := w1) #[Value.int .u8 44] 5 0)
  have HC2 : Hid (Cur W w0 lb fb s { x with pos := x.pos + 1 } (w1.alloc (.cells #[Value.int .u8 44] 5))) := Lib.hid (HC.out.keep ((Below.refl _ _).alloc (Nat.le_refl _) _))
  clear HC; have HC := HC2; clear HC2
  have k1 := (HC.out.lex.cell 1).1; have f1 := (HC.out.lex.cell 1).2
  simp only [LexSt.cells, List.getElem?_toArray, List.getElem?_cons_succ, List.getElem?_cons_zero] at k1
  go_wp2_with fail
  go_end0
  refine ReadN.of_ok (by show x.pos + 1 ≤ s.size; omega) (fun _ => by show 0 < 1; omega) ?_
  rw [took_sym x HX.out]
  exact ⟨rfl, HC.out.set 1 _ _ rfl (by show x.pos + 1 ≤ s.size; omega)⟩
theorem tk_one91 {W w0 w : World} {lb fb : Nat} {s : ByteArray} {x : LexSt} {r : List UInt8} (h : Cur W w0 lb fb s x w) (np : Bool) (hx : x.text = ⟨#[]⟩ ∧ x.base = 0) (hr : s.data.toList.drop x.pos = r) (hl : 0 < r.length) (hc : byteAt r 0 = 91) :
    Calls Tryz.prog 52 #[.pointer (some ⟨lb, 0, none⟩), .bool np] w (ReadN W w0 lb fb s x np (sym [91])) := by
  have hpos := h.pos
  have hsz := h.sz
  have hrl : r.length = s.size - x.pos := by rw [← hr]; exact h.len
  have HE : Hid (∀ w1, Cur W w0 lb fb s x w1 → Calls Tryz.prog 57 #[.pointer (some ⟨lb, 0, none⟩)] w1 (Did W w0 lb fb s (.bool false) x)) := Lib.hid (fun w1 h1 => by have := eofR h1; rw [show decide (s.size ≤ x.pos) = false from by simp; omega] at this; exact this)
  have HPK : Hid (∀ w1, Cur W w0 lb fb s x w1 → Calls Tryz.prog 65 #[.pointer (some ⟨lb, 0, none⟩), .int .i64 0] w1 (Did W w0 lb fb s (.int .u8 (byteAt r 0)) x)) := Lib.hid (fun w1 h1 => by have := peekR h1 0 0 rfl (by rw [hr]; exact hl); rw [hr] at this; exact this)
  have HSK : Hid (∀ w1, Cur W w0 lb fb s x w1 → Calls Tryz.prog 66 #[.pointer (some ⟨lb, 0, none⟩)] w1 (Did W w0 lb fb s (.int .u8 (byteAt r 0)) { x with pos := x.pos + 1 })) := Lib.hid (fun w1 h1 => by have := skipR h1 (by omega); rw [← hr, byteAt_drop]; exact this)
  have HIS : Hid (∀ w1, Cur W w0 lb fb s x w1 → ∀ c : Int, Calls Tryz.prog 61 #[.pointer (some ⟨lb, 0, none⟩), .int .i64 1, .int .u8 c] w1 (Did W w0 lb fb s (.bool (isAt r 1 c)) x)) := Lib.hid (fun w1 h1 c => by have := peekIsR h1 1 1 c rfl (by omega); rw [hr] at this; exact this)
  have HS2 : Hid (2 ≤ r.length → ∀ w1, Cur W w0 lb fb s x w1 → Calls Tryz.prog 60 #[.pointer (some ⟨lb, 0, none⟩), .int .i64 2] w1 (Did W w0 lb fb s (.tuple #[]) { x with pos := x.pos + 2 })) := Lib.hid (fun h2 w1 h1 => skipNR h1 2 2 rfl (by omega))
  rw [hc] at HPK HSK
  have HC := Lib.hid h; have HX := Lib.hid hx
  clear h hx hr
  go_enter Tryz.func52, Tryz.ntmps52
  go_wp2_with fail
  refine (HE.out _ HC.out).mono ?_
  rintro e w1 ⟨rfl, hC1⟩
  clear HC; have HC := Lib.hid hC1; clear hC1
  go_wp2_with fail
  refine (HPK.out _ HC.out).mono ?_
  rintro e w1 ⟨rfl, hC1⟩
  clear HC; have HC := Lib.hid hC1; clear hC1
  go_wp2_with fail
  refine (HSK.out _ HC.out).mono ?_
  rintro e w1 ⟨rfl, hC1⟩
  clear HC; have HC := Lib.hid hC1; clear hC1
  have hcv := run_kind_one (w1.alloc (.cells #[Value.int .u8 91] 5)) w1.heap.size 91 (World.cell?_alloc_new (w := w1) #[Value.int .u8 91] 5 0)
  have HC2 : Hid (Cur W w0 lb fb s { x with pos := x.pos + 1 } (w1.alloc (.cells #[Value.int .u8 91] 5))) := Lib.hid (HC.out.keep ((Below.refl _ _).alloc (Nat.le_refl _) _))
  clear HC; have HC := HC2; clear HC2
  have k1 := (HC.out.lex.cell 1).1; have f1 := (HC.out.lex.cell 1).2
  simp only [LexSt.cells, List.getElem?_toArray, List.getElem?_cons_succ, List.getElem?_cons_zero] at k1
  go_wp2_with fail
  go_end0
  refine ReadN.of_ok (by show x.pos + 1 ≤ s.size; omega) (fun _ => by show 0 < 1; omega) ?_
  rw [took_sym x HX.out]
  exact ⟨rfl, HC.out.set 1 _ _ rfl (by show x.pos + 1 ≤ s.size; omega)⟩
theorem tk_one93 {W w0 w : World} {lb fb : Nat} {s : ByteArray} {x : LexSt} {r : List UInt8} (h : Cur W w0 lb fb s x w) (np : Bool) (hx : x.text = ⟨#[]⟩ ∧ x.base = 0) (hr : s.data.toList.drop x.pos = r) (hl : 0 < r.length) (hc : byteAt r 0 = 93) :
    Calls Tryz.prog 52 #[.pointer (some ⟨lb, 0, none⟩), .bool np] w (ReadN W w0 lb fb s x np (sym [93])) := by
  have hpos := h.pos
  have hsz := h.sz
  have hrl : r.length = s.size - x.pos := by rw [← hr]; exact h.len
  have HE : Hid (∀ w1, Cur W w0 lb fb s x w1 → Calls Tryz.prog 57 #[.pointer (some ⟨lb, 0, none⟩)] w1 (Did W w0 lb fb s (.bool false) x)) := Lib.hid (fun w1 h1 => by have := eofR h1; rw [show decide (s.size ≤ x.pos) = false from by simp; omega] at this; exact this)
  have HPK : Hid (∀ w1, Cur W w0 lb fb s x w1 → Calls Tryz.prog 65 #[.pointer (some ⟨lb, 0, none⟩), .int .i64 0] w1 (Did W w0 lb fb s (.int .u8 (byteAt r 0)) x)) := Lib.hid (fun w1 h1 => by have := peekR h1 0 0 rfl (by rw [hr]; exact hl); rw [hr] at this; exact this)
  have HSK : Hid (∀ w1, Cur W w0 lb fb s x w1 → Calls Tryz.prog 66 #[.pointer (some ⟨lb, 0, none⟩)] w1 (Did W w0 lb fb s (.int .u8 (byteAt r 0)) { x with pos := x.pos + 1 })) := Lib.hid (fun w1 h1 => by have := skipR h1 (by omega); rw [← hr, byteAt_drop]; exact this)
  have HIS : Hid (∀ w1, Cur W w0 lb fb s x w1 → ∀ c : Int, Calls Tryz.prog 61 #[.pointer (some ⟨lb, 0, none⟩), .int .i64 1, .int .u8 c] w1 (Did W w0 lb fb s (.bool (isAt r 1 c)) x)) := Lib.hid (fun w1 h1 c => by have := peekIsR h1 1 1 c rfl (by omega); rw [hr] at this; exact this)
  have HS2 : Hid (2 ≤ r.length → ∀ w1, Cur W w0 lb fb s x w1 → Calls Tryz.prog 60 #[.pointer (some ⟨lb, 0, none⟩), .int .i64 2] w1 (Did W w0 lb fb s (.tuple #[]) { x with pos := x.pos + 2 })) := Lib.hid (fun h2 w1 h1 => skipNR h1 2 2 rfl (by omega))
  rw [hc] at HPK HSK
  have HC := Lib.hid h; have HX := Lib.hid hx
  clear h hx hr
  go_enter Tryz.func52, Tryz.ntmps52
  go_wp2_with fail
  refine (HE.out _ HC.out).mono ?_
  rintro e w1 ⟨rfl, hC1⟩
  clear HC; have HC := Lib.hid hC1; clear hC1
  go_wp2_with fail
  refine (HPK.out _ HC.out).mono ?_
  rintro e w1 ⟨rfl, hC1⟩
  clear HC; have HC := Lib.hid hC1; clear hC1
  go_wp2_with fail
  refine (HSK.out _ HC.out).mono ?_
  rintro e w1 ⟨rfl, hC1⟩
  clear HC; have HC := Lib.hid hC1; clear hC1
  have hcv := run_kind_one (w1.alloc (.cells #[Value.int .u8 93] 5)) w1.heap.size 93 (World.cell?_alloc_new (w := w1) #[Value.int .u8 93] 5 0)
  have HC2 : Hid (Cur W w0 lb fb s { x with pos := x.pos + 1 } (w1.alloc (.cells #[Value.int .u8 93] 5))) := Lib.hid (HC.out.keep ((Below.refl _ _).alloc (Nat.le_refl _) _))
  clear HC; have HC := HC2; clear HC2
  have k1 := (HC.out.lex.cell 1).1; have f1 := (HC.out.lex.cell 1).2
  simp only [LexSt.cells, List.getElem?_toArray, List.getElem?_cons_succ, List.getElem?_cons_zero] at k1
  go_wp2_with fail
  go_end0
  refine ReadN.of_ok (by show x.pos + 1 ≤ s.size; omega) (fun _ => by show 0 < 1; omega) ?_
  rw [took_sym x HX.out]
  exact ⟨rfl, HC.out.set 1 _ _ rfl (by show x.pos + 1 ≤ s.size; omega)⟩
theorem tk_one126 {W w0 w : World} {lb fb : Nat} {s : ByteArray} {x : LexSt} {r : List UInt8} (h : Cur W w0 lb fb s x w) (np : Bool) (hx : x.text = ⟨#[]⟩ ∧ x.base = 0) (hr : s.data.toList.drop x.pos = r) (hl : 0 < r.length) (hc : byteAt r 0 = 126) :
    Calls Tryz.prog 52 #[.pointer (some ⟨lb, 0, none⟩), .bool np] w (ReadN W w0 lb fb s x np (sym [126])) := by
  have hpos := h.pos
  have hsz := h.sz
  have hrl : r.length = s.size - x.pos := by rw [← hr]; exact h.len
  have HE : Hid (∀ w1, Cur W w0 lb fb s x w1 → Calls Tryz.prog 57 #[.pointer (some ⟨lb, 0, none⟩)] w1 (Did W w0 lb fb s (.bool false) x)) := Lib.hid (fun w1 h1 => by have := eofR h1; rw [show decide (s.size ≤ x.pos) = false from by simp; omega] at this; exact this)
  have HPK : Hid (∀ w1, Cur W w0 lb fb s x w1 → Calls Tryz.prog 65 #[.pointer (some ⟨lb, 0, none⟩), .int .i64 0] w1 (Did W w0 lb fb s (.int .u8 (byteAt r 0)) x)) := Lib.hid (fun w1 h1 => by have := peekR h1 0 0 rfl (by rw [hr]; exact hl); rw [hr] at this; exact this)
  have HSK : Hid (∀ w1, Cur W w0 lb fb s x w1 → Calls Tryz.prog 66 #[.pointer (some ⟨lb, 0, none⟩)] w1 (Did W w0 lb fb s (.int .u8 (byteAt r 0)) { x with pos := x.pos + 1 })) := Lib.hid (fun w1 h1 => by have := skipR h1 (by omega); rw [← hr, byteAt_drop]; exact this)
  have HIS : Hid (∀ w1, Cur W w0 lb fb s x w1 → ∀ c : Int, Calls Tryz.prog 61 #[.pointer (some ⟨lb, 0, none⟩), .int .i64 1, .int .u8 c] w1 (Did W w0 lb fb s (.bool (isAt r 1 c)) x)) := Lib.hid (fun w1 h1 c => by have := peekIsR h1 1 1 c rfl (by omega); rw [hr] at this; exact this)
  have HS2 : Hid (2 ≤ r.length → ∀ w1, Cur W w0 lb fb s x w1 → Calls Tryz.prog 60 #[.pointer (some ⟨lb, 0, none⟩), .int .i64 2] w1 (Did W w0 lb fb s (.tuple #[]) { x with pos := x.pos + 2 })) := Lib.hid (fun h2 w1 h1 => skipNR h1 2 2 rfl (by omega))
  rw [hc] at HPK HSK
  have HC := Lib.hid h; have HX := Lib.hid hx
  clear h hx hr
  go_enter Tryz.func52, Tryz.ntmps52
  go_wp2_with fail
  refine (HE.out _ HC.out).mono ?_
  rintro e w1 ⟨rfl, hC1⟩
  clear HC; have HC := Lib.hid hC1; clear hC1
  go_wp2_with fail
  refine (HPK.out _ HC.out).mono ?_
  rintro e w1 ⟨rfl, hC1⟩
  clear HC; have HC := Lib.hid hC1; clear hC1
  go_wp2_with fail
  refine (HSK.out _ HC.out).mono ?_
  rintro e w1 ⟨rfl, hC1⟩
  clear HC; have HC := Lib.hid hC1; clear hC1
  have hcv := run_kind_one (w1.alloc (.cells #[Value.int .u8 126] 5)) w1.heap.size 126 (World.cell?_alloc_new (w := w1) #[Value.int .u8 126] 5 0)
  have HC2 : Hid (Cur W w0 lb fb s { x with pos := x.pos + 1 } (w1.alloc (.cells #[Value.int .u8 126] 5))) := Lib.hid (HC.out.keep ((Below.refl _ _).alloc (Nat.le_refl _) _))
  clear HC; have HC := HC2; clear HC2
  have k1 := (HC.out.lex.cell 1).1; have f1 := (HC.out.lex.cell 1).2
  simp only [LexSt.cells, List.getElem?_toArray, List.getElem?_cons_succ, List.getElem?_cons_zero] at k1
  go_wp2_with fail
  go_end0
  refine ReadN.of_ok (by show x.pos + 1 ≤ s.size; omega) (fun _ => by show 0 < 1; omega) ?_
  rw [took_sym x HX.out]
  exact ⟨rfl, HC.out.set 1 _ _ rfl (by show x.pos + 1 ≤ s.size; omega)⟩
theorem tk_one42 {W w0 w : World} {lb fb : Nat} {s : ByteArray} {x : LexSt} {r : List UInt8} (h : Cur W w0 lb fb s x w) (np : Bool) (hx : x.text = ⟨#[]⟩ ∧ x.base = 0) (hr : s.data.toList.drop x.pos = r) (hl : 0 < r.length) (hc : byteAt r 0 = 42) :
    Calls Tryz.prog 52 #[.pointer (some ⟨lb, 0, none⟩), .bool np] w (ReadN W w0 lb fb s x np (sym [42])) := by
  have hpos := h.pos
  have hsz := h.sz
  have hrl : r.length = s.size - x.pos := by rw [← hr]; exact h.len
  have HE : Hid (∀ w1, Cur W w0 lb fb s x w1 → Calls Tryz.prog 57 #[.pointer (some ⟨lb, 0, none⟩)] w1 (Did W w0 lb fb s (.bool false) x)) := Lib.hid (fun w1 h1 => by have := eofR h1; rw [show decide (s.size ≤ x.pos) = false from by simp; omega] at this; exact this)
  have HPK : Hid (∀ w1, Cur W w0 lb fb s x w1 → Calls Tryz.prog 65 #[.pointer (some ⟨lb, 0, none⟩), .int .i64 0] w1 (Did W w0 lb fb s (.int .u8 (byteAt r 0)) x)) := Lib.hid (fun w1 h1 => by have := peekR h1 0 0 rfl (by rw [hr]; exact hl); rw [hr] at this; exact this)
  have HSK : Hid (∀ w1, Cur W w0 lb fb s x w1 → Calls Tryz.prog 66 #[.pointer (some ⟨lb, 0, none⟩)] w1 (Did W w0 lb fb s (.int .u8 (byteAt r 0)) { x with pos := x.pos + 1 })) := Lib.hid (fun w1 h1 => by have := skipR h1 (by omega); rw [← hr, byteAt_drop]; exact this)
  have HIS : Hid (∀ w1, Cur W w0 lb fb s x w1 → ∀ c : Int, Calls Tryz.prog 61 #[.pointer (some ⟨lb, 0, none⟩), .int .i64 1, .int .u8 c] w1 (Did W w0 lb fb s (.bool (isAt r 1 c)) x)) := Lib.hid (fun w1 h1 c => by have := peekIsR h1 1 1 c rfl (by omega); rw [hr] at this; exact this)
  have HS2 : Hid (2 ≤ r.length → ∀ w1, Cur W w0 lb fb s x w1 → Calls Tryz.prog 60 #[.pointer (some ⟨lb, 0, none⟩), .int .i64 2] w1 (Did W w0 lb fb s (.tuple #[]) { x with pos := x.pos + 2 })) := Lib.hid (fun h2 w1 h1 => skipNR h1 2 2 rfl (by omega))
  rw [hc] at HPK HSK
  have HC := Lib.hid h; have HX := Lib.hid hx
  clear h hx hr
  go_enter Tryz.func52, Tryz.ntmps52
  go_wp2_with fail
  refine (HE.out _ HC.out).mono ?_
  rintro e w1 ⟨rfl, hC1⟩
  clear HC; have HC := Lib.hid hC1; clear hC1
  go_wp2_with fail
  refine (HPK.out _ HC.out).mono ?_
  rintro e w1 ⟨rfl, hC1⟩
  clear HC; have HC := Lib.hid hC1; clear hC1
  go_wp2_with fail
  refine (HSK.out _ HC.out).mono ?_
  rintro e w1 ⟨rfl, hC1⟩
  clear HC; have HC := Lib.hid hC1; clear hC1
  have hcv := run_kind_one (w1.alloc (.cells #[Value.int .u8 42] 5)) w1.heap.size 42 (World.cell?_alloc_new (w := w1) #[Value.int .u8 42] 5 0)
  have HC2 : Hid (Cur W w0 lb fb s { x with pos := x.pos + 1 } (w1.alloc (.cells #[Value.int .u8 42] 5))) := Lib.hid (HC.out.keep ((Below.refl _ _).alloc (Nat.le_refl _) _))
  clear HC; have HC := HC2; clear HC2
  have k1 := (HC.out.lex.cell 1).1; have f1 := (HC.out.lex.cell 1).2
  simp only [LexSt.cells, List.getElem?_toArray, List.getElem?_cons_succ, List.getElem?_cons_zero] at k1
  go_wp2_with fail
  go_end0
  refine ReadN.of_ok (by show x.pos + 1 ≤ s.size; omega) (fun _ => by show 0 < 1; omega) ?_
  rw [took_sym x HX.out]
  exact ⟨rfl, HC.out.set 1 _ _ rfl (by show x.pos + 1 ≤ s.size; omega)⟩
theorem tk_one47 {W w0 w : World} {lb fb : Nat} {s : ByteArray} {x : LexSt} {r : List UInt8} (h : Cur W w0 lb fb s x w) (np : Bool) (hx : x.text = ⟨#[]⟩ ∧ x.base = 0) (hr : s.data.toList.drop x.pos = r) (hl : 0 < r.length) (hc : byteAt r 0 = 47) :
    Calls Tryz.prog 52 #[.pointer (some ⟨lb, 0, none⟩), .bool np] w (ReadN W w0 lb fb s x np (sym [47])) := by
  have hpos := h.pos
  have hsz := h.sz
  have hrl : r.length = s.size - x.pos := by rw [← hr]; exact h.len
  have HE : Hid (∀ w1, Cur W w0 lb fb s x w1 → Calls Tryz.prog 57 #[.pointer (some ⟨lb, 0, none⟩)] w1 (Did W w0 lb fb s (.bool false) x)) := Lib.hid (fun w1 h1 => by have := eofR h1; rw [show decide (s.size ≤ x.pos) = false from by simp; omega] at this; exact this)
  have HPK : Hid (∀ w1, Cur W w0 lb fb s x w1 → Calls Tryz.prog 65 #[.pointer (some ⟨lb, 0, none⟩), .int .i64 0] w1 (Did W w0 lb fb s (.int .u8 (byteAt r 0)) x)) := Lib.hid (fun w1 h1 => by have := peekR h1 0 0 rfl (by rw [hr]; exact hl); rw [hr] at this; exact this)
  have HSK : Hid (∀ w1, Cur W w0 lb fb s x w1 → Calls Tryz.prog 66 #[.pointer (some ⟨lb, 0, none⟩)] w1 (Did W w0 lb fb s (.int .u8 (byteAt r 0)) { x with pos := x.pos + 1 })) := Lib.hid (fun w1 h1 => by have := skipR h1 (by omega); rw [← hr, byteAt_drop]; exact this)
  have HIS : Hid (∀ w1, Cur W w0 lb fb s x w1 → ∀ c : Int, Calls Tryz.prog 61 #[.pointer (some ⟨lb, 0, none⟩), .int .i64 1, .int .u8 c] w1 (Did W w0 lb fb s (.bool (isAt r 1 c)) x)) := Lib.hid (fun w1 h1 c => by have := peekIsR h1 1 1 c rfl (by omega); rw [hr] at this; exact this)
  have HS2 : Hid (2 ≤ r.length → ∀ w1, Cur W w0 lb fb s x w1 → Calls Tryz.prog 60 #[.pointer (some ⟨lb, 0, none⟩), .int .i64 2] w1 (Did W w0 lb fb s (.tuple #[]) { x with pos := x.pos + 2 })) := Lib.hid (fun h2 w1 h1 => skipNR h1 2 2 rfl (by omega))
  rw [hc] at HPK HSK
  have HC := Lib.hid h; have HX := Lib.hid hx
  clear h hx hr
  go_enter Tryz.func52, Tryz.ntmps52
  go_wp2_with fail
  refine (HE.out _ HC.out).mono ?_
  rintro e w1 ⟨rfl, hC1⟩
  clear HC; have HC := Lib.hid hC1; clear hC1
  go_wp2_with fail
  refine (HPK.out _ HC.out).mono ?_
  rintro e w1 ⟨rfl, hC1⟩
  clear HC; have HC := Lib.hid hC1; clear hC1
  go_wp2_with fail
  refine (HSK.out _ HC.out).mono ?_
  rintro e w1 ⟨rfl, hC1⟩
  clear HC; have HC := Lib.hid hC1; clear hC1
  have hcv := run_kind_one (w1.alloc (.cells #[Value.int .u8 47] 5)) w1.heap.size 47 (World.cell?_alloc_new (w := w1) #[Value.int .u8 47] 5 0)
  have HC2 : Hid (Cur W w0 lb fb s { x with pos := x.pos + 1 } (w1.alloc (.cells #[Value.int .u8 47] 5))) := Lib.hid (HC.out.keep ((Below.refl _ _).alloc (Nat.le_refl _) _))
  clear HC; have HC := HC2; clear HC2
  have k1 := (HC.out.lex.cell 1).1; have f1 := (HC.out.lex.cell 1).2
  simp only [LexSt.cells, List.getElem?_toArray, List.getElem?_cons_succ, List.getElem?_cons_zero] at k1
  go_wp2_with fail
  go_end0
  refine ReadN.of_ok (by show x.pos + 1 ≤ s.size; omega) (fun _ => by show 0 < 1; omega) ?_
  rw [took_sym x HX.out]
  exact ⟨rfl, HC.out.set 1 _ _ rfl (by show x.pos + 1 ≤ s.size; omega)⟩
theorem tk_one38 {W w0 w : World} {lb fb : Nat} {s : ByteArray} {x : LexSt} {r : List UInt8} (h : Cur W w0 lb fb s x w) (np : Bool) (hx : x.text = ⟨#[]⟩ ∧ x.base = 0) (hr : s.data.toList.drop x.pos = r) (hl : 0 < r.length) (hc : byteAt r 0 = 38) :
    Calls Tryz.prog 52 #[.pointer (some ⟨lb, 0, none⟩), .bool np] w (ReadN W w0 lb fb s x np (sym [38])) := by
  have hpos := h.pos
  have hsz := h.sz
  have hrl : r.length = s.size - x.pos := by rw [← hr]; exact h.len
  have HE : Hid (∀ w1, Cur W w0 lb fb s x w1 → Calls Tryz.prog 57 #[.pointer (some ⟨lb, 0, none⟩)] w1 (Did W w0 lb fb s (.bool false) x)) := Lib.hid (fun w1 h1 => by have := eofR h1; rw [show decide (s.size ≤ x.pos) = false from by simp; omega] at this; exact this)
  have HPK : Hid (∀ w1, Cur W w0 lb fb s x w1 → Calls Tryz.prog 65 #[.pointer (some ⟨lb, 0, none⟩), .int .i64 0] w1 (Did W w0 lb fb s (.int .u8 (byteAt r 0)) x)) := Lib.hid (fun w1 h1 => by have := peekR h1 0 0 rfl (by rw [hr]; exact hl); rw [hr] at this; exact this)
  have HSK : Hid (∀ w1, Cur W w0 lb fb s x w1 → Calls Tryz.prog 66 #[.pointer (some ⟨lb, 0, none⟩)] w1 (Did W w0 lb fb s (.int .u8 (byteAt r 0)) { x with pos := x.pos + 1 })) := Lib.hid (fun w1 h1 => by have := skipR h1 (by omega); rw [← hr, byteAt_drop]; exact this)
  have HIS : Hid (∀ w1, Cur W w0 lb fb s x w1 → ∀ c : Int, Calls Tryz.prog 61 #[.pointer (some ⟨lb, 0, none⟩), .int .i64 1, .int .u8 c] w1 (Did W w0 lb fb s (.bool (isAt r 1 c)) x)) := Lib.hid (fun w1 h1 c => by have := peekIsR h1 1 1 c rfl (by omega); rw [hr] at this; exact this)
  have HS2 : Hid (2 ≤ r.length → ∀ w1, Cur W w0 lb fb s x w1 → Calls Tryz.prog 60 #[.pointer (some ⟨lb, 0, none⟩), .int .i64 2] w1 (Did W w0 lb fb s (.tuple #[]) { x with pos := x.pos + 2 })) := Lib.hid (fun h2 w1 h1 => skipNR h1 2 2 rfl (by omega))
  rw [hc] at HPK HSK
  have HC := Lib.hid h; have HX := Lib.hid hx
  clear h hx hr
  go_enter Tryz.func52, Tryz.ntmps52
  go_wp2_with fail
  refine (HE.out _ HC.out).mono ?_
  rintro e w1 ⟨rfl, hC1⟩
  clear HC; have HC := Lib.hid hC1; clear hC1
  go_wp2_with fail
  refine (HPK.out _ HC.out).mono ?_
  rintro e w1 ⟨rfl, hC1⟩
  clear HC; have HC := Lib.hid hC1; clear hC1
  go_wp2_with fail
  refine (HSK.out _ HC.out).mono ?_
  rintro e w1 ⟨rfl, hC1⟩
  clear HC; have HC := Lib.hid hC1; clear hC1
  have hcv := run_kind_one (w1.alloc (.cells #[Value.int .u8 38] 5)) w1.heap.size 38 (World.cell?_alloc_new (w := w1) #[Value.int .u8 38] 5 0)
  have HC2 : Hid (Cur W w0 lb fb s { x with pos := x.pos + 1 } (w1.alloc (.cells #[Value.int .u8 38] 5))) := Lib.hid (HC.out.keep ((Below.refl _ _).alloc (Nat.le_refl _) _))
  clear HC; have HC := HC2; clear HC2
  have k1 := (HC.out.lex.cell 1).1; have f1 := (HC.out.lex.cell 1).2
  simp only [LexSt.cells, List.getElem?_toArray, List.getElem?_cons_succ, List.getElem?_cons_zero] at k1
  go_wp2_with fail
  go_end0
  refine ReadN.of_ok (by show x.pos + 1 ≤ s.size; omega) (fun _ => by show 0 < 1; omega) ?_
  rw [took_sym x HX.out]
  exact ⟨rfl, HC.out.set 1 _ _ rfl (by show x.pos + 1 ≤ s.size; omega)⟩
theorem tk_one94 {W w0 w : World} {lb fb : Nat} {s : ByteArray} {x : LexSt} {r : List UInt8} (h : Cur W w0 lb fb s x w) (np : Bool) (hx : x.text = ⟨#[]⟩ ∧ x.base = 0) (hr : s.data.toList.drop x.pos = r) (hl : 0 < r.length) (hc : byteAt r 0 = 94) :
    Calls Tryz.prog 52 #[.pointer (some ⟨lb, 0, none⟩), .bool np] w (ReadN W w0 lb fb s x np (sym [94])) := by
  have hpos := h.pos
  have hsz := h.sz
  have hrl : r.length = s.size - x.pos := by rw [← hr]; exact h.len
  have HE : Hid (∀ w1, Cur W w0 lb fb s x w1 → Calls Tryz.prog 57 #[.pointer (some ⟨lb, 0, none⟩)] w1 (Did W w0 lb fb s (.bool false) x)) := Lib.hid (fun w1 h1 => by have := eofR h1; rw [show decide (s.size ≤ x.pos) = false from by simp; omega] at this; exact this)
  have HPK : Hid (∀ w1, Cur W w0 lb fb s x w1 → Calls Tryz.prog 65 #[.pointer (some ⟨lb, 0, none⟩), .int .i64 0] w1 (Did W w0 lb fb s (.int .u8 (byteAt r 0)) x)) := Lib.hid (fun w1 h1 => by have := peekR h1 0 0 rfl (by rw [hr]; exact hl); rw [hr] at this; exact this)
  have HSK : Hid (∀ w1, Cur W w0 lb fb s x w1 → Calls Tryz.prog 66 #[.pointer (some ⟨lb, 0, none⟩)] w1 (Did W w0 lb fb s (.int .u8 (byteAt r 0)) { x with pos := x.pos + 1 })) := Lib.hid (fun w1 h1 => by have := skipR h1 (by omega); rw [← hr, byteAt_drop]; exact this)
  have HIS : Hid (∀ w1, Cur W w0 lb fb s x w1 → ∀ c : Int, Calls Tryz.prog 61 #[.pointer (some ⟨lb, 0, none⟩), .int .i64 1, .int .u8 c] w1 (Did W w0 lb fb s (.bool (isAt r 1 c)) x)) := Lib.hid (fun w1 h1 c => by have := peekIsR h1 1 1 c rfl (by omega); rw [hr] at this; exact this)
  have HS2 : Hid (2 ≤ r.length → ∀ w1, Cur W w0 lb fb s x w1 → Calls Tryz.prog 60 #[.pointer (some ⟨lb, 0, none⟩), .int .i64 2] w1 (Did W w0 lb fb s (.tuple #[]) { x with pos := x.pos + 2 })) := Lib.hid (fun h2 w1 h1 => skipNR h1 2 2 rfl (by omega))
  rw [hc] at HPK HSK
  have HC := Lib.hid h; have HX := Lib.hid hx
  clear h hx hr
  go_enter Tryz.func52, Tryz.ntmps52
  go_wp2_with fail
  refine (HE.out _ HC.out).mono ?_
  rintro e w1 ⟨rfl, hC1⟩
  clear HC; have HC := Lib.hid hC1; clear hC1
  go_wp2_with fail
  refine (HPK.out _ HC.out).mono ?_
  rintro e w1 ⟨rfl, hC1⟩
  clear HC; have HC := Lib.hid hC1; clear hC1
  go_wp2_with fail
  refine (HSK.out _ HC.out).mono ?_
  rintro e w1 ⟨rfl, hC1⟩
  clear HC; have HC := Lib.hid hC1; clear hC1
  have hcv := run_kind_one (w1.alloc (.cells #[Value.int .u8 94] 5)) w1.heap.size 94 (World.cell?_alloc_new (w := w1) #[Value.int .u8 94] 5 0)
  have HC2 : Hid (Cur W w0 lb fb s { x with pos := x.pos + 1 } (w1.alloc (.cells #[Value.int .u8 94] 5))) := Lib.hid (HC.out.keep ((Below.refl _ _).alloc (Nat.le_refl _) _))
  clear HC; have HC := HC2; clear HC2
  have k1 := (HC.out.lex.cell 1).1; have f1 := (HC.out.lex.cell 1).2
  simp only [LexSt.cells, List.getElem?_toArray, List.getElem?_cons_succ, List.getElem?_cons_zero] at k1
  go_wp2_with fail
  go_end0
  refine ReadN.of_ok (by show x.pos + 1 ≤ s.size; omega) (fun _ => by show 0 < 1; omega) ?_
  rw [took_sym x HX.out]
  exact ⟨rfl, HC.out.set 1 _ _ rfl (by show x.pos + 1 ≤ s.size; omega)⟩
theorem tk_one37 {W w0 w : World} {lb fb : Nat} {s : ByteArray} {x : LexSt} {r : List UInt8} (h : Cur W w0 lb fb s x w) (np : Bool) (hx : x.text = ⟨#[]⟩ ∧ x.base = 0) (hr : s.data.toList.drop x.pos = r) (hl : 0 < r.length) (hc : byteAt r 0 = 37) :
    Calls Tryz.prog 52 #[.pointer (some ⟨lb, 0, none⟩), .bool np] w (ReadN W w0 lb fb s x np (sym [37])) := by
  have hpos := h.pos
  have hsz := h.sz
  have hrl : r.length = s.size - x.pos := by rw [← hr]; exact h.len
  have HE : Hid (∀ w1, Cur W w0 lb fb s x w1 → Calls Tryz.prog 57 #[.pointer (some ⟨lb, 0, none⟩)] w1 (Did W w0 lb fb s (.bool false) x)) := Lib.hid (fun w1 h1 => by have := eofR h1; rw [show decide (s.size ≤ x.pos) = false from by simp; omega] at this; exact this)
  have HPK : Hid (∀ w1, Cur W w0 lb fb s x w1 → Calls Tryz.prog 65 #[.pointer (some ⟨lb, 0, none⟩), .int .i64 0] w1 (Did W w0 lb fb s (.int .u8 (byteAt r 0)) x)) := Lib.hid (fun w1 h1 => by have := peekR h1 0 0 rfl (by rw [hr]; exact hl); rw [hr] at this; exact this)
  have HSK : Hid (∀ w1, Cur W w0 lb fb s x w1 → Calls Tryz.prog 66 #[.pointer (some ⟨lb, 0, none⟩)] w1 (Did W w0 lb fb s (.int .u8 (byteAt r 0)) { x with pos := x.pos + 1 })) := Lib.hid (fun w1 h1 => by have := skipR h1 (by omega); rw [← hr, byteAt_drop]; exact this)
  have HIS : Hid (∀ w1, Cur W w0 lb fb s x w1 → ∀ c : Int, Calls Tryz.prog 61 #[.pointer (some ⟨lb, 0, none⟩), .int .i64 1, .int .u8 c] w1 (Did W w0 lb fb s (.bool (isAt r 1 c)) x)) := Lib.hid (fun w1 h1 c => by have := peekIsR h1 1 1 c rfl (by omega); rw [hr] at this; exact this)
  have HS2 : Hid (2 ≤ r.length → ∀ w1, Cur W w0 lb fb s x w1 → Calls Tryz.prog 60 #[.pointer (some ⟨lb, 0, none⟩), .int .i64 2] w1 (Did W w0 lb fb s (.tuple #[]) { x with pos := x.pos + 2 })) := Lib.hid (fun h2 w1 h1 => skipNR h1 2 2 rfl (by omega))
  rw [hc] at HPK HSK
  have HC := Lib.hid h; have HX := Lib.hid hx
  clear h hx hr
  go_enter Tryz.func52, Tryz.ntmps52
  go_wp2_with fail
  refine (HE.out _ HC.out).mono ?_
  rintro e w1 ⟨rfl, hC1⟩
  clear HC; have HC := Lib.hid hC1; clear hC1
  go_wp2_with fail
  refine (HPK.out _ HC.out).mono ?_
  rintro e w1 ⟨rfl, hC1⟩
  clear HC; have HC := Lib.hid hC1; clear hC1
  go_wp2_with fail
  refine (HSK.out _ HC.out).mono ?_
  rintro e w1 ⟨rfl, hC1⟩
  clear HC; have HC := Lib.hid hC1; clear hC1
  have hcv := run_kind_one (w1.alloc (.cells #[Value.int .u8 37] 5)) w1.heap.size 37 (World.cell?_alloc_new (w := w1) #[Value.int .u8 37] 5 0)
  have HC2 : Hid (Cur W w0 lb fb s { x with pos := x.pos + 1 } (w1.alloc (.cells #[Value.int .u8 37] 5))) := Lib.hid (HC.out.keep ((Below.refl _ _).alloc (Nat.le_refl _) _))
  clear HC; have HC := HC2; clear HC2
  have k1 := (HC.out.lex.cell 1).1; have f1 := (HC.out.lex.cell 1).2
  simp only [LexSt.cells, List.getElem?_toArray, List.getElem?_cons_succ, List.getElem?_cons_zero] at k1
  go_wp2_with fail
  go_end0
  refine ReadN.of_ok (by show x.pos + 1 ≤ s.size; omega) (fun _ => by show 0 < 1; omega) ?_
  rw [took_sym x HX.out]
  exact ⟨rfl, HC.out.set 1 _ _ rfl (by show x.pos + 1 ≤ s.size; omega)⟩
theorem tk_one58 {W w0 w : World} {lb fb : Nat} {s : ByteArray} {x : LexSt} {r : List UInt8} (h : Cur W w0 lb fb s x w) (np : Bool) (hx : x.text = ⟨#[]⟩ ∧ x.base = 0) (hr : s.data.toList.drop x.pos = r) (hl : 0 < r.length) (hc : byteAt r 0 = 58) :
    Calls Tryz.prog 52 #[.pointer (some ⟨lb, 0, none⟩), .bool np] w (ReadN W w0 lb fb s x np (sym [58])) := by
  have hpos := h.pos
  have hsz := h.sz
  have hrl : r.length = s.size - x.pos := by rw [← hr]; exact h.len
  have HE : Hid (∀ w1, Cur W w0 lb fb s x w1 → Calls Tryz.prog 57 #[.pointer (some ⟨lb, 0, none⟩)] w1 (Did W w0 lb fb s (.bool false) x)) := Lib.hid (fun w1 h1 => by have := eofR h1; rw [show decide (s.size ≤ x.pos) = false from by simp; omega] at this; exact this)
  have HPK : Hid (∀ w1, Cur W w0 lb fb s x w1 → Calls Tryz.prog 65 #[.pointer (some ⟨lb, 0, none⟩), .int .i64 0] w1 (Did W w0 lb fb s (.int .u8 (byteAt r 0)) x)) := Lib.hid (fun w1 h1 => by have := peekR h1 0 0 rfl (by rw [hr]; exact hl); rw [hr] at this; exact this)
  have HSK : Hid (∀ w1, Cur W w0 lb fb s x w1 → Calls Tryz.prog 66 #[.pointer (some ⟨lb, 0, none⟩)] w1 (Did W w0 lb fb s (.int .u8 (byteAt r 0)) { x with pos := x.pos + 1 })) := Lib.hid (fun w1 h1 => by have := skipR h1 (by omega); rw [← hr, byteAt_drop]; exact this)
  have HIS : Hid (∀ w1, Cur W w0 lb fb s x w1 → ∀ c : Int, Calls Tryz.prog 61 #[.pointer (some ⟨lb, 0, none⟩), .int .i64 1, .int .u8 c] w1 (Did W w0 lb fb s (.bool (isAt r 1 c)) x)) := Lib.hid (fun w1 h1 c => by have := peekIsR h1 1 1 c rfl (by omega); rw [hr] at this; exact this)
  have HS2 : Hid (2 ≤ r.length → ∀ w1, Cur W w0 lb fb s x w1 → Calls Tryz.prog 60 #[.pointer (some ⟨lb, 0, none⟩), .int .i64 2] w1 (Did W w0 lb fb s (.tuple #[]) { x with pos := x.pos + 2 })) := Lib.hid (fun h2 w1 h1 => skipNR h1 2 2 rfl (by omega))
  rw [hc] at HPK HSK
  have HC := Lib.hid h; have HX := Lib.hid hx
  clear h hx hr
  go_enter Tryz.func52, Tryz.ntmps52
  go_wp2_with fail
  refine (HE.out _ HC.out).mono ?_
  rintro e w1 ⟨rfl, hC1⟩
  clear HC; have HC := Lib.hid hC1; clear hC1
  go_wp2_with fail
  refine (HPK.out _ HC.out).mono ?_
  rintro e w1 ⟨rfl, hC1⟩
  clear HC; have HC := Lib.hid hC1; clear hC1
  go_wp2_with fail
  refine (HSK.out _ HC.out).mono ?_
  rintro e w1 ⟨rfl, hC1⟩
  clear HC; have HC := Lib.hid hC1; clear hC1
  have hcv := run_kind_one (w1.alloc (.cells #[Value.int .u8 58] 5)) w1.heap.size 58 (World.cell?_alloc_new (w := w1) #[Value.int .u8 58] 5 0)
  have HC2 : Hid (Cur W w0 lb fb s { x with pos := x.pos + 1 } (w1.alloc (.cells #[Value.int .u8 58] 5))) := Lib.hid (HC.out.keep ((Below.refl _ _).alloc (Nat.le_refl _) _))
  clear HC; have HC := HC2; clear HC2
  have k1 := (HC.out.lex.cell 1).1; have f1 := (HC.out.lex.cell 1).2
  simp only [LexSt.cells, List.getElem?_toArray, List.getElem?_cons_succ, List.getElem?_cons_zero] at k1
  go_wp2_with fail
  go_end0
  refine ReadN.of_ok (by show x.pos + 1 ≤ s.size; omega) (fun _ => by show 0 < 1; omega) ?_
  rw [took_sym x HX.out]
  exact ⟨rfl, HC.out.set 1 _ _ rfl (by show x.pos + 1 ≤ s.size; omega)⟩
theorem tk_one63 {W w0 w : World} {lb fb : Nat} {s : ByteArray} {x : LexSt} {r : List UInt8} (h : Cur W w0 lb fb s x w) (np : Bool) (hx : x.text = ⟨#[]⟩ ∧ x.base = 0) (hr : s.data.toList.drop x.pos = r) (hl : 0 < r.length) (hc : byteAt r 0 = 63) :
    Calls Tryz.prog 52 #[.pointer (some ⟨lb, 0, none⟩), .bool np] w (ReadN W w0 lb fb s x np (sym [63])) := by
  have hpos := h.pos
  have hsz := h.sz
  have hrl : r.length = s.size - x.pos := by rw [← hr]; exact h.len
  have HE : Hid (∀ w1, Cur W w0 lb fb s x w1 → Calls Tryz.prog 57 #[.pointer (some ⟨lb, 0, none⟩)] w1 (Did W w0 lb fb s (.bool false) x)) := Lib.hid (fun w1 h1 => by have := eofR h1; rw [show decide (s.size ≤ x.pos) = false from by simp; omega] at this; exact this)
  have HPK : Hid (∀ w1, Cur W w0 lb fb s x w1 → Calls Tryz.prog 65 #[.pointer (some ⟨lb, 0, none⟩), .int .i64 0] w1 (Did W w0 lb fb s (.int .u8 (byteAt r 0)) x)) := Lib.hid (fun w1 h1 => by have := peekR h1 0 0 rfl (by rw [hr]; exact hl); rw [hr] at this; exact this)
  have HSK : Hid (∀ w1, Cur W w0 lb fb s x w1 → Calls Tryz.prog 66 #[.pointer (some ⟨lb, 0, none⟩)] w1 (Did W w0 lb fb s (.int .u8 (byteAt r 0)) { x with pos := x.pos + 1 })) := Lib.hid (fun w1 h1 => by have := skipR h1 (by omega); rw [← hr, byteAt_drop]; exact this)
  have HIS : Hid (∀ w1, Cur W w0 lb fb s x w1 → ∀ c : Int, Calls Tryz.prog 61 #[.pointer (some ⟨lb, 0, none⟩), .int .i64 1, .int .u8 c] w1 (Did W w0 lb fb s (.bool (isAt r 1 c)) x)) := Lib.hid (fun w1 h1 c => by have := peekIsR h1 1 1 c rfl (by omega); rw [hr] at this; exact this)
  have HS2 : Hid (2 ≤ r.length → ∀ w1, Cur W w0 lb fb s x w1 → Calls Tryz.prog 60 #[.pointer (some ⟨lb, 0, none⟩), .int .i64 2] w1 (Did W w0 lb fb s (.tuple #[]) { x with pos := x.pos + 2 })) := Lib.hid (fun h2 w1 h1 => skipNR h1 2 2 rfl (by omega))
  rw [hc] at HPK HSK
  have HC := Lib.hid h; have HX := Lib.hid hx
  clear h hx hr
  go_enter Tryz.func52, Tryz.ntmps52
  go_wp2_with fail
  refine (HE.out _ HC.out).mono ?_
  rintro e w1 ⟨rfl, hC1⟩
  clear HC; have HC := Lib.hid hC1; clear hC1
  go_wp2_with fail
  refine (HPK.out _ HC.out).mono ?_
  rintro e w1 ⟨rfl, hC1⟩
  clear HC; have HC := Lib.hid hC1; clear hC1
  go_wp2_with fail
  refine (HSK.out _ HC.out).mono ?_
  rintro e w1 ⟨rfl, hC1⟩
  clear HC; have HC := Lib.hid hC1; clear hC1
  have hcv := run_kind_one (w1.alloc (.cells #[Value.int .u8 63] 5)) w1.heap.size 63 (World.cell?_alloc_new (w := w1) #[Value.int .u8 63] 5 0)
  have HC2 : Hid (Cur W w0 lb fb s { x with pos := x.pos + 1 } (w1.alloc (.cells #[Value.int .u8 63] 5))) := Lib.hid (HC.out.keep ((Below.refl _ _).alloc (Nat.le_refl _) _))
  clear HC; have HC := HC2; clear HC2
  have k1 := (HC.out.lex.cell 1).1; have f1 := (HC.out.lex.cell 1).2
  simp only [LexSt.cells, List.getElem?_toArray, List.getElem?_cons_succ, List.getElem?_cons_zero] at k1
  go_wp2_with fail
  go_end0
  refine ReadN.of_ok (by show x.pos + 1 ≤ s.size; omega) (fun _ => by show 0 < 1; omega) ?_
  rw [took_sym x HX.out]
  exact ⟨rfl, HC.out.set 1 _ _ rfl (by show x.pos + 1 ≤ s.size; omega)⟩
theorem tk_one92 {W w0 w : World} {lb fb : Nat} {s : ByteArray} {x : LexSt} {r : List UInt8} (h : Cur W w0 lb fb s x w) (np : Bool) (hx : x.text = ⟨#[]⟩ ∧ x.base = 0) (hr : s.data.toList.drop x.pos = r) (hl : 0 < r.length) (hc : byteAt r 0 = 92) :
    Calls Tryz.prog 52 #[.pointer (some ⟨lb, 0, none⟩), .bool np] w (ReadN W w0 lb fb s x np (sym [92])) := by
  have hpos := h.pos
  have hsz := h.sz
  have hrl : r.length = s.size - x.pos := by rw [← hr]; exact h.len
  have HE : Hid (∀ w1, Cur W w0 lb fb s x w1 → Calls Tryz.prog 57 #[.pointer (some ⟨lb, 0, none⟩)] w1 (Did W w0 lb fb s (.bool false) x)) := Lib.hid (fun w1 h1 => by have := eofR h1; rw [show decide (s.size ≤ x.pos) = false from by simp; omega] at this; exact this)
  have HPK : Hid (∀ w1, Cur W w0 lb fb s x w1 → Calls Tryz.prog 65 #[.pointer (some ⟨lb, 0, none⟩), .int .i64 0] w1 (Did W w0 lb fb s (.int .u8 (byteAt r 0)) x)) := Lib.hid (fun w1 h1 => by have := peekR h1 0 0 rfl (by rw [hr]; exact hl); rw [hr] at this; exact this)
  have HSK : Hid (∀ w1, Cur W w0 lb fb s x w1 → Calls Tryz.prog 66 #[.pointer (some ⟨lb, 0, none⟩)] w1 (Did W w0 lb fb s (.int .u8 (byteAt r 0)) { x with pos := x.pos + 1 })) := Lib.hid (fun w1 h1 => by have := skipR h1 (by omega); rw [← hr, byteAt_drop]; exact this)
  have HIS : Hid (∀ w1, Cur W w0 lb fb s x w1 → ∀ c : Int, Calls Tryz.prog 61 #[.pointer (some ⟨lb, 0, none⟩), .int .i64 1, .int .u8 c] w1 (Did W w0 lb fb s (.bool (isAt r 1 c)) x)) := Lib.hid (fun w1 h1 c => by have := peekIsR h1 1 1 c rfl (by omega); rw [hr] at this; exact this)
  have HS2 : Hid (2 ≤ r.length → ∀ w1, Cur W w0 lb fb s x w1 → Calls Tryz.prog 60 #[.pointer (some ⟨lb, 0, none⟩), .int .i64 2] w1 (Did W w0 lb fb s (.tuple #[]) { x with pos := x.pos + 2 })) := Lib.hid (fun h2 w1 h1 => skipNR h1 2 2 rfl (by omega))
  rw [hc] at HPK HSK
  have HC := Lib.hid h; have HX := Lib.hid hx
  clear h hx hr
  go_enter Tryz.func52, Tryz.ntmps52
  go_wp2_with fail
  refine (HE.out _ HC.out).mono ?_
  rintro e w1 ⟨rfl, hC1⟩
  clear HC; have HC := Lib.hid hC1; clear hC1
  go_wp2_with fail
  refine (HPK.out _ HC.out).mono ?_
  rintro e w1 ⟨rfl, hC1⟩
  clear HC; have HC := Lib.hid hC1; clear hC1
  go_wp2_with fail
  refine (HSK.out _ HC.out).mono ?_
  rintro e w1 ⟨rfl, hC1⟩
  clear HC; have HC := Lib.hid hC1; clear hC1
  have hcv := run_kind_one (w1.alloc (.cells #[Value.int .u8 92] 5)) w1.heap.size 92 (World.cell?_alloc_new (w := w1) #[Value.int .u8 92] 5 0)
  have HC2 : Hid (Cur W w0 lb fb s { x with pos := x.pos + 1 } (w1.alloc (.cells #[Value.int .u8 92] 5))) := Lib.hid (HC.out.keep ((Below.refl _ _).alloc (Nat.le_refl _) _))
  clear HC; have HC := HC2; clear HC2
  have k1 := (HC.out.lex.cell 1).1; have f1 := (HC.out.lex.cell 1).2
  simp only [LexSt.cells, List.getElem?_toArray, List.getElem?_cons_succ, List.getElem?_cons_zero] at k1
  go_wp2_with fail
  go_end0
  refine ReadN.of_ok (by show x.pos + 1 ≤ s.size; omega) (fun _ => by show 0 < 1; omega) ?_
  rw [took_sym x HX.out]
  exact ⟨rfl, HC.out.set 1 _ _ rfl (by show x.pos + 1 ≤ s.size; omega)⟩
theorem tk_one36 {W w0 w : World} {lb fb : Nat} {s : ByteArray} {x : LexSt} {r : List UInt8} (h : Cur W w0 lb fb s x w) (np : Bool) (hx : x.text = ⟨#[]⟩ ∧ x.base = 0) (hr : s.data.toList.drop x.pos = r) (hl : 0 < r.length) (hc : byteAt r 0 = 36) :
    Calls Tryz.prog 52 #[.pointer (some ⟨lb, 0, none⟩), .bool np] w (ReadN W w0 lb fb s x np (sym [36])) := by
  have hpos := h.pos
  have hsz := h.sz
  have hrl : r.length = s.size - x.pos := by rw [← hr]; exact h.len
  have HE : Hid (∀ w1, Cur W w0 lb fb s x w1 → Calls Tryz.prog 57 #[.pointer (some ⟨lb, 0, none⟩)] w1 (Did W w0 lb fb s (.bool false) x)) := Lib.hid (fun w1 h1 => by have := eofR h1; rw [show decide (s.size ≤ x.pos) = false from by simp; omega] at this; exact this)
  have HPK : Hid (∀ w1, Cur W w0 lb fb s x w1 → Calls Tryz.prog 65 #[.pointer (some ⟨lb, 0, none⟩), .int .i64 0] w1 (Did W w0 lb fb s (.int .u8 (byteAt r 0)) x)) := Lib.hid (fun w1 h1 => by have := peekR h1 0 0 rfl (by rw [hr]; exact hl); rw [hr] at this; exact this)
  have HSK : Hid (∀ w1, Cur W w0 lb fb s x w1 → Calls Tryz.prog 66 #[.pointer (some ⟨lb, 0, none⟩)] w1 (Did W w0 lb fb s (.int .u8 (byteAt r 0)) { x with pos := x.pos + 1 })) := Lib.hid (fun w1 h1 => by have := skipR h1 (by omega); rw [← hr, byteAt_drop]; exact this)
  have HIS : Hid (∀ w1, Cur W w0 lb fb s x w1 → ∀ c : Int, Calls Tryz.prog 61 #[.pointer (some ⟨lb, 0, none⟩), .int .i64 1, .int .u8 c] w1 (Did W w0 lb fb s (.bool (isAt r 1 c)) x)) := Lib.hid (fun w1 h1 c => by have := peekIsR h1 1 1 c rfl (by omega); rw [hr] at this; exact this)
  have HS2 : Hid (2 ≤ r.length → ∀ w1, Cur W w0 lb fb s x w1 → Calls Tryz.prog 60 #[.pointer (some ⟨lb, 0, none⟩), .int .i64 2] w1 (Did W w0 lb fb s (.tuple #[]) { x with pos := x.pos + 2 })) := Lib.hid (fun h2 w1 h1 => skipNR h1 2 2 rfl (by omega))
  rw [hc] at HPK HSK
  have HC := Lib.hid h; have HX := Lib.hid hx
  clear h hx hr
  go_enter Tryz.func52, Tryz.ntmps52
  go_wp2_with fail
  refine (HE.out _ HC.out).mono ?_
  rintro e w1 ⟨rfl, hC1⟩
  clear HC; have HC := Lib.hid hC1; clear hC1
  go_wp2_with fail
  refine (HPK.out _ HC.out).mono ?_
  rintro e w1 ⟨rfl, hC1⟩
  clear HC; have HC := Lib.hid hC1; clear hC1
  go_wp2_with fail
  refine (HSK.out _ HC.out).mono ?_
  rintro e w1 ⟨rfl, hC1⟩
  clear HC; have HC := Lib.hid hC1; clear hC1
  have hcv := run_kind_one (w1.alloc (.cells #[Value.int .u8 36] 5)) w1.heap.size 36 (World.cell?_alloc_new (w := w1) #[Value.int .u8 36] 5 0)
  have HC2 : Hid (Cur W w0 lb fb s { x with pos := x.pos + 1 } (w1.alloc (.cells #[Value.int .u8 36] 5))) := Lib.hid (HC.out.keep ((Below.refl _ _).alloc (Nat.le_refl _) _))
  clear HC; have HC := HC2; clear HC2
  have k1 := (HC.out.lex.cell 1).1; have f1 := (HC.out.lex.cell 1).2
  simp only [LexSt.cells, List.getElem?_toArray, List.getElem?_cons_succ, List.getElem?_cons_zero] at k1
  go_wp2_with fail
  go_end0
  refine ReadN.of_ok (by show x.pos + 1 ≤ s.size; omega) (fun _ => by show 0 < 1; omega) ?_
  rw [took_sym x HX.out]
  exact ⟨rfl, HC.out.set 1 _ _ rfl (by show x.pos + 1 ≤ s.size; omega)⟩
end Go.Proofs.YtcelnnjjakiehaaGreatDoor
