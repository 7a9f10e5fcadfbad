/-
  The lexer as its methods find it and leave it; its errors; blanks and comments.
  Numbers: the plain law of consumeNumber; a token, and how a method that reads one ends.
-/
import Derived.Test.YtcelnnjjakiehaaGreatDoorModel
import Derived.Test.YtcelnnjjakiehaaGreatDoorPos
import Derived.WalkLawsBesides
import Derived.Deep.LoopGhost
import Derived.Deep.CutBlock
import Derived.Deep.DeepCutAuto
namespace Go.Proofs.YtcelnnjjakiehaaGreatDoor
open Go.RowKit
set_option linter.unusedVariables false
set_option maxRecDepth 20000
set_option maxHeartbeats 1000000

/-- the package's tables as they are laid -/
structure Laid (w : World) : Prop where
  tab : Tab w
  utf : Lib.Utf8Tabs 2 3 w
  white : Lib.WhiteTab 1 w
  syn : ∃ ev, w.cell? ⟨4, 0, none⟩ = some ev ∧ (ev = .nilIface ∨ ∃ te pe, ev = .iface te pe)
theorem Laid.below {w w' : World} (h : Laid w) (hb : Below w.heap.size w w') : Laid w' :=
  ⟨h.tab.below hb, Utf8Tabs_below h.utf hb, WhiteTab_below h.white hb, by
    obtain ⟨ev, h1, h2⟩ := h.syn
    exact ⟨ev, (hb.cell (p := ⟨4, 0, none⟩) (World.block_lt_of_cell? _ _ h1)).trans h1, h2⟩⟩

/-- the lexer x of the text s in block lb, its file in fb, at a world w that came from w0 -/
structure Cur (W w0 : World) (lb fb : Nat) (s : ByteArray) (x : LexSt) (w : World) : Prop where
  laid : Laid W
  low : Below W.heap.size W w
  hlb : W.heap.size ≤ lb
  hfb : W.heap.size ≤ fb
  sz : s.size ≤ 1048576
  pos : x.pos ≤ s.size
  lex : LexAt w lb fb s x
  grow : w0.grownBy w (some lb)
theorem below_of_grown {W w w' : World} {lb : Nat} (h : Below W.heap.size W w) (hl : W.heap.size ≤ lb) (hg : w.grownBy w' (some lb)) : Below W.heap.size W w' := by
  obtain ⟨g1, g2, g3, g4, g5⟩ := hg
  exact h.trans ⟨g1, g2, g3, g4, fun k hk => g5 k (Nat.lt_of_lt_of_le hk h.size) (by intro e; injection e with e; omega)⟩
theorem Cur.here {W w0 w : World} {lb fb : Nat} {s : ByteArray} {x : LexSt} (h : Cur W w0 lb fb s x w) : Laid w := h.laid.below h.low
theorem Cur.keep {W w0 w w' : World} {lb fb : Nat} {s : ByteArray} {x : LexSt} (h : Cur W w0 lb fb s x w) (hb : Below w.heap.size w w') : Cur W w0 lb fb s x w' :=
  ⟨h.laid, h.low.trans (hb.mono h.low.size), h.hlb, h.hfb, h.sz, h.pos, h.lex.grown (grownBy_below hb none) (by simp) (by simp), grownBy_trans h.grow (grownBy_below hb _)⟩
theorem Cur.drewN {W w0 w : World} {lb fb : Nat} {s : ByteArray} {x : LexSt} (h : Cur W w0 lb fb s x w) (n : Nat) : Cur W w0 lb fb s x (w.drewN n) :=
  ⟨h.laid, ⟨h.low.os, h.low.tape, h.low.output, h.low.size, h.low.block⟩, h.hlb, h.hfb, h.sz, h.pos, h.lex.drewN n, grownBy_trans h.grow (grownBy_drewN _ _ _)⟩
theorem Cur.turn {W w0 w w' : World} {lb fb : Nat} {s : ByteArray} {x y : LexSt} (h : Cur W w0 lb fb s x w) (hl : LexAt w' lb fb s y) (hp : y.pos ≤ s.size) (hg : w.grownBy w' (some lb)) : Cur W w0 lb fb s y w' :=
  ⟨h.laid, below_of_grown h.low h.hlb hg, h.hlb, h.hfb, h.sz, hp, hl, grownBy_trans h.grow hg⟩
theorem Cur.set {W w0 w : World} {lb fb : Nat} {s : ByteArray} {x : LexSt} (h : Cur W w0 lb fb s x w) (k : Nat) (v : Value) (y : LexSt) (hy : (x.cells fb).setIfInBounds k v = y.cells fb) (hp : y.pos ≤ s.size) : Cur W w0 lb fb s y (w.setCell ⟨lb, k, none⟩ v) :=
  h.turn (h.lex.set k v y hy) hp (grownBy_set w lb k v)
/-- the same, seen from itself -/
theorem Cur.own {W w0 w : World} {lb fb : Nat} {s : ByteArray} {x : LexSt} (h : Cur W w0 lb fb s x w) : Cur W w lb fb s x w :=
  ⟨h.laid, h.low, h.hlb, h.hfb, h.sz, h.pos, h.lex, grownBy_refl _ _⟩
theorem Cur.len {W w0 w : World} {lb fb : Nat} {s : ByteArray} {x : LexSt} (h : Cur W w0 lb fb s x w) : (s.data.toList.drop x.pos).length = s.size - x.pos := by
  rw [List.length_drop, ba_toList_length]
/-- what a method hands back and how it leaves the lexer -/
def Did (W w0 : World) (lb fb : Nat) (s : ByteArray) (v : Value) (y : LexSt) (e : Ending) (w' : World) : Prop := e = .returned v ∧ Cur W w0 lb fb s y w'

section
variable {W w0 w : World} {lb fb : Nat} {s : ByteArray} {x : LexSt}
theorem eofR (h : Cur W w0 lb fb s x w) : Calls Tryz.prog 57 #[.pointer (some ⟨lb, 0, none⟩)] w (Did W w0 lb fb s (.bool (decide (s.size ≤ x.pos))) x) := by
  refine (eof_any lb fb x.pos s w h.lex.rd).mono ?_
  rintro e w' ⟨rfl, n, rfl⟩
  exact ⟨rfl, h.drewN n⟩
theorem peekOkR (h : Cur W w0 lb fb s x w) (k : Nat) (i : Int) (hi : i = k) (hk : k ≤ 9000000000) : Calls Tryz.prog 63 #[.pointer (some ⟨lb, 0, none⟩), .int .i64 i] w (Did W w0 lb fb s (.bool (decide (k < (s.data.toList.drop x.pos).length))) x) := by
  subst hi
  have hp := h.pos; have hz := h.sz
  refine (peekOk_any lb fb x.pos s _ w h.lex.rd (by omega) (by omega) (by omega)).mono ?_
  rintro e w' ⟨rfl, n, rfl⟩
  refine ⟨ret_bool ?_, h.drewN n⟩
  rw [h.len, Int.toNat_natCast]
  apply decide_eq_decide.2; omega
theorem peekR (h : Cur W w0 lb fb s x w) (k : Nat) (i : Int) (hi : i = k) (hk : k < (s.data.toList.drop x.pos).length) : Calls Tryz.prog 65 #[.pointer (some ⟨lb, 0, none⟩), .int .i64 i] w (Did W w0 lb fb s (.int .u8 (byteAt (s.data.toList.drop x.pos) k)) x) := by
  subst hi
  rw [h.len] at hk
  have hp := h.pos; have hz := h.sz
  refine (peek_any lb fb x.pos s _ w h.lex.rd (by omega) (by rw [Int.toNat_natCast]; omega) (by omega)).mono ?_
  rintro e w' ⟨rfl, n, rfl⟩
  refine ⟨ret_int ?_, h.drewN n⟩
  rw [byteAt_drop, Int.toNat_natCast]
theorem peekIsR (h : Cur W w0 lb fb s x w) (k : Nat) (i c : Int) (hi : i = k) (hk : k ≤ 9000000000) : Calls Tryz.prog 61 #[.pointer (some ⟨lb, 0, none⟩), .int .i64 i, .int .u8 c] w (Did W w0 lb fb s (.bool (isAt (s.data.toList.drop x.pos) k c)) x) := by
  subst hi
  have hp := h.pos; have hz := h.sz
  refine (peekIs_any lb fb x.pos s _ c w h.lex.rd (by omega) (by omega) (by omega) (by omega)).mono ?_
  rintro e w' ⟨rfl, n, rfl⟩
  refine ⟨ret_bool ?_, h.drewN n⟩
  rw [isAt_drop, Int.toNat_natCast]
theorem sliceR (h : Cur W w0 lb fb s x w) (a b : Nat) (i j : Int) (hi : i = a) (hj : j = b) (hab : a ≤ b) (hb : b ≤ 9000000000) (ha : a ≤ (s.data.toList.drop x.pos).length) : Calls Tryz.prog 76 #[.pointer (some ⟨lb, 0, none⟩), .int .i64 i, .int .i64 j] w (Did W w0 lb fb s (.string ⟨(sub (s.data.toList.drop x.pos) a b).toArray⟩) x) := by
  subst hi hj
  rw [h.len] at ha
  have hp := h.pos; have hz := h.sz
  refine (slice_any lb fb x.pos s _ _ w h.lex.rd (by omega) (by omega) (by omega) (by rw [Int.toNat_natCast]; omega) (by omega)).mono ?_
  rintro e w' ⟨rfl, n, rfl⟩
  refine ⟨ret_str ?_, h.drewN n⟩
  rw [Int.toNat_natCast, Int.toNat_natCast, sub_drop]
theorem skipR (h : Cur W w0 lb fb s x w) (hp : x.pos < s.size) : Calls Tryz.prog 66 #[.pointer (some ⟨lb, 0, none⟩)] w (Did W w0 lb fb s (.int .u8 (byteAt s.data.toList x.pos)) { x with pos := x.pos + 1 }) := by
  have hz := h.sz
  refine (skip_any lb fb s x w h.lex hp (by omega)).mono ?_
  rintro e w' ⟨rfl, hl, hg⟩
  exact ⟨rfl, h.turn hl hp hg⟩
theorem skipNR (h : Cur W w0 lb fb s x w) (k : Nat) (i : Int) (hi : i = k) (hk : x.pos + k ≤ s.size) : Calls Tryz.prog 60 #[.pointer (some ⟨lb, 0, none⟩), .int .i64 i] w (Did W w0 lb fb s (.tuple #[]) { x with pos := x.pos + k }) := by
  subst hi
  have hz := h.sz
  refine (skipN_any lb fb s x _ w h.lex (by omega) (by omega) (by omega)).mono ?_
  rintro e w' ⟨rfl, hl, hg⟩
  rw [Int.toNat_natCast] at hl
  exact ⟨rfl, h.turn hl hk hg⟩
end

theorem cell_new (w : World) (a : Array Value) (T k : Nat) (v : Value) (h : a[k]? = some v) : (w.alloc (.cells a T)).cell? ⟨w.heap.size, k, none⟩ = some v := by
  have := heap_alloc_new w (.cells a T)
  unfold World.cell?
  rw [this]; exact h
theorem cell_grown {w w' : World} {r : Option Nat} (hg : w.grownBy w' r) (p : Addr) (v : Value) (hp : some p.block ≠ r) (h : w.cell? p = some v) : w'.cell? p = some v := by
  have hb := hg.block p.block (World.block_lt_of_cell? _ _ h) hp
  rw [← h]
  unfold World.cell?
  rw [hb]
/-- an error stands in block EB, its place is p; what there was at w0 is as it was, but for the lexer's and its file's blocks -/
def ErrAt (W w0 : World) (lb fb : Nat) (w' : World) (EB : Nat) (p : Nat) : Prop :=
  ∃ PB, w'.cell? ⟨EB, 1, none⟩ = some (.pointer (some ⟨PB, 0, none⟩)) ∧ w'.cell? ⟨PB, 1, none⟩ = some (.int .i64 p) ∧ W.heap.size ≤ EB ∧ W.heap.size ≤ PB ∧ Below W.heap.size W w' ∧
    w0.heap.size ≤ w'.heap.size ∧ ∀ k, k < w0.heap.size → k ≠ lb → k ≠ fb → w'.heap[k]? = w0.heap[k]?
/-- a fault: the panic's value is an error at p -/
def Fault (W w0 : World) (lb fb : Nat) (p : Nat) (e : Ending) (w' : World) : Prop :=
  ∃ EB, e = .panicked [{ v := .iface 72 (.pointer (some ⟨EB, 0, none⟩)), recovered := false }] ∧ ErrAt W w0 lb fb w' EB p
theorem ErrAt.from {W w0 w1 w' : World} {lb fb EB p : Nat} (h : ErrAt W w1 lb fb w' EB p) (hg : w0.grownBy w1 (some lb)) : ErrAt W w0 lb fb w' EB p := by
  obtain ⟨PB, h1, h2, h3, h4, h5, h6, h7⟩ := h
  exact ⟨PB, h1, h2, h3, h4, h5, Nat.le_trans hg.size h6, fun k hk hl hf => (h7 k (Nat.lt_of_lt_of_le hk hg.size) hl hf).trans (hg.block k hk (fun e => hl (Option.some.inj e)))⟩
theorem Fault.from {W w0 w1 w' : World} {lb fb p : Nat} {e : Ending} (h : Fault W w1 lb fb p e w') (hg : w0.grownBy w1 (some lb)) : Fault W w0 lb fb p e w' := by
  obtain ⟨EB, h1, h2⟩ := h
  exact ⟨EB, h1, h2.from hg⟩
theorem err_frame {w0 w w1 : World} {lb fb : Nat} (h1 : w0.grownBy w (some lb)) (h2 : w.grownBy w1 (some fb)) (o : Obj) : w0.heap.size ≤ (w1.alloc o).heap.size ∧ ∀ k, k < w0.heap.size → k ≠ lb → k ≠ fb → (w1.alloc o).heap[k]? = w0.heap[k]? := by
  have s1 := h1.size
  have s2 := h2.size
  have s3 : w1.heap.size ≤ (w1.alloc o).heap.size := ((Below.refl w1.heap.size w1).alloc (Nat.le_refl _) o).size
  refine ⟨by omega, fun k hk hl hf => ?_⟩
  have e1 : (w1.alloc o).heap[k]? = w1.heap[k]? := Below.heap_alloc w1 o k (by omega)
  rw [e1, h2.block k (by omega) (fun e => hf (Option.some.inj e)), h1.block k hk (fun e => hl (Option.some.inj e))]
theorem errorfAt_any {W w0 w : World} {lb fb : Nat} {s : ByteArray} {x : LexSt} (h : Cur W w0 lb fb s x w) (p q : Nat) (msg : ByteArray) (hpq : p ≤ q) (hq : q ≤ s.size) :
    Calls Tryz.prog 89 #[.pointer (some ⟨lb, 0, none⟩), .int .i64 p, .int .i64 q, .string msg] w fun e w' => ∃ EB, e = .returned (.pointer (some ⟨EB, 0, none⟩)) ∧ ErrAt W w0 lb fb w' EB p := by
  have hc : ∀ w1, Cur W w0 lb fb s x w1 → Calls _ _ _ w1 _ := fun w1 h1 => position_any fb p q ⟨#[]⟩ s W w1 h1.laid.tab h1.low h1.hfb h1.sz hpq hq (.inl h1.lex.file)
  unfold PosMade at hc
  generalize srcText s.data.toList p q = src at *
  generalize lc (s.data.toList.take p) = A at *
  generalize lc (s.data.toList.take q) = Z at *
  have HC := Lib.hid hc; clear hc
  have hk : ∀ o, Cur W w0 lb fb s x (w.alloc o) := fun o => h.keep ((Below.refl _ _).alloc (Nat.le_refl _) _)
  obtain ⟨c0, c9, c1⟩ := h.lex.rd
  have hlow := h.low.size
  have HK := Lib.hid hk; have H := Lib.hid h; clear hk h
  go_enter Tryz.func89, Tryz.ntmps89
  go_wp2_with fail
  refine (HC.out _ H.out).mono ?_
  rintro e w1 ⟨N, rfl, hN, hcell, _, hg⟩
  have hlow1 : Below W.heap.size W w1 := below_of_grown H.out.low H.out.hfb hg
  have hcell1 : w1.cell? ⟨N, 1, none⟩ = some (.int .i64 p) := by simp [World.cell?, hcell]
  have hlt : N < w1.heap.size := (Array.getElem?_eq_some_iff.1 hcell).1
  have HL1 := Lib.hid hlow1; have HC1 := Lib.hid hcell1; have HF := Lib.hid (fun o => err_frame H.out.grow hg o)
  clear hlow1 hcell1 hcell hg
  go_wp2_with fail
  go_ret
  have hs := HL1.out.size
  refine ⟨_, rfl, N, ?_, ?_, ?_, ?_, ?_, (HF.out _).1, (HF.out _).2⟩
  · exact cell_new w1 _ _ _ _ rfl
  · rw [World.cell?_alloc_old _ _ _ (Nat.ne_of_lt hlt)]; exact HC1.out
  · exact hs
  · omega
  · exact HL1.out.alloc hs _
theorem errorf_any {W w0 w : World} {lb fb : Nat} {s : ByteArray} {x : LexSt} (h : Cur W w0 lb fb s x w) (msg : ByteArray) :
    Calls Tryz.prog 77 #[.pointer (some ⟨lb, 0, none⟩), .string msg] w fun e w' => ∃ EB, e = .returned (.pointer (some ⟨EB, 0, none⟩)) ∧ ErrAt W w0 lb fb w' EB x.pos := by
  have hc : ∀ w1, Cur W w0 lb fb s x w1 → Calls _ _ _ w1 _ := fun w1 h1 => position_any fb x.pos x.pos ⟨#[]⟩ s W w1 h1.laid.tab h1.low h1.hfb h1.sz (Nat.le_refl _) h1.pos (.inl h1.lex.file)
  unfold PosMade at hc
  generalize srcText s.data.toList x.pos x.pos = src at *
  generalize lc (s.data.toList.take x.pos) = A at *
  have HC := Lib.hid hc; clear hc
  obtain ⟨c0, c9, c1⟩ := h.lex.rd
  have hlow := h.low.size
  have H := Lib.hid h; clear h
  go_enter Tryz.func77, Tryz.ntmps77
  have hne := H.out.lex.ne
  go_wp2_with fail
  go_region_held3 (fun w' => w'.cell? ⟨lb, 0, none⟩ = some (.pointer (some ⟨fb, 0, none⟩)) ∧ w'.cell? ⟨lb, 9, none⟩ = some (.int .i64 x.pos)) (first | go_keep | exact ⟨by assumption, by assumption⟩)
    (first | (go_at_call 91; refine (HC.out _ (H.out.drewN 1)).mono ?_; rintro e w1 ⟨N, rfl, hN, hcell, _, hg⟩; have k0 := cell_grown hg ⟨lb, 0, none⟩ _ (fun e => hne (Option.some.inj e)) c0; have k9 := cell_grown hg ⟨lb, 9, none⟩ _ (fun e => hne (Option.some.inj e)) c9))
  have hN' : w.heap.size ≤ N := hN
  have hlow1 : Below W.heap.size W w1 := below_of_grown (H.out.drewN 1).low H.out.hfb (by assumption)
  have hlt : N < w1.heap.size := (Array.getElem?_eq_some_iff.1 hcell).1
  have hcell1 : w1.cell? ⟨N, 1, none⟩ = some (.int .i64 x.pos) := by simp [World.cell?, hcell]
  have HF : Hid (∀ o, w0.heap.size ≤ (w1.alloc o).heap.size ∧ ∀ k, k < w0.heap.size → k ≠ lb → k ≠ fb → (w1.alloc o).heap[k]? = w0.heap[k]?) := Lib.hid (fun o => err_frame (H.out.drewN 1).grow (by assumption) o)
  have HL1 := Lib.hid hlow1; have HC1 := Lib.hid hcell1
  clear hlow1 hcell1 hcell
  go_wp2_with fail
  go_ret
  have hs := HL1.out.size
  refine ⟨_, rfl, N, ?_, ?_, ?_, ?_, ?_, (HF.out _).1, (HF.out _).2⟩
  · exact cell_new w1 _ _ _ _ rfl
  · rw [World.cell?_alloc_old _ _ _ (Nat.ne_of_lt hlt)]; exact HC1.out
  · exact hs
  · omega
  · exact HL1.out.alloc hs _
theorem panicfAt_any {W w0 w : World} {lb fb : Nat} {s : ByteArray} {x : LexSt} (h : Cur W w0 lb fb s x w) (p q : Nat) (msg : ByteArray) (hpq : p ≤ q) (hq : q ≤ s.size) :
    Calls Tryz.prog 83 #[.pointer (some ⟨lb, 0, none⟩), .int .i64 p, .int .i64 q, .string msg] w (Fault W w0 lb fb p) := by
  have HC := Lib.hid (errorfAt_any h p q msg hpq hq); clear h
  go_enter Tryz.func83, Tryz.ntmps83
  go_wp2_with fail
  refine HC.out.mono ?_
  rintro e w1 ⟨EB, rfl, hE⟩
  have HE := Lib.hid hE; clear hE
  go_wp2_with fail
  exact ⟨rfl, EB, rfl, HE.out⟩
theorem panicf_any {W w0 w : World} {lb fb : Nat} {s : ByteArray} {x : LexSt} (h : Cur W w0 lb fb s x w) (msg : ByteArray) :
    Calls Tryz.prog 85 #[.pointer (some ⟨lb, 0, none⟩), .string msg] w (Fault W w0 lb fb x.pos) := by
  have HC := Lib.hid (errorf_any h msg); clear h
  go_enter Tryz.func85, Tryz.ntmps85
  go_wp2_with fail
  refine HC.out.mono ?_
  rintro e w1 ⟨EB, rfl, hE⟩
  have HE := Lib.hid hE; clear hE
  go_wp2_with fail
  exact ⟨rfl, EB, rfl, HE.out⟩

theorem spLen_step (r : List UInt8) (h : spOne r ≠ 0) : spLen r = spOne r + spLen (r.drop (spOne r)) := by
  rw [spLen, dif_neg h]
theorem spLen_stop (r : List UInt8) (h : spOne r = 0) : spLen r = 0 := by
  rw [spLen, dif_pos h]
theorem spaceZ (n : Nat) : Lib.isSpaceZ (n : Int) = Lib.isSpaceR n := by
  unfold Lib.isSpaceZ; rw [if_pos (by omega)]; rfl
theorem dec_bd (r : List UInt8) : (dec r).1 ≤ 2147483647 := by
  have hb : ∀ k : Nat, ((⟨r.toArray⟩ : ByteArray).get! (0 + k)).toNat < 256 := fun k => UInt8.toNat_lt _
  unfold dec Utf8.decode Utf8.runeError
  simp only
  repeat' split
  all_goals (simp only; have h0 := hb 0; have h1 := hb 1; have h2 := hb 2; have h3 := hb 3; omega)
theorem skipSpaces_any {W w0 w : World} {lb fb : Nat} {s : ByteArray} {x : LexSt} (h : Cur W w0 lb fb s x w) :
    Calls Tryz.prog 49 #[.pointer (some ⟨lb, 0, none⟩)] w (Did W w0 lb fb s (.tuple #[]) { x with pos := x.pos + spLen (s.data.toList.drop x.pos) }) := by
  have H := Lib.hid h; clear h
  go_enter Tryz.func49, Tryz.ntmps49
  go_wp2_with fail
  go_loopg [] (s.size - x.pos) (fun g wx => ∃ y : Nat, Cur W w0 lb fb s { x with pos := y } wx ∧ x.pos ≤ y ∧ g = s.size - y ∧ x.pos + spLen (s.data.toList.drop x.pos) = y + spLen (s.data.toList.drop y))
  case atStart => exact ⟨x.pos, H.out, Nat.le_refl _, rfl, rfl⟩
  case round =>
    obtain ⟨y, hC, hy1, rfl, hy2⟩ := hrel
    have hpos : y ≤ s.size := hC.pos
    by_cases hlt : s.size ≤ y
    · have HE := eofR hC
      rw [show decide (s.size ≤ y) = true from by simpa using hlt] at HE
      have HE := Lib.hid HE
      have hnil : s.data.toList.drop y = [] := List.drop_eq_nil_of_le (by rw [ba_toList_length]; exact hlt)
      rw [hnil, spLen_stop [] rfl, Nat.add_zero] at hy2
      have HY := Lib.hid hy2
      clear hC hy2 hnil
      go_wp2_with fail
      refine HE.out.mono ?_
      rintro e w1 ⟨rfl, hC1⟩
      have HC1 := Lib.hid hC1; clear hC1
      go_wp2_with fail
      go_end0
      refine ⟨rfl, ?_⟩
      rw [HY.out]; exact HC1.out
    · have hrne : s.data.toList.drop y ≠ [] := by
        intro e
        have := congrArg List.length e
        rw [List.length_drop, ba_toList_length] at this
        simp at this; omega
      have hdg : Lib.decodeGo (s.extract y s.size) = dec (s.data.toList.drop y) := by
        rw [dec_go _ (by rw [ByteArray.size_extract]; omega), Lib.extract_data]
        congr 1
        exact List.take_of_length_le (by rw [List.length_drop, ba_toList_length]; exact Nat.le_refl _)
      have hrb := dec_bd (s.data.toList.drop y)
      have hrl := dec_le _ hrne
      rw [List.length_drop, ba_toList_length] at hrl
      have hsz := hC.sz
      have HD : Hid (∀ w', Laid w' → Calls Tryz.prog 58 #[.string (s.extract y s.size)] w' fun e w'' => e = .returned (.tuple #[.int .i32 ((dec (s.data.toList.drop y)).1 : Int), .int .i64 ((dec (s.data.toList.drop y)).2 : Int)]) ∧ Below w'.heap.size w' w'') := by
        refine Lib.hid (fun w' hw => ?_)
        have := Tryz.utf8_DecodeRuneInString (s.extract y s.size) w' hw.utf
        rw [hdg] at this; exact this
      have HS : Hid (∀ w', Laid w' → Calls Tryz.prog 59 #[.int .i32 ((dec (s.data.toList.drop y)).1 : Int)] w' fun e w'' => e = .returned (.bool (Lib.isSpaceR (dec (s.data.toList.drop y)).1)) ∧ ∃ q, w'' = w'.drewN q) := by
        refine Lib.hid (fun w' hw => ?_)
        have := Tryz.unicode_IsSpace_any_d ((dec (s.data.toList.drop y)).1 : Int) w' (by omega) (by omega) hw.white
        rw [spaceZ] at this; exact this
      have hone : spOne (s.data.toList.drop y) = if Lib.isSpaceR (dec (s.data.toList.drop y)).1 then (dec (s.data.toList.drop y)).2 else 0 := by
        unfold spOne; rw [if_neg hrne]
      have hdp := dec_pos (s.data.toList.drop y)
      have hst := spLen_step (s.data.toList.drop y)
      have hsp := spLen_stop (s.data.toList.drop y)
      have HE := eofR hC
      rw [show decide (s.size ≤ y) = false from by simpa using hlt] at HE
      have HE := Lib.hid HE
      have HX := Lib.hid (⟨hone, hst, hsp, hy2⟩ : _ ∧ _ ∧ _ ∧ _)
      clear hC hy2 hone hst hsp hdg hrne
      generalize (dec (s.data.toList.drop y)).1 = rn at *
      generalize (dec (s.data.toList.drop y)).2 = wd at *
      have hlt' : decide (s.size < y) = false := by simp; omega
      go_wp2_with fail
      refine HE.out.mono ?_
      rintro e w1 ⟨rfl, hC1⟩
      obtain ⟨c0, c9, c1⟩ := hC1.lex.rd
      have HC1 := Lib.hid hC1; clear hC1
      go_wp2_with fail
      go_region_held3 (fun w' => w'.cell? ⟨lb, 0, none⟩ = some (.pointer (some ⟨fb, 0, none⟩)) ∧ w'.cell? ⟨lb, 9, none⟩ = some (.int .i64 y) ∧ w'.cell? ⟨fb, 1, none⟩ = some (.string s)) (first | go_keep | exact ⟨by assumption, by assumption, by assumption⟩)
        (first | (go_at_call 58; refine (HD.out _ (HC1.out.drewN 1).here).mono ?_; rintro e w2 ⟨rfl, hb⟩; obtain ⟨k0, k9, k1⟩ := ((HC1.out.drewN 1).keep hb).lex.rd))
      have HC2 := Lib.hid ((HC1.out.drewN 1).keep hb)
      have hs := HS.out w2 HC2.out.here
      clear k0 k9 k1 hb
      obtain ⟨x1, x2, x3, x4⟩ := HX.out
      cases hsp : Lib.isSpaceR rn with
      | true =>
        rw [hsp] at hs x1
        rw [if_pos rfl] at x1
        rw [x1] at x2
        have x5 := x2 (by omega)
        rw [List.drop_drop] at x5
        have HS2 := Lib.hid hs; have X5 := Lib.hid x5; have X4 := Lib.hid x4
        clear hs x1 x2 x3 x4 x5 hsp
        go_wp2_with fail
        refine HS2.out.mono ?_
        rintro e w3 ⟨rfl, q, rfl⟩
        go_wp2_with fail
        refine (skipNR (HC2.out.drewN q) wd _ rfl (show y + wd ≤ s.size by omega)).mono ?_
        rintro e w3 ⟨rfl, hC3⟩
        have HC3 := Lib.hid hC3; clear hC3
        go_wp2_with fail
        go_roundg (s.size - (y + wd))
        case measure => omega
        case rel => exact ⟨y + wd, HC3.out, by omega, rfl, by have := X4.out; have := X5.out; omega⟩
      | false =>
        rw [hsp] at hs x1
        rw [if_neg (by decide)] at x1
        rw [x3 x1] at x4
        have HS2 := Lib.hid hs; have X4 := Lib.hid x4
        clear hs x1 x2 x3 x4 hsp
        go_wp2_with fail
        refine HS2.out.mono ?_
        rintro e w3 ⟨rfl, q, rfl⟩
        go_wp2_with fail
        refine bodyPost_ret (results_none rfl _ _ _) rfl ⟨rfl, ?_⟩
        rw [X4.out, Nat.add_zero]; exact HC2.out.drewN q
end Go.Proofs.YtcelnnjjakiehaaGreatDoor
namespace Go.Proofs.YtcelnnjjakiehaaGreatDoor
open Go.RowKit
set_option linter.unusedVariables false
set_option maxRecDepth 20000
set_option maxHeartbeats 1000000

/-- where an exponent's digits begin -/
def expAt (r : List UInt8) (i : Nat) : Nat := if isAt r (i + 1) 43 || isAt r (i + 1) 45 then i + 2 else i + 1
/-- one step of a number: the place, whether it is an integer so far, whether its exponent has begun -/
def numStep (r : List UInt8) (h : Bool) (i : Nat) (it ex : Bool) : Option (Nat × Bool × Bool) :=
  if i < r.length then
    if !h && dig (byteAt r i) then some (i + 1, it, ex)
    else if h && hexd (byteAt r i) then some (i + 1, it, ex)
    else if !h && !ex && it && decide (byteAt r i = 46) then some (i + 1, false, ex)
    else if !h && !ex && (decide (byteAt r i = 69) || decide (byteAt r i = 101)) then
      if decide (expAt r i < r.length) && dig (byteAt r (expAt r i)) then some (expAt r i, false, true) else none
    else none
  else none
def numRun (r : List UInt8) (h : Bool) : Nat → Nat → Bool → Bool → Nat × Bool
  | 0, i, it, _ => (i, it)
  | n + 1, i, it, ex => match numStep r h i it ex with | none => (i, it) | some (j, it', ex') => numRun r h n j it' ex'
def numHex (r : List UInt8) : Bool := isAt r 0 48 && (isAt r 1 120 || isAt r 1 88)
def numEnd (r : List UInt8) : Nat × Bool := numRun r (numHex r) (r.length + 1) (if numHex r then 2 else 0) true false
/-- a token: its kind, its text, its base, how many bytes it has, whether a field name may follow (if it says) -/
structure Tk where
  kind : List UInt8
  text : List UInt8
  base : Int
  len : Nat
  dot : Option Bool
/-- a token, or a fault with its places -/
inductive Rs where
  | ok (t : Tk)
  | err (p e : Nat)
def kBad : List UInt8 := [60, 98, 97, 100, 62]
def kInt : List UInt8 := [60, 105, 110, 116, 62]
def kFloat : List UInt8 := [60, 102, 108, 111, 97, 116, 62]
def kIdent : List UInt8 := [60, 105, 100, 101, 110, 116, 62]
def kParam : List UInt8 := [60, 112, 97, 114, 97, 109, 62]
def kString : List UInt8 := [60, 115, 116, 114, 105, 110, 103, 62]
def kBytes : List UInt8 := [60, 98, 121, 116, 101, 115, 62]
def kEof : List UInt8 := [60, 101, 111, 102, 62]
def number (np : Bool) (r : List UInt8) : Rs :=
  let base : Int := if (numEnd r).2 then (if numHex r then 16 else 10) else 0
  if (numEnd r).1 < r.length ∧ idPart (byteAt r (numEnd r).1) then
    if np then .ok ⟨kBad, [], base, (numEnd r).1, none⟩ else .err (numEnd r).1 (numEnd r).1
  else .ok ⟨if (numEnd r).2 then kInt else kFloat, [], base, (numEnd r).1, none⟩
theorem numStep_lt (r : List UInt8) (h it ex : Bool) (i j : Nat) (it' ex' : Bool) (hs : numStep r h i it ex = some (j, it', ex')) : i < j ∧ j ≤ r.length := by
  unfold numStep at hs
  split at hs
  · split at hs
    · cases hs; omega
    · split at hs
      · cases hs; omega
      · split at hs
        · cases hs; omega
        · split at hs
          · split at hs
            · next hq =>
              rw [Bool.and_eq_true, decide_eq_true_eq] at hq
              cases hs
              have : i < expAt r i := by unfold expAt; split <;> omega
              exact ⟨this, Nat.le_of_lt hq.1⟩
            · cases hs
          · cases hs
  · cases hs

/-- the lexer x has read the token t -/
def LexSt.took (x : LexSt) (t : Tk) : LexSt := { x with kind := ⟨t.kind.toArray⟩, text := ⟨t.text.toArray⟩, base := t.base, pos := x.pos + t.len, dot := t.dot.getD x.dot }
theorem took_eq (x : LexSt) (hx : x.text = ⟨#[]⟩) (k : List UInt8) (b : Int) (n : Nat) : x.took ⟨k, [], b, n, none⟩ = { x with kind := ⟨k.toArray⟩, base := b, pos := x.pos + n } := by
  cases x
  simp only at hx
  subst hx
  rfl
/-- how a method that reads a token ends -/
def Read (W w0 : World) (lb fb : Nat) (s : ByteArray) (x : LexSt) (rs : Rs) (e : Ending) (w' : World) : Prop :=
  match rs with
  | .ok t => x.pos + t.len ≤ s.size → Did W w0 lb fb s (.tuple #[]) (x.took t) e w'
  | .err p q => p ≤ q → x.pos + q ≤ s.size → Fault W w0 lb fb (x.pos + p) e w'

/-- how a number's rest goes on -/
def NumAt (r : List UInt8) (h : Bool) (R : Nat × Bool) (k : Nat) (it ex : Bool) : Prop :=
  ∃ n, r.length + 1 ≤ n + k ∧ numRun r h n k it ex = R
theorem NumAt.stop {r : List UInt8} {h : Bool} {R : Nat × Bool} {k : Nat} {it ex : Bool} (hN : NumAt r h R k it ex) (hs : numStep r h k it ex = none) : R = (k, it) := by
  obtain ⟨n, h1, h2⟩ := hN
  cases n with
  | zero => rw [← h2]; rfl
  | succ n => rw [← h2, numRun, hs]
theorem NumAt.go {r : List UInt8} {h : Bool} {R : Nat × Bool} {k : Nat} {it ex : Bool} (hN : NumAt r h R k it ex) (hk : k ≤ r.length) {j : Nat} {it' ex' : Bool} (hs : numStep r h k it ex = some (j, it', ex')) : NumAt r h R j it' ex' ∧ k < j ∧ j ≤ r.length := by
  obtain ⟨n, h1, h2⟩ := hN
  have h3 := numStep_lt _ _ _ _ _ _ _ _ hs
  cases n with
  | zero => omega
  | succ n => rw [numRun, hs] at h2; exact ⟨⟨n, by omega, h2⟩, h3⟩
end Go.Proofs.YtcelnnjjakiehaaGreatDoor
