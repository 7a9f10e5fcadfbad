/-
  The contracts of ZzNext, ZzDot and impl.LexFrom, where a token is read.
-/
import Derived.Test.YtcelnnjjakiehaaGreatDoorLaw1
namespace Go.Proofs.YtcelnnjjakiehaaGreatDoor
open Go.RowKit
set_option linter.unusedVariables false
set_option maxRecDepth 1000000
set_option maxHeartbeats 4000000

theorem byte_range2 {x : Int} (h : (Lit.int .u8 x).wf = true) : 0 ≤ x ∧ x ≤ 255 := by
  have h1 : IntKind.u8.min = 0 := rfl
  have h2 : IntKind.u8.max = 255 := rfl
  simp only [Lit.wf, Bool.and_eq_true, decide_eq_true_eq] at h
  omega
/-- a token's eight cells in a block of its own, or a row's first token -/
structure TkAt (w : World) (b : Nat) (t : TkF) (cv : Value) : Prop where
  lt : b < w.heap.size
  at_ : ∀ j, j < 8 → w.cell? ⟨b, j, none⟩ = (tkCells t cv)[j]?
theorem TkAt.new (w : World) (t : TkF) (cv : Value) : TkAt (w.alloc (.cells (tkCells t cv).toArray 30)) w.heap.size t cv := by
  refine ⟨by simp, fun j hj => ?_⟩
  obtain ⟨u, hu⟩ : ∃ u, (tkCells t cv)[j]? = some u := ⟨_, List.getElem?_eq_getElem (show j < (tkCells t cv).length from hj)⟩
  rw [hu]
  exact cell_new _ _ _ _ _ (by simpa using hu)
theorem TkAt.below {w w' : World} {b : Nat} {t : TkF} {cv : Value} (h : TkAt w b t cv) (hb : Below w.heap.size w w') : TkAt w' b t cv :=
  ⟨Nat.lt_of_lt_of_le h.lt hb.size, fun j hj => (hb.cell (p := ⟨b, j, none⟩) h.lt).trans (h.at_ j hj)⟩
theorem TkAt.belowD {w w' : World} {b : Nat} {t : TkF} {cv : Value} (h : TkAt w b t cv) (hb : Below w.drew.heap.size w.drew w') : TkAt w' b t cv := h.below ((below_drewN w 1 _).trans hb)
theorem below_then {W w w' : World} (h : Below W.heap.size W w) (hb : Below w.heap.size w w') : Below W.heap.size W w' := h.trans (hb.mono h.size)
theorem below_thenD {W w w' : World} (h : Below W.heap.size W w) (hb : Below w.drew.heap.size w.drew w') : Below W.heap.size W w' := h.trans ((below_drewN w 1 W.heap.size).trans (hb.mono h.size))
theorem eightL {w : World} {b : Nat} {t : TkF} {cv : Value} (h : TkAt w b t cv) :
    w.cell? ⟨b, 0, none⟩ = some (.string ⟨t.kind.toArray⟩) ∧ w.cell? ⟨b, 1, none⟩ = some (.string ⟨t.space.toArray⟩) ∧ w.cell? ⟨b, 2, none⟩ = some (.string ⟨t.raw.toArray⟩) ∧ w.cell? ⟨b, 3, none⟩ = some (.string ⟨t.text.toArray⟩) ∧
    w.cell? ⟨b, 4, none⟩ = some (.int .i64 t.base) ∧ w.cell? ⟨b, 5, none⟩ = some (.int .i64 (t.pos : Int)) ∧ w.cell? ⟨b, 6, none⟩ = some (.int .i64 (t.fin : Int)) ∧ w.cell? ⟨b, 7, none⟩ = some cv :=
  ⟨h.at_ 0 (by decide), h.at_ 1 (by decide), h.at_ 2 (by decide), h.at_ 3 (by decide), h.at_ 4 (by decide), h.at_ 5 (by decide), h.at_ 6 (by decide), h.at_ 7 (by decide)⟩
/-- the lexer at a place of a text -/
def LexSt.from (p : Nat) : LexSt := ⟨⟨#[]⟩, .slice none 0 0, ⟨#[]⟩, ⟨#[]⟩, ⟨#[]⟩, 0, 0, 0, p, ⟨#[]⟩, false⟩
theorem zzNext_any {W w : World} (s : ByteArray) (p : Nat) {t : TkF} {d : Bool} (hL : Laid W) (hb : Below W.heap.size W w) (hs : s.size ≤ 1048576) (hp : p ≤ s.size) (hn : next s.data.toList [] false p = .ok t d) (hfin : t.fin ≤ s.size) :
    Calls Tryz.prog 38 #[.string s, .int .i64 (p : Int), .string ⟨#[]⟩, .bool false] w fun e w' => e = .returned (.tuple #[.pointer (some ⟨w.heap.size + 1, 0, none⟩), .nilIface]) ∧ (∃ v B, Own w' B 83 4 v t.coms.length (cmCells t.coms) ∧ LexAt w' (w.heap.size + 1) w.heap.size s ((LexSt.from p).nextd t d v)) ∧ Below w.heap.size w w' := by
  have hlow := hb.size
  have s1 : (w.alloc (.cells #[.string ⟨#[]⟩, .string s, .slice none 0 0] 71)).heap.size = w.heap.size + 1 := by simp
  have h1 := heap_alloc_new w (.cells #[.string ⟨#[]⟩, .string s, .slice none 0 0] 71)
  have h2 := heap_alloc_new (w.alloc (.cells #[.string ⟨#[]⟩, .string s, .slice none 0 0] 71)) (.cells ((LexSt.from p).cells w.heap.size) 64)
  rw [s1] at h2
  have hbb : Below w.heap.size w ((w.alloc (.cells #[.string ⟨#[]⟩, .string s, .slice none 0 0] 71)).alloc (.cells ((LexSt.from p).cells w.heap.size) 64)) := ((Below.refl _ _).alloc (Nat.le_refl _) _).alloc (by omega) _
  have hC : Cur W ((w.alloc (.cells #[.string ⟨#[]⟩, .string s, .slice none 0 0] 71)).alloc (.cells ((LexSt.from p).cells w.heap.size) 64)) (w.heap.size + 1) w.heap.size s (LexSt.from p) ((w.alloc (.cells #[.string ⟨#[]⟩, .string s, .slice none 0 0] 71)).alloc (.cells ((LexSt.from p).cells w.heap.size) 64)) := by
    refine ⟨hL, hb.trans (hbb.mono hlow), by omega, hlow, hs, hp, ⟨h2, ?_⟩, grownBy_refl _ _⟩
    rw [show ∀ o, ((w.alloc (.cells #[.string ⟨#[]⟩, .string s, .slice none 0 0] 71)).alloc o).heap[w.heap.size]? = _ from fun o => Below.heap_alloc (w.alloc (.cells #[.string ⟨#[]⟩, .string s, .slice none 0 0] 71)) o w.heap.size (by omega)]
    exact h1
  have hN := nextTokenE_any hC (by show (next s.data.toList [] false p).good s.size; rw [hn]; exact hfin)
  change Calls _ _ _ _ (NextE W _ _ _ s (LexSt.from p) (next s.data.toList [] false p)) at hN
  rw [hn] at hN
  have HN := Lib.hid hN; have HB := Lib.hid hbb
  clear hN hC h1 h2 s1 hn hL hb hbb
  go_enter Tryz.func38, Tryz.ntmps38
  go_wp2_with fail
  refine HN.out.mono ?_
  rintro e w2 ⟨v, B, rfl, hNA⟩
  have HNA := Lib.hid hNA
  clear hNA
  go_wp2_with fail
  refine bodyPost_ret (v := .tuple #[.pointer (some ⟨w.heap.size + 1, 0, none⟩), .nilIface]) (by simp [results, Tryz.results38, go_sem]) rfl ⟨rfl, ⟨v, B, HNA.out.own, HNA.out.cur.lex⟩, ?_⟩
  have hg := HNA.out.cur.grow
  have h1 := HB.out
  have h2 := hg.size
  have h3 := h1.size
  refine ⟨hg.os.trans h1.os, hg.tape.trans h1.tape, hg.output.trans h1.output, by omega, fun b hb => (hg.block b (by simp; omega) (by intro e; injection e with e; omega)).trans (h1.block b hb)⟩
theorem zzDot_any {w : World} {lb fb : Nat} {s : ByteArray} {x : LexSt} (h : LexAt w lb fb s x) :
    Calls Tryz.prog 39 #[.pointer (some ⟨lb, 0, none⟩)] w fun e w' => e = .returned (.bool x.dot) ∧ w = w' := by
  have k11 := (h.cell 11).1
  simp only [LexSt.cells, List.getElem?_toArray, List.getElem?_cons_succ, List.getElem?_cons_zero] at k11
  clear h
  go_enter Tryz.func39, Tryz.ntmps39
  go_wp2_with fail
  go_ret
  exact ⟨rfl, rfl⟩
theorem lexFrom_any {W w : World} (s : ByteArray) (p : Nat) {t : TkF} {d : Bool} (hL : Laid W) (hb : Below W.heap.size W w) (hs : s.size ≤ 1048576) (hp : p ≤ s.size) (hn : next s.data.toList [] false p = .ok t d) (hfin : t.fin ≤ s.size) (hcl : t.coms.length ≤ 1048576) :
    Calls Tryz.prog 25 #[.string s, .int .i64 (p : Int), .string ⟨#[]⟩, .bool false] w fun e w' => (∃ pc cc, e = .returned (.tuple #[tkVal t (.slice pc t.coms.length cc), .bool d, .int .i64 0, .bool true])) ∧ Below w.heap.size w w' := by
  have hZ := zzNext_any s p hL (hb.trans ((Below.refl w.heap.size w).mono hb.size) |>.alloc hb.size (.cells #[.string ⟨#[]⟩, .string ⟨#[]⟩, .string ⟨#[]⟩, .string ⟨#[]⟩, .int .i64 0, .int .i64 0, .int .i64 0, .slice none 0 0] 30)) hs hp hn hfin
  have hsz : (w.alloc (.cells #[.string ⟨#[]⟩, .string ⟨#[]⟩, .string ⟨#[]⟩, .string ⟨#[]⟩, .int .i64 0, .int .i64 0, .int .i64 0, .slice none 0 0] 30)).heap.size = w.heap.size + 1 := by simp
  have hnew := heap_alloc_new w (.cells #[.string ⟨#[]⟩, .string ⟨#[]⟩, .string ⟨#[]⟩, .string ⟨#[]⟩, .int .i64 0, .int .i64 0, .int .i64 0, .slice none 0 0] 30)
  have hbw : Below w.heap.size w (w.alloc (.cells #[.string ⟨#[]⟩, .string ⟨#[]⟩, .string ⟨#[]⟩, .string ⟨#[]⟩, .int .i64 0, .int .i64 0, .int .i64 0, .slice none 0 0] 30)) := (Below.refl _ _).alloc (Nat.le_refl _) _
  have HZ := Lib.hid hZ; have HNEW := Lib.hid hnew; have HBW := Lib.hid hbw
  clear hZ hn hnew hbw
  go_enter Tryz.func25, Tryz.ntmps25
  go_wp2_with fail
  generalize w.alloc (.cells #[.string ⟨#[]⟩, .string ⟨#[]⟩, .string ⟨#[]⟩, .string ⟨#[]⟩, .int .i64 0, .int .i64 0, .int .i64 0, .slice none 0 0] 30) = w1 at *
  rw [hsz] at HZ
  refine HZ.out.mono ?_
  rintro e w2 ⟨rfl, ⟨v, B, hown, hlex⟩, hb2⟩
  have c1 := (hlex.cell 1).1
  have c2 := (hlex.cell 2).1
  have c3 := (hlex.cell 3).1
  have c4 := (hlex.cell 4).1
  have c5 := (hlex.cell 5).1
  have c6 := (hlex.cell 6).1
  have c7 := (hlex.cell 7).1
  have c8 := (hlex.cell 8).1
  simp only [LexSt.cells, LexSt.nextd, List.getElem?_toArray, List.getElem?_cons_succ, List.getElem?_cons_zero] at c1 c2 c3 c4 c5 c6 c7 c8
  have HOWN := Lib.hid hown; have HLEX := Lib.hid hlex; have HB2 := Lib.hid hb2
  clear hown hlex hb2 HZ
  go_wp2_with fail
  refine (tokenOf_any ⟨t.kind.toArray⟩ ⟨t.space.toArray⟩ ⟨t.raw.toArray⟩ ⟨t.text.toArray⟩ t.base t.pos t.fin v t.coms B w2 HOWN.out hcl).mono ?_
  rintro e w3 ⟨cv, rfl, hown3, hb3⟩
  have hlt := HLEX.out.lt
  have hlex3 : LexAt w3 (w.heap.size + 1 + 1) (w.heap.size + 1) s ((LexSt.from p).nextd t d v) := ⟨(hb3.block _ hlt.1).trans HLEX.out.lex, (hb3.block _ hlt.2).trans HLEX.out.file⟩
  have hD := zzDot_any hlex3
  have hr : w3.heap[w.heap.size]? = some (.cells #[.string ⟨#[]⟩, .string ⟨#[]⟩, .string ⟨#[]⟩, .string ⟨#[]⟩, .int .i64 0, .int .i64 0, .int .i64 0, .slice none 0 0] 30 (0, 0)) := by
    rw [hb3.block _ (by omega), HB2.out.block _ (by omega)]
    exact HNEW.out
  have hcell : ∀ j, w3.cell? ⟨w.heap.size, j, none⟩ = (#[.string ⟨#[]⟩, .string ⟨#[]⟩, .string ⟨#[]⟩, .string ⟨#[]⟩, .int .i64 0, .int .i64 0, .int .i64 0, .slice none 0 0] : Array Value)[j]? ∧ w3.frozen? ⟨w.heap.size, j, none⟩ = false := by
    intro j
    simp [World.cell?, World.frozen?, hr]
  have hbt : Below w.heap.size w w3 := HBW.out.trans ((HB2.out.mono (by omega)).trans (hb3.mono (by have := HB2.out.size; omega)))
  have e0 := (hcell 0).1
  have f0 := (hcell 0).2
  have e1 := (hcell 1).1
  have f1 := (hcell 1).2
  have e2 := (hcell 2).1
  have f2 := (hcell 2).2
  have e3 := (hcell 3).1
  have f3 := (hcell 3).2
  have e4 := (hcell 4).1
  have f4 := (hcell 4).2
  have e5 := (hcell 5).1
  have f5 := (hcell 5).2
  have e6 := (hcell 6).1
  have f6 := (hcell 6).2
  have e7 := (hcell 7).1
  have f7 := (hcell 7).2
  simp only [List.getElem?_toArray, List.getElem?_cons_succ, List.getElem?_cons_zero] at e0 e1 e2 e3 e4 e5 e6 e7
  have HD := Lib.hid hD; have HBT := Lib.hid hbt
  have hown4 := own_shape2 hown3
  obtain ⟨pc, cc, rfl⟩ := hown4
  clear hcell hD hbt hb3 hown3 hlex3 hr HOWN HLEX HB2 HNEW HBW c1 c2 c3 c4 c5 c6 c7 c8 hlt
  go_wp2_with fail
  refine HD.out.mono ?_
  rintro e w4 ⟨rfl, rfl⟩
  go_wp2_with fail
  refine bodyPost_ret (v := .tuple #[tkVal t (.slice pc t.coms.length cc), .bool d, .int .i64 0, .bool true]) (by simp [results, Tryz.results25, go_sem, e0, e1, e2, e3, e4, e5, e6, e7, tkVal, tkCells, LexSt.nextd]) rfl ⟨⟨pc, cc, rfl⟩, ?_⟩
  exact (((((((HBT.out.setCell (Nat.le_refl _) _).setCell (Nat.le_refl _) _).setCell (Nat.le_refl _) _).setCell (Nat.le_refl _) _).setCell (Nat.le_refl _) _).setCell (Nat.le_refl _) _).setCell (Nat.le_refl _) _).setCell (Nat.le_refl _) _
end Go.Proofs.YtcelnnjjakiehaaGreatDoor
