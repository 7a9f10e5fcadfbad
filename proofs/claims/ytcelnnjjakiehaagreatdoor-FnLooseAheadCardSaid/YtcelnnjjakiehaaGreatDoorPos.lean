/-
  The contracts of token.zzPad and of File.Position, at places that lie in the text.
-/
import Derived.Test.YtcelnnjjakiehaaGreatDoorRows
import Derived.Test.YtcelnnjjakiehaaGreatDoorFile
import Derived.Test.YtcelnnjjakiehaaGreatDoorShelf
import Derived.Deep.QuietTactic
import Derived.BigQuiet
import Derived.Deep.RegionHeld3
import Derived.Lib.ItoaLen
namespace Go.Proofs.YtcelnnjjakiehaaGreatDoor
open Go.RowKit
set_option linter.unusedVariables false
set_option maxRecDepth 20000
set_option maxHeartbeats 400000

/-- the table of powers of ten is as its initialiser lays it -/
def Tab (w : World) : Prop := Lib.TabIs Tryz.prog w "internal/strconv.uint64pow10" .u64 Lib.pow10Tab
theorem glob_tab : Tryz.prog.globalNamed "internal/strconv.uint64pow10" = some 8 := by kernel_rfl
theorem Tab.below {w w' : World} (h : Tab w) (hb : Below w.heap.size w w') : Tab w' := by
  unfold Tab Lib.TabIs World.var? at h ⊢
  rw [glob_tab] at h ⊢
  simp only [Option.bind_some] at h ⊢
  have hlt : 8 < w.heap.size := by
    rcases Nat.lt_or_ge 8 w.heap.size with h' | h'
    · exact h'
    · simp [Array.getElem?_eq_none h'] at h
  rw [hb.block _ hlt]
  exact h

/-- a number of at least three places, blanks ahead of it -/
def padL (l : List UInt8) : List UInt8 := List.replicate (3 - l.length) 32 ++ l
def padN (n : Nat) : List UInt8 := padL (Lib.itoa (n : Int))
theorem padL_cons (l : List UInt8) (h : l.length < 3) : padL (32 :: l) = padL l := by
  unfold padL
  rw [List.length_cons]
  obtain ⟨k, hk⟩ : ∃ k, 3 - l.length = k + 1 := ⟨3 - l.length - 1, by omega⟩
  rw [show 3 - (l.length + 1) = k from by omega, hk, List.replicate_succ']
  simp
theorem padL_long (l : List UInt8) (h : ¬ l.length < 3) : padL l = l := by
  unfold padL
  rw [show 3 - l.length = 0 from by omega]; rfl
theorem padL_length (l : List UInt8) (h : l.length ≤ 21) : (padL l).length ≤ 21 := by
  unfold padL
  simp; omega
theorem pad_any (n : Int) (W w : World) (hW : Tab W) (hB : Below W.heap.size W w) (h0 : 0 ≤ n) (h1 : n ≤ 4294967297) :
    Calls Tryz.prog 100 #[.int .i64 n] w fun e w' => e = .returned (.string ⟨(padN n.toNat).toArray⟩) ∧ Below w.heap.size w w' := by
  obtain ⟨n, rfl⟩ := Int.eq_ofNat_of_zero_le h0
  rw [Int.toNat_natCast]
  have hT := hW.below hB
  have hlen := Lib.itoa_length_le (n : Int) (by omega) (by omega)
  have hpn : padN n = padL (Lib.itoa (n : Int)) := rfl
  have HPN := Lib.hid hpn; clear hpn
  have hc := Tryz.strconv_Itoa (n : Int) (by omega) (by omega) w hT
  have HC := Lib.hid hc
  clear hc hT hW hB
  generalize Lib.itoa (n : Int) = d at *
  go_enter Tryz.func100, Tryz.ntmps100
  go_wp2_with fail
  refine HC.out.mono ?_
  rintro e w1 ⟨rfl, k, os, rfl⟩
  have hb : Below w.heap.size w (Go.Sort.grow (w.drewN k) os) := ⟨rfl, rfl, rfl, by simp [Go.Sort.grow], fun j hj => by simp [Go.Sort.grow, Array.getElem?_append, hj]⟩
  generalize Go.Sort.grow (w.drewN k) os = w1 at *
  clear HC
  go_wp2_with fail
  go_loop [3] (fun t => ∃ s : ByteArray, t = .string s ∧ padL s.data.toList = padL d ∧ s.size ≤ 21) (fun t => 3 - strLen t)
  case atStart => exact ⟨_, rfl, rfl, hlen⟩
  case round =>
    obtain ⟨s, rfl, hp, hsz⟩ := hrel
    have HP := Lib.hid hp; clear hp
    have hsl := ba_toList_length s
    have HSL := Lib.hid hsl; clear hsl
    by_cases hc : s.size < 3
    · go_wp2_with fail
      go_round
      case rel =>
        refine ⟨_, rfl, ?_, ?_⟩
        · have e1 : (⟨#[32]⟩ ++ s : ByteArray).data.toList = 32 :: s.data.toList := by simp
          rw [e1, padL_cons _ (by rw [HSL.out]; exact hc), HP.out]
        · rw [ByteArray.size_append]; show 1 + s.size ≤ 21; omega
      case measure =>
        show 3 - (⟨#[32]⟩ ++ s : ByteArray).size < 3 - s.size
        rw [ByteArray.size_append]; show 3 - (1 + s.size) < _; omega
    · go_wp2_with fail
      go_ret
      refine ⟨ret_str ?_, hb⟩
      apply ba_ext
      rw [HPN.out, ← HP.out, padL_long _ (by rw [HSL.out]; exact hc)]

/-- the bytes from a place up to another one -/
def sub2 (l : List UInt8) (i j : Nat) : List UInt8 := (l.take j).drop i
theorem sub_piece (l : List UInt8) : ∀ j, (h : j < (pieces l).length) → sub2 l (stAt (pieces l) j) (stAt (pieces l) (j + 1) - 1) = (pieces l)[j] := by
  induction l with
  | nil =>
    intro j h
    have : j = 0 := by simp [pieces] at h; exact h
    subst this
    simp [sub2, pieces]
  | cons c r ih =>
    intro j h
    by_cases hc : c = 10
    · have e2 : pieces (c :: r) = [] :: pieces r := by simp [pieces, hc]
      simp only [e2] at h ⊢
      cases j with
      | zero => simp [sub2, stAt]
      | succ j =>
        have h' : j < (pieces r).length := by simpa using h
        have hs := stAt_succ (pieces r) j h'
        have := ih j h'
        simp only [stAt_cons, List.length_nil, List.getElem_cons_succ]
        rw [← this]
        unfold sub2
        rw [show 0 + 1 + stAt (pieces r) (j + 1) - 1 = (stAt (pieces r) (j + 1) - 1) + 1 from by omega, show 0 + 1 + stAt (pieces r) j = stAt (pieces r) j + 1 from by omega]
        rfl
    · obtain ⟨p, q, e1, e2⟩ := pieces_cons c r hc
      simp only [e2] at h ⊢
      cases j with
      | zero =>
        have := ih 0 (by rw [e1]; simp)
        simp only [e1, List.getElem_cons_zero, stAt_zero, stAt_cons, Nat.add_zero] at this ⊢
        unfold sub2 at this ⊢
        simp only [List.drop_zero, List.length_cons] at this ⊢
        rw [show p.length + 1 + 1 - 1 = (p.length + 1 - 1) + 1 from by omega, List.take_succ_cons, this]
      | succ j =>
        have h1 : j + 1 < (pieces r).length := by rw [e1]; simpa using h
        have := ih (j + 1) h1
        have hs := stAt_succ (pieces r) (j + 1) h1
        simp only [e1, stAt_cons, List.getElem_cons_succ] at this hs ⊢
        rw [← this]
        unfold sub2
        simp only [List.length_cons]
        rw [show p.length + 1 + 1 + stAt q (j + 1) - 1 = (p.length + 1 + stAt q (j + 1) - 1) + 1 from by omega, show p.length + 1 + 1 + stAt q j = (p.length + 1 + stAt q j) + 1 from by omega]
        rfl
/-- a line with its number -/
def srcLine (ps : List (List UInt8)) (j : Nat) : List UInt8 := padN (j + 1) ++ [124, 32, 32] ++ ps.getD j []
/-- the lines from a on, k of them -/
def srcMany (ps : List (List UInt8)) (a : Nat) : Nat → List UInt8
  | 0 => []
  | k + 1 => srcMany ps a k ++ (if 0 < a + k then [10] else []) ++ srcLine ps (a + k)
/-- the text of a position -/
def srcText (l : List UInt8) (pos fin : Nat) : List UInt8 :=
  if (lc (l.take pos)).1 = (lc (l.take fin)).1 then
    (srcLine (pieces l) (lc (l.take pos)).1 ++ [10]) ++ ([32, 32, 32, 124, 32, 32] ++ Lib.repeatL [32] (lc (l.take pos)).2 ++ [94] ++ Lib.repeatL [126] ((lc (l.take fin)).2 - (lc (l.take pos)).2 - 1))
  else srcMany (pieces l) (lc (l.take pos)).1 ((lc (l.take fin)).1 + 1 - (lc (l.take pos)).1)
/-- a position has been made -/
def PosMade (w : World) (b : Nat) (p s : ByteArray) (pos fin : Nat) (e : Ending) (w' : World) : Prop :=
  ∃ N, e = .returned (.pointer (some ⟨N, 0, none⟩)) ∧ w.heap.size ≤ N ∧
    w'.heap[N]? = some (.cells #[.string p, .int .i64 pos, .int .i64 fin, .int .i64 ((lc (s.data.toList.take pos)).1 : Int), .int .i64 ((lc (s.data.toList.take pos)).2 : Int), .int .i64 ((lc (s.data.toList.take fin)).1 : Int), .int .i64 ((lc (s.data.toList.take fin)).2 : Int), .string ⟨(srcText s.data.toList pos fin).toArray⟩] 81 (0, 0)) ∧
    Lined w' b p s ∧ w.grownBy w' (some b)
theorem lc_mono (l : List UInt8) (pos fin : Nat) (h : pos ≤ fin) : (lc (l.take pos)).1 ≤ (lc (l.take fin)).1 := by
  have e : l.take fin = l.take pos ++ (l.take fin).drop pos := by
    have := List.take_append_drop pos (l.take fin)
    rw [List.take_take, Nat.min_eq_left h] at this
    exact this.symm
  rw [e]
  have key : ∀ (m n : List UInt8) (a b : Nat), (lcFrom a b m).1 ≤ (lcFrom a b (m ++ n)).1 := by
    intro m
    induction m with
    | nil => intro n a b; rw [lcFrom_eq (([] : List UInt8) ++ n) a b]; simp only [lcFrom]; omega
    | cons c r ih => intro n a b; simp only [List.cons_append, lcFrom]; split <;> exact ih _ _ _
  exact key _ _ 0 0
theorem isBuf_keep {T e : TypeId} {B b : Nat} {bs : List Value} {w w' : World} (h : Lib.IsBuffer T e B b bs w) (hb : Below w.heap.size w w') : Lib.IsBuffer T e B b bs w' := by
  have hlt := h.lt
  obtain ⟨h1, v, lr, h2, h3, h4⟩ := h
  exact ⟨h1, v, lr, (hb.block b hlt).trans h2, h3.kept (grownBy_below hb Option.none) (by cases v.ownBlock <;> simp), h4⟩
theorem repeatL_len (c : UInt8) (n : Nat) : (Lib.repeatL [c] n).length = n := by
  induction n with
  | zero => rfl
  | succ n ih => simp [Lib.repeatL, ih]
/-- what the walk of a position wants to know of the places -/
structure OneLine (s : ByteArray) (pos fin ln c1 c2 a z : Nat) (q src : List UInt8) : Prop where
  e1 : lc (s.data.toList.take pos) = (ln, c1)
  e2 : lc (s.data.toList.take fin) = (ln, c2)
  lt : ln < (pieces s.data.toList).length
  sa : stAt (pieces s.data.toList) ln = a
  sz : stAt (pieces s.data.toList) (ln + 1) = z + 1
  az : a ≤ z
  zl : z ≤ s.size
  p1 : a + c1 = pos
  p2 : a + c2 = fin
  piece : (s.extract a z).data.toList = q
  text : src = (padN (ln + 1) ++ [124, 32, 32] ++ q ++ [10]) ++ ([32, 32, 32, 124, 32, 32] ++ Lib.repeatL [32] c1 ++ [94] ++ Lib.repeatL [126] (c2 - c1 - 1))
theorem oneLine (s : ByteArray) (pos fin : Nat) (hpf : pos ≤ fin) (hf : fin ≤ s.size) (hone : (lc (s.data.toList.take pos)).1 = (lc (s.data.toList.take fin)).1) :
    ∃ ln c1 c2 a z q, OneLine s pos fin ln c1 c2 a z q (srcText s.data.toList pos fin) := by
  obtain ⟨l1, l2, _⟩ := lc_spec s.data.toList pos (by rw [ba_toList_length]; omega)
  obtain ⟨_, r2, _⟩ := lc_spec s.data.toList fin (by rw [ba_toList_length]; omega)
  have hend := stAt_end s.data.toList
  rw [ba_toList_length] at hend
  have hpc := sub_piece s.data.toList (lc (s.data.toList.take pos)).1 l1
  have hss := stAt_succ (pieces s.data.toList) (lc (s.data.toList.take pos)).1 l1
  have hmo := stAt_mono (pieces s.data.toList) ((lc (s.data.toList.take pos)).1 + 1) (pieces s.data.toList).length (by omega)
  have hge : (pieces s.data.toList).getD (lc (s.data.toList.take pos)).1 [] = (pieces s.data.toList)[(lc (s.data.toList.take pos)).1]'l1 := by
    simp [List.getD, l1]
  refine ⟨(lc (s.data.toList.take pos)).1, (lc (s.data.toList.take pos)).2, (lc (s.data.toList.take fin)).2, stAt (pieces s.data.toList) (lc (s.data.toList.take pos)).1, stAt (pieces s.data.toList) ((lc (s.data.toList.take pos)).1 + 1) - 1, (pieces s.data.toList)[(lc (s.data.toList.take pos)).1], rfl, Prod.ext hone.symm rfl, l1, rfl, by omega, by omega, by omega, l2, by rw [hone]; exact r2, ?_, ?_⟩
  · rw [Lib.extract_data, ← hpc, sub2, List.drop_take]
  · unfold srcText
    rw [if_pos hone, srcLine, hge]
theorem Lined.below {w w' : World} {b : Nat} {p s : ByteArray} (h : Lined w b p s) (hb : Below w.heap.size w w') : Lined w' b p s := by
  obtain ⟨v, h1, h2⟩ := h
  exact ⟨v, (hb.block b (Array.getElem?_eq_some_iff.1 h1).1).trans h1, h2.below hb (fun g hg => (h2.lt g hg).2)⟩
theorem pos_made {w w2 w8 : World} {b : Nat} {p s : ByteArray} (hg : w.grownBy w2 (some b)) (hl : Lined w2 b p s) (hb : Below w2.heap.size w2 w8) (n : Nat) (o : Obj) :
    ∃ N, Ending.returned (.pointer (some ⟨w8.heap.size, 0, none⟩)) = Ending.returned (.pointer (some ⟨N, 0, none⟩)) ∧ w.heap.size ≤ N ∧ ((w8.drewN n).alloc o).heap[N]? = some o ∧ Lined ((w8.drewN n).alloc o) b p s ∧ w.grownBy ((w8.drewN n).alloc o) (some b) := by
  have h2 : Below w2.heap.size w2 ((w8.drewN n).alloc o) := hb.trans ((below_drewN w8 n _).alloc hb.size o)
  exact ⟨w8.heap.size, rfl, Nat.le_trans hg.size hb.size, heap_alloc_new (w8.drewN n) o, hl.below h2, grownBy_trans hg (grownBy_below h2 _)⟩
set_option maxHeartbeats 1000000 in
theorem position_one (b pos fin : Nat) (p s : ByteArray) (W w : World) (hW : Tab W) (hB : Below W.heap.size W w) (hb : W.heap.size ≤ b) (hs : s.size ≤ 1048576) (hpf : pos ≤ fin) (hf : fin ≤ s.size) (hF : FileOk w b p s)
    (hone : (lc (s.data.toList.take pos)).1 = (lc (s.data.toList.take fin)).1) :
    Calls Tryz.prog 91 #[.pointer (some ⟨b, 0, none⟩), .int .i64 pos, .int .i64 fin] w (PosMade w b p s pos fin) := by
  have hr1 := resolve_any b pos p s w (by omega) (by omega) hF
  have hr2 : ∀ w', Lined w' b p s → Calls _ _ _ w' _ := fun w' h' => resolve_any b fin p s w' (by omega) (by omega) (.inr h')
  unfold Resolved at hr1 hr2
  unfold PosMade
  obtain ⟨ln, c1, c2, a, z, q, hL⟩ := oneLine s pos fin hpf hf hone
  clear hone
  generalize srcText s.data.toList pos fin = src at *
  rw [hL.e1] at hr1
  rw [hL.e2] at hr2
  rw [hL.e1, hL.e2]
  simp only at hr1 hr2
  have HR1 := Lib.hid hr1; have HR2 := Lib.hid hr2; have HF := Lib.hid hF; have HL := Lib.hid hL
  have k1 := hL.az; have k2 := hL.zl; have k3 := hL.p1; have k4 := hL.p2; have k5 := hL.lt
  have hlen := pieces_length s.data.toList
  rw [ba_toList_length] at hlen
  have hlb : ln ≤ 1048577 := by omega
  clear hr1 hr2 hF hL hlen
  have K3 := Lib.hid k3; have K4 := Lib.hid k4
  clear k3 k4
  have hx1 : decide ((pos : Int) < 0) = false := by simp
  have hx2 : decide ((fin : Int) < 0) = false := by simp
  go_enter Tryz.func91, Tryz.ntmps91
  go_wp2_with fail
  refine HR1.out.mono ?_
  rintro e w1 ⟨rfl, hl1, hg1⟩
  go_wp2_with fail
  refine (HR2.out _ hl1).mono ?_
  rintro e w2 ⟨rfl, hl2, hg2⟩
  have HL2 := Lib.hid hl2
  obtain ⟨v, hf2, hown⟩ := hl2
  have hg := grownBy_trans hg1 hg2
  have HG := Lib.hid hg
  clear hl1 hg1 hg2 hg
  obtain ⟨x0, x1, x2, x3, x4⟩ := hf2.cells
  obtain ⟨g, cap, rfl⟩ : ∃ g cap, v = .slice (some ⟨g, 0, none⟩) ((pieces s.data.toList).length + 1) cap := by
    rcases hown.shape with ⟨_, h, _⟩ | ⟨g, cap, h, _⟩
    · omega
    · exact ⟨g, cap, h⟩
  have hgl := (hown.lt g rfl).2
  have y1 := hown.cellAt ln (by omega)
  rw [posv_get _ _ ln (by omega), HL.out.sa] at y1
  have y2 := hown.cellAt (ln + 1) (by omega)
  rw [posv_get _ _ (ln + 1) (by omega), HL.out.sz] at y2
  generalize (pieces s.data.toList).length = np at *
  clear hown hf2
  have k6 : IntKind.i64.wrap ((ln : Int) + 1) = (ln : Int) + 1 := IntWalk.i64_in _ (by omega)
  have k7 : ((ln : Int) + 1).toNat = ln + 1 := by omega
  have k8 : (0 : Int) ≤ (ln : Int) + 1 := by omega
  have k9 : ((ln : Int) + 1) < ((np + 1 : Nat) : Int) := by omega
  have k9b : ((ln : Int)) < ((np + 1 : Nat) : Int) := by omega
  have k10 : IntKind.i64.wrap (((z + 1 : Nat) : Int) - 1) = (z : Int) := by rw [show ((z + 1 : Nat) : Int) - 1 = (z : Int) from by omega]; exact IntWalk.i64_in _ (by omega)
  go_wp2_with fail
  refine (invalid_any _ _).mono ?_
  rintro e w' ⟨rfl, rfl⟩
  rw [hx1]
  go_wp2_with fail
  refine (invalid_any _ _).mono ?_
  rintro e w' ⟨rfl, rfl⟩
  rw [hx2]
  go_wp2_with fail
  go_quiet (fail)
  go_wp2_with fail
  have hB2 : Below W.heap.size W w2 := hB.grown HG.out hB.size (fun k hk => by injection hk with hk; omega)
  have hB3 : ∀ w', Below w2.heap.size w2 w' → Below W.heap.size W w' := fun w' h => hB2.trans (h.mono hB2.size)
  have HB3 := Lib.hid hB3
  clear hB2 hB3 x0 x1 x2 x3 y1 y2 k7 k8 k9 k9b k10
  have hbf : Lib.IsBuffer 165 5 w2.heap.size w2.heap.size [] ((w2.alloc (.cells #[.slice none 0 0, .int .i64 0, .int .i8 0] 165)).drewN nq) := (Lib.fresh_isBuffer 165 5 w2)
  have hb2 : Below w2.heap.size w2 ((w2.alloc (.cells #[.slice none 0 0, .int .i64 0, .int .i8 0] 165)).drewN nq) := ((Below.refl _ _).alloc (Nat.le_refl _) _).trans (below_drewN _ _ _)
  generalize ((w2.alloc (.cells #[.slice none 0 0, .int .i64 0, .int .i8 0] 165)).drewN nq) = w3 at *
  refine (pad_any _ W w3 hW (HB3.out _ hb2) (by omega) (by omega)).mono ?_
  rintro e w4 ⟨rfl, hb4⟩
  rw [show ((ln : Int) + 1).toNat = ln + 1 from by omega]
  have hbf4 := isBuf_keep hbf hb4
  have hb24 := hb2.trans (hb4.mono hb2.size)
  clear hbf hb4 hb2
  have hpl : (⟨(padN (ln + 1)).toArray⟩ : ByteArray).size ≤ 21 := by
    show (padN (ln + 1)).toArray.size ≤ 21
    rw [List.size_toArray]
    exact padL_length _ (Lib.itoa_length_le _ (by omega) (by omega))
  have hpd : (⟨(padN (ln + 1)).toArray⟩ : ByteArray).data.toList = padN (ln + 1) := rfl
  generalize (⟨(padN (ln + 1)).toArray⟩ : ByteArray) = P at *
  have hqz : (s.extract a z).size ≤ s.size := by simp; omega
  have hqd := HL.out.piece
  generalize s.extract a z = S at *
  have HPD := Lib.hid hpd; have HQD := Lib.hid hqd; clear hpd hqd
  have hc1s : c1 ≤ s.size := by have := K3.out; omega
  have hc2s : c2 ≤ s.size := by have := K4.out; omega
  have hsz24 := hb24.size
  go_wp2_with fail
  have hz1 : (P ++ ⟨#[124, 32, 32]⟩ ++ S ++ ⟨#[10]⟩ : ByteArray).size ≤ 1048601 := by
    rw [ByteArray.size_append, ByteArray.size_append, ByteArray.size_append]
    show P.size + 3 + S.size + 1 ≤ _
    omega
  have hd1 : (P ++ ⟨#[124, 32, 32]⟩ ++ S ++ ⟨#[10]⟩ : ByteArray).data.toList = padN (ln + 1) ++ [124, 32, 32] ++ q ++ [10] := by
    simp only [ByteArray.data_append, Array.toList_append, HPD.out, HQD.out]
  have HD1 := Lib.hid hd1; clear hd1
  generalize (P ++ ⟨#[124, 32, 32]⟩ ++ S ++ ⟨#[10]⟩ : ByteArray) = T1 at *
  refine (Tryz.Buffer_WriteString_k _ _ [] T1 w4 hbf4 hsz24 (by simp) (by simp; omega)).mono ?_
  rintro e w5 ⟨rfl, hbf5, hb5, _⟩
  have hb25 := hb24.trans hb5
  clear hbf4 hb24 hsz24 hb5
  go_wp2_with fail
  refine (Tryz.strings_Repeat ⟨#[32]⟩ c1 w5 (by omega) (by show 1 * c1 ≤ _; omega)).mono ?_
  rintro e w6 ⟨rfl, hb6⟩
  have hbf6 := isBuf_keep hbf5 hb6
  have hb26 := hb25.trans (hb6.mono hb25.size)
  clear hbf5 hb25 hb6
  have hr1l : (⟨(Lib.repeatL (⟨#[32]⟩ : ByteArray).data.toList c1).toArray⟩ : ByteArray).size = c1 := by
    show (Lib.repeatL [32] c1).toArray.size = c1
    rw [List.size_toArray, repeatL_len]
  have hr1d : (⟨(Lib.repeatL (⟨#[32]⟩ : ByteArray).data.toList c1).toArray⟩ : ByteArray).data.toList = Lib.repeatL [32] c1 := rfl
  generalize (⟨(Lib.repeatL (⟨#[32]⟩ : ByteArray).data.toList c1).toArray⟩ : ByteArray) = R1 at *
  have hr1s : R1.size ≤ s.size := by omega
  have HR1D := Lib.hid hr1d
  clear hr1l hr1d
  go_wp2_with fail
  have hmx : max (wrap64 (wrap64 ((c2 : Int) - (c1 : Int)) - 1)) 0 = ((c2 - c1 - 1 : Nat) : Int) := by
    have e3 := K3.out; have e4 := K4.out
    have e5 : wrap64 ((c2 : Int) - (c1 : Int)) = (c2 : Int) - (c1 : Int) := IntWalk.wrap64_in _ (by omega)
    rw [e5, IntWalk.wrap64_in _ (by omega)]
    omega
  rw [hmx]
  clear hmx
  refine (Tryz.strings_Repeat ⟨#[126]⟩ (c2 - c1 - 1) w6 (by omega) (by show 1 * (c2 - c1 - 1) ≤ _; omega)).mono ?_
  rintro e w7 ⟨rfl, hb7⟩
  have hbf7 := isBuf_keep hbf6 hb7
  have hb27 := hb26.trans (hb7.mono hb26.size)
  clear hbf6 hb26 hb7
  have hr2l : (⟨(Lib.repeatL (⟨#[126]⟩ : ByteArray).data.toList (c2 - c1 - 1)).toArray⟩ : ByteArray).size = c2 - c1 - 1 := by
    show (Lib.repeatL [126] (c2 - c1 - 1)).toArray.size = c2 - c1 - 1
    rw [List.size_toArray, repeatL_len]
  have hr2d : (⟨(Lib.repeatL (⟨#[126]⟩ : ByteArray).data.toList (c2 - c1 - 1)).toArray⟩ : ByteArray).data.toList = Lib.repeatL [126] (c2 - c1 - 1) := rfl
  generalize (⟨(Lib.repeatL (⟨#[126]⟩ : ByteArray).data.toList (c2 - c1 - 1)).toArray⟩ : ByteArray) = R2 at *
  have hr2s : R2.size ≤ s.size := by omega
  have HR2D := Lib.hid hr2d
  clear hr2l hr2d
  go_wp2_with fail
  have hz2 : (⟨#[32, 32, 32, 124, 32, 32]⟩ ++ R1 ++ ⟨#[94]⟩ ++ R2 : ByteArray).size ≤ 2097160 := by
    rw [ByteArray.size_append, ByteArray.size_append, ByteArray.size_append]
    show 6 + R1.size + 1 + R2.size ≤ _
    omega
  have hd2 : (⟨#[32, 32, 32, 124, 32, 32]⟩ ++ R1 ++ ⟨#[94]⟩ ++ R2 : ByteArray).data.toList = [32, 32, 32, 124, 32, 32] ++ Lib.repeatL [32] c1 ++ [94] ++ Lib.repeatL [126] (c2 - c1 - 1) := by
    simp only [ByteArray.data_append, Array.toList_append, HR1D.out, HR2D.out]
  have HD2 := Lib.hid hd2; clear hd2
  generalize (⟨#[32, 32, 32, 124, 32, 32]⟩ ++ R1 ++ ⟨#[94]⟩ ++ R2 : ByteArray) = T2 at *
  have hsz27 := hb27.size
  refine (Tryz.Buffer_WriteString_k _ _ _ T2 w7 hbf7 hsz27 (Lib.byteCells_one _) (by rw [List.nil_append, Lib.byteCells_length, ba_toList_length]; omega)).mono ?_
  rintro e w8 ⟨rfl, hbf8, hb8, _⟩
  have hb28 := hb27.trans hb8
  clear hbf7 hb27 hsz27 hb8
  have hbf9 : Lib.IsBuffer 165 5 w2.heap.size w2.heap.size (Lib.byteCells src) w8 := by
    rw [HL.out.text, ← HD1.out, ← HD2.out, Lib.byteCells_append]
    rw [List.nil_append] at hbf8
    exact hbf8
  have hc0 : w8.cell? ⟨b, 0, none⟩ = some (.string p) := by
    obtain ⟨v, hv, _⟩ := HL2.out
    rw [hb28.cell (p := ⟨b, 0, none⟩) x4]
    exact hv.cells.1
  have hstr := fun n => Tryz.Buffer_String w2.heap.size w2.heap.size src (w8.drewN n) hbf9
  have HSTR := Lib.hid hstr
  clear hbf8 hbf9 hstr
  go_wp2_with fail
  go_region_held3 (fun w' => w'.cell? ⟨b, 0, none⟩ = some (.string p)) (go_keep)
    (first | (go_at_call 102; refine (HSTR.out 1).mono ?_; rintro e w' ⟨rfl, n, rfl⟩))
  go_wp2_with fail
  go_ret
  have hsz28 := hb28.size
  exact pos_made HG.out HL2.out hb28 _ _

theorem srcMany_le (l : List UInt8) (a : Nat) : ∀ k, a + k ≤ (pieces l).length → a + k ≤ 1000000000 → (srcMany (pieces l) a k).length + stAt (pieces l) a ≤ stAt (pieces l) (a + k) + 24 * k := by
  intro k
  induction k with
  | zero => intro _ _; simp [srcMany]
  | succ k ih =>
    intro h hm
    have h1 := ih (by omega) (by omega)
    have h2 := stAt_succ (pieces l) (a + k) (by omega)
    have h3 : ((pieces l).getD (a + k) []).length = ((pieces l)[a + k]'(by omega)).length := by
      simp [List.getD, show a + k < (pieces l).length by omega]
    have h4 : (padN (a + k + 1)).length ≤ 21 := padL_length _ (Lib.itoa_length_le _ (by omega) (by omega))
    have h5 : (if 0 < a + k then [10] else [] : List UInt8).length ≤ 1 := by split <;> simp
    simp only [srcMany, srcLine, List.length_append, h3]
    simp only [List.length_cons, List.length_nil]
    rw [show a + (k + 1) = a + k + 1 from rfl, h2]
    omega
/-- what the walk of a line wants to know -/
structure LineAt (s : ByteArray) (j a z : Nat) (q : List UInt8) : Prop where
  sa : stAt (pieces s.data.toList) j = a
  sz : stAt (pieces s.data.toList) (j + 1) = z + 1
  az : a ≤ z
  zl : z ≤ s.size
  piece : (s.extract a z).data.toList = q
  line : srcLine (pieces s.data.toList) j = padN (j + 1) ++ [124, 32, 32] ++ q
theorem lineAt (s : ByteArray) (j : Nat) (h : j < (pieces s.data.toList).length) : ∃ a z q, LineAt s j a z q := by
  have hend := stAt_end s.data.toList
  rw [ba_toList_length] at hend
  have hpc := sub_piece s.data.toList j h
  have hss := stAt_succ (pieces s.data.toList) j h
  have hmo := stAt_mono (pieces s.data.toList) (j + 1) (pieces s.data.toList).length (by omega)
  have hge : (pieces s.data.toList).getD j [] = (pieces s.data.toList)[j]'h := by simp [List.getD, h]
  refine ⟨stAt (pieces s.data.toList) j, stAt (pieces s.data.toList) (j + 1) - 1, (pieces s.data.toList)[j], rfl, by omega, by omega, by omega, ?_, ?_⟩
  · rw [Lib.extract_data, ← hpc, sub2, List.drop_take]
  · rw [srcLine, hge]
set_option maxHeartbeats 2000000 in
theorem position_many (b pos fin : Nat) (p s : ByteArray) (W w : World) (hW : Tab W) (hB : Below W.heap.size W w) (hb : W.heap.size ≤ b) (hs : s.size ≤ 1048576) (hpf : pos ≤ fin) (hf : fin ≤ s.size) (hF : FileOk w b p s)
    (hone : (lc (s.data.toList.take pos)).1 < (lc (s.data.toList.take fin)).1) :
    Calls Tryz.prog 91 #[.pointer (some ⟨b, 0, none⟩), .int .i64 pos, .int .i64 fin] w (PosMade w b p s pos fin) := by
  have hr1 := resolve_any b pos p s w (by omega) (by omega) hF
  have hr2 : ∀ w', Lined w' b p s → Calls _ _ _ w' _ := fun w' h' => resolve_any b fin p s w' (by omega) (by omega) (.inr h')
  unfold Resolved at hr1 hr2
  unfold PosMade
  have hsrc : srcText s.data.toList pos fin = srcMany (pieces s.data.toList) (lc (s.data.toList.take pos)).1 ((lc (s.data.toList.take fin)).1 + 1 - (lc (s.data.toList.take pos)).1) := by
    unfold srcText; rw [if_neg (by omega)]
  have hl2 := (lc_spec s.data.toList fin (by rw [ba_toList_length]; omega)).1
  generalize srcText s.data.toList pos fin = src at *
  generalize lc (s.data.toList.take pos) = A at *
  generalize lc (s.data.toList.take fin) = Z at *
  obtain ⟨l1, c1⟩ := A
  obtain ⟨l2, c2⟩ := Z
  simp only at hr1 hr2 hone hsrc hl2 ⊢
  have hlen := pieces_length s.data.toList
  rw [ba_toList_length] at hlen
  have hend := stAt_end s.data.toList
  rw [ba_toList_length] at hend
  have HR1 := Lib.hid hr1; have HR2 := Lib.hid hr2; have HF := Lib.hid hF; have HSRC := Lib.hid hsrc; have HEND := Lib.hid hend
  have hlb : l2 ≤ 1048577 := by omega
  clear hr1 hr2 hF hsrc hend hlen
  have hx1 : decide ((pos : Int) < 0) = false := by simp
  have hx2 : decide ((fin : Int) < 0) = false := by simp
  have hx3 : ((l1 : Int) == (l2 : Int)) = false := beq_eq_false_iff_ne.2 (by omega)
  have hx4 : decide ((l1 : Int) < (l2 : Int)) = true := by simp; omega
  go_enter Tryz.func91, Tryz.ntmps91
  go_wp2_with fail
  refine HR1.out.mono ?_
  rintro e w1 ⟨rfl, hl1, hg1⟩
  go_wp2_with fail
  refine (HR2.out _ hl1).mono ?_
  rintro e w2 ⟨rfl, hl2w, hg2⟩
  have HL2 := Lib.hid hl2w
  have hg := grownBy_trans hg1 hg2
  have HG := Lib.hid hg
  clear hl1 hg1 hg2 hg
  obtain ⟨v, hf2, hown⟩ := hl2w
  obtain ⟨x0, x1, x2, x3, x4⟩ := hf2.cells
  obtain ⟨g, cap, rfl⟩ : ∃ g cap, v = .slice (some ⟨g, 0, none⟩) ((pieces s.data.toList).length + 1) cap := by
    rcases hown.shape with ⟨_, h, _⟩ | ⟨g, cap, h, _⟩
    · omega
    · exact ⟨g, cap, h⟩
  have hgl := (hown.lt g rfl).2
  have HOWN := Lib.hid hown
  have HX1 := Lib.hid x1; have HX2 := Lib.hid x2; have HX0 := Lib.hid x0
  clear hown hf2 x0 x1 x2 x3
  go_wp2_with fail
  refine (invalid_any _ _).mono ?_
  rintro e w' ⟨rfl, rfl⟩
  rw [hx1]
  go_wp2_with fail
  refine (invalid_any _ _).mono ?_
  rintro e w' ⟨rfl, rfl⟩
  rw [hx2]
  have hB2 : Below W.heap.size W w2 := hB.grown HG.out hB.size (fun k hk => by injection hk with hk; omega)
  have hB3 : ∀ w', Below w2.heap.size w2 w' → Below W.heap.size W w' := fun w' h => hB2.trans (h.mono hB2.size)
  have HB3 := Lib.hid hB3
  clear hB2 hB3 hx1 hx2
  go_wp2_with fail
  clear hx3 hx4
  have hbf : Lib.IsBuffer 165 5 w2.heap.size w2.heap.size [] (w2.alloc (.cells #[.slice none 0 0, .int .i64 0, .int .i8 0] 165)) := (Lib.fresh_isBuffer 165 5 w2)
  have hb2 : Below w2.heap.size w2 (w2.alloc (.cells #[.slice none 0 0, .int .i64 0, .int .i8 0] 165)) := ((Below.refl _ _).alloc (Nat.le_refl _) _)
  generalize (w2.alloc (.cells #[.slice none 0 0, .int .i64 0, .int .i8 0] 165)) = w3 at *
  go_loopw [14] (fun i wr => ∃ k : Nat, l1 + k ≤ l2 + 1 ∧ i = .int .i64 ((l1 + k : Nat) : Int) ∧ Lib.IsBuffer 165 5 w2.heap.size w2.heap.size (Lib.byteCells (srcMany (pieces s.data.toList) l1 k)) wr ∧ Below w2.heap.size w2 wr) (fun i _ => l2 + 1 - (intOf i).toNat)
  case atStart => exact ⟨0, by omega, rfl, hbf, hb2⟩
  case round =>
    obtain ⟨k, hk, rfl, hbr, hbl⟩ := hrel
    clear hbf hb2
    have hszl := hbl.size
    by_cases hlt : l1 + k ≤ l2
    · obtain ⟨a, z, q, hL⟩ := lineAt s (l1 + k) (by omega)
      have HL := Lib.hid hL
      have k1 := hL.az; have k2 := hL.zl
      have hbig := srcMany_le s.data.toList l1 k (by omega) (by omega)
      have hmo := stAt_mono (pieces s.data.toList) (l1 + k) (pieces s.data.toList).length (by omega)
      rw [HEND.out] at hmo
      have hle : (srcMany (pieces s.data.toList) l1 k).length ≤ 30000000 := by omega
      have hsucc : srcMany (pieces s.data.toList) l1 (k + 1) = srcMany (pieces s.data.toList) l1 k ++ (if 0 < l1 + k then [10] else []) ++ srcLine (pieces s.data.toList) (l1 + k) := rfl
      have HSUCC := Lib.hid hsucc
      clear hL hbig hmo hsucc
      have y1 := HOWN.out.cellAt (l1 + k) (by omega)
      rw [posv_get _ _ (l1 + k) (by omega), HL.out.sa] at y1
      have y2 := HOWN.out.cellAt (l1 + k + 1) (by omega)
      rw [posv_get _ _ (l1 + k + 1) (by omega), HL.out.sz] at y2
      have Y1 := Lib.hid y1; have Y2 := Lib.hid y2
      clear y1 y2
      generalize hsm : srcMany (pieces s.data.toList) l1 (k + 1) = sm1 at *
      have HSM := Lib.hid hsm; clear hsm
      generalize hsl : srcLine (pieces s.data.toList) (l1 + k) = sline at *
      generalize srcMany (pieces s.data.toList) l1 k = sm at *
      have HSL := Lib.hid (HL.out.line)
      rw [hsl] at HSL
      clear hsl
      generalize (pieces s.data.toList).length = np at *
      generalize hj : l1 + k = j at *
      have HJ := Lib.hid hj; clear hj
      by_cases hj0 : 0 < j
      · rw [if_pos hj0] at HSUCC
        have hz0 : decide ((0 : Int) < (j : Int)) = true := by simp; omega
        go_wp2_with fail
        refine (Tryz.Buffer_WriteString_k _ _ _ ⟨#[10]⟩ wr hbr hszl (Lib.byteCells_one _) (by rw [Lib.byteCells_length]; show sm.length + 1 ≤ _; omega)).mono ?_
        rintro e wa ⟨rfl, hba, hbb, _⟩
        have hbla := hbl.trans hbb
        rw [← Lib.byteCells_append, show (⟨#[10]⟩ : ByteArray).data.toList = [10] from rfl] at hba
        clear hbr hbl hbb hz0 hszl
        have u1 : wa.cell? ⟨b, 1, none⟩ = some (.string s) := by rw [hbla.cell (p := ⟨b, 1, none⟩) x4]; exact HX1.out
        have u2 : wa.cell? ⟨b, 2, none⟩ = some (.slice (some ⟨g, 0, none⟩) (np + 1) cap) := by rw [hbla.cell (p := ⟨b, 2, none⟩) x4]; exact HX2.out
        have u3 : wa.cell? ⟨g, j, none⟩ = some (.int .i64 (a : Int)) := by rw [hbla.cell (p := ⟨g, j, none⟩) hgl]; exact Y1.out
        have u4 : wa.cell? ⟨g, j + 1, none⟩ = some (.int .i64 ((z + 1 : Nat) : Int)) := by rw [hbla.cell (p := ⟨g, j + 1, none⟩) hgl]; exact Y2.out
        have k6 : IntKind.i64.wrap ((j : Int) + 1) = (j : Int) + 1 := IntWalk.i64_in _ (by omega)
        have k7 : ((j : Int) + 1).toNat = j + 1 := by omega
        have k8 : (0 : Int) ≤ (j : Int) + 1 := by omega
        have k9 : ((j : Int) + 1) < ((np + 1 : Nat) : Int) := by omega
        have k9b : ((j : Int)) < ((np + 1 : Nat) : Int) := by omega
        have k10 : IntKind.i64.wrap (((z + 1 : Nat) : Int) - 1) = (z : Int) := by rw [show ((z + 1 : Nat) : Int) - 1 = (z : Int) from by omega]; exact IntWalk.i64_in _ (by omega)
        go_wp2_with fail
        go_quiet (fail)
        clear u1 u2 u3 u4 k6 k7 k8 k9 k9b k10
        go_wp2_with fail
        have hbn : Lib.IsBuffer 165 5 w2.heap.size w2.heap.size _ (wa.drewN nq) := hba
        have hbln := hbla.trans (below_drewN wa nq _)
        clear hba hbla
        generalize wa.drewN nq = wb at *
        refine (pad_any _ W wb hW (HB3.out _ hbln) (by omega) (by omega)).mono ?_
        rintro e wc ⟨rfl, hbc⟩
        rw [show ((j : Int) + 1).toNat = j + 1 from by omega]
        have hbc2 := isBuf_keep hbn hbc
        have hblc := hbln.trans (hbc.mono hbln.size)
        clear hbn hbln hbc
        have hpl : (⟨(padN (j + 1)).toArray⟩ : ByteArray).size ≤ 21 := by
          show (padN (j + 1)).toArray.size ≤ 21
          rw [List.size_toArray]
          exact padL_length _ (Lib.itoa_length_le _ (by omega) (by omega))
        have hpd : (⟨(padN (j + 1)).toArray⟩ : ByteArray).data.toList = padN (j + 1) := rfl
        generalize (⟨(padN (j + 1)).toArray⟩ : ByteArray) = P at *
        have hqz : (s.extract a z).size ≤ s.size := by simp; omega
        have hqd := HL.out.piece
        generalize s.extract a z = S at *
        have HPD := Lib.hid hpd; have HQD := Lib.hid hqd; clear hpd hqd
        go_wp2_with fail
        have hz1 : (P ++ ⟨#[124, 32, 32]⟩ ++ S : ByteArray).size ≤ 1048601 := by
          rw [ByteArray.size_append, ByteArray.size_append]
          show P.size + 3 + S.size ≤ _
          omega
        have hd1 : (P ++ ⟨#[124, 32, 32]⟩ ++ S : ByteArray).data.toList = sline := by
          rw [HSL.out]
          simp only [ByteArray.data_append, Array.toList_append, HPD.out, HQD.out]
        have HD1 := Lib.hid hd1; clear hd1
        generalize (P ++ ⟨#[124, 32, 32]⟩ ++ S : ByteArray) = T1 at *
        refine (Tryz.Buffer_WriteString_k _ _ _ T1 wc hbc2 hblc.size (Lib.byteCells_one _) (by rw [Lib.byteCells_length]; rw [List.length_append]; show sm.length + 1 + _ ≤ _; omega)).mono ?_
        rintro e wd ⟨rfl, hbd, hbb, _⟩
        have hbld := hblc.trans hbb
        rw [HD1.out, ← Lib.byteCells_append, ← HSUCC.out] at hbd
        clear hbc2 hblc hbb
        go_wp2_with fail
        go_roundw
        case rel => exact ⟨k + 1, by have := HJ.out; omega, by rw [← HJ.out]; go_num, by rw [HSM.out]; exact hbd, hbld⟩
        case measure => simp [intOf]; omega
      · rw [if_neg hj0, List.append_nil] at HSUCC
        have hz0 : decide ((0 : Int) < (j : Int)) = false := by simp; omega
        have hba := hbr
        have hbla := hbl
        clear hbr hbl hszl
        generalize wr = wa at *
        have u1 : wa.cell? ⟨b, 1, none⟩ = some (.string s) := by rw [hbla.cell (p := ⟨b, 1, none⟩) x4]; exact HX1.out
        have u2 : wa.cell? ⟨b, 2, none⟩ = some (.slice (some ⟨g, 0, none⟩) (np + 1) cap) := by rw [hbla.cell (p := ⟨b, 2, none⟩) x4]; exact HX2.out
        have u3 : wa.cell? ⟨g, j, none⟩ = some (.int .i64 (a : Int)) := by rw [hbla.cell (p := ⟨g, j, none⟩) hgl]; exact Y1.out
        have u4 : wa.cell? ⟨g, j + 1, none⟩ = some (.int .i64 ((z + 1 : Nat) : Int)) := by rw [hbla.cell (p := ⟨g, j + 1, none⟩) hgl]; exact Y2.out
        have k6 : IntKind.i64.wrap ((j : Int) + 1) = (j : Int) + 1 := IntWalk.i64_in _ (by omega)
        have k7 : ((j : Int) + 1).toNat = j + 1 := by omega
        have k8 : (0 : Int) ≤ (j : Int) + 1 := by omega
        have k9 : ((j : Int) + 1) < ((np + 1 : Nat) : Int) := by omega
        have k9b : ((j : Int)) < ((np + 1 : Nat) : Int) := by omega
        have k10 : IntKind.i64.wrap (((z + 1 : Nat) : Int) - 1) = (z : Int) := by rw [show ((z + 1 : Nat) : Int) - 1 = (z : Int) from by omega]; exact IntWalk.i64_in _ (by omega)
        go_wp2_with fail
        go_quiet (fail)
        clear u1 u2 u3 u4 k6 k7 k8 k9 k9b k10
        go_wp2_with fail
        have hbn : Lib.IsBuffer 165 5 w2.heap.size w2.heap.size _ (wa.drewN nq) := hba
        have hbln := hbla.trans (below_drewN wa nq _)
        clear hba hbla
        generalize wa.drewN nq = wb at *
        refine (pad_any _ W wb hW (HB3.out _ hbln) (by omega) (by omega)).mono ?_
        rintro e wc ⟨rfl, hbc⟩
        rw [show ((j : Int) + 1).toNat = j + 1 from by omega]
        have hbc2 := isBuf_keep hbn hbc
        have hblc := hbln.trans (hbc.mono hbln.size)
        clear hbn hbln hbc
        have hpl : (⟨(padN (j + 1)).toArray⟩ : ByteArray).size ≤ 21 := by
          show (padN (j + 1)).toArray.size ≤ 21
          rw [List.size_toArray]
          exact padL_length _ (Lib.itoa_length_le _ (by omega) (by omega))
        have hpd : (⟨(padN (j + 1)).toArray⟩ : ByteArray).data.toList = padN (j + 1) := rfl
        generalize (⟨(padN (j + 1)).toArray⟩ : ByteArray) = P at *
        have hqz : (s.extract a z).size ≤ s.size := by simp; omega
        have hqd := HL.out.piece
        generalize s.extract a z = S at *
        have HPD := Lib.hid hpd; have HQD := Lib.hid hqd; clear hpd hqd
        go_wp2_with fail
        have hz1 : (P ++ ⟨#[124, 32, 32]⟩ ++ S : ByteArray).size ≤ 1048601 := by
          rw [ByteArray.size_append, ByteArray.size_append]
          show P.size + 3 + S.size ≤ _
          omega
        have hd1 : (P ++ ⟨#[124, 32, 32]⟩ ++ S : ByteArray).data.toList = sline := by
          rw [HSL.out]
          simp only [ByteArray.data_append, Array.toList_append, HPD.out, HQD.out]
        have HD1 := Lib.hid hd1; clear hd1
        generalize (P ++ ⟨#[124, 32, 32]⟩ ++ S : ByteArray) = T1 at *
        refine (Tryz.Buffer_WriteString_k _ _ _ T1 wc hbc2 hblc.size (Lib.byteCells_one _) (by rw [Lib.byteCells_length]; omega)).mono ?_
        rintro e wd ⟨rfl, hbd, hbb, _⟩
        have hbld := hblc.trans hbb
        rw [HD1.out, ← Lib.byteCells_append, ← HSUCC.out] at hbd
        clear hbc2 hblc hbb
        go_wp2_with fail
        go_roundw
        case rel => exact ⟨k + 1, by have := HJ.out; omega, by rw [← HJ.out]; go_num, by rw [HSM.out]; exact hbd, hbld⟩
        case measure => simp [intOf]; omega
    · have hke : k = l2 + 1 - l1 := by omega
      have hbf9 : Lib.IsBuffer 165 5 w2.heap.size w2.heap.size (Lib.byteCells src) wr := by
        rw [HSRC.out, ← hke]; exact hbr
      have hc0 : wr.cell? ⟨b, 0, none⟩ = some (.string p) := by
        rw [hbl.cell (p := ⟨b, 0, none⟩) x4]
        exact HX0.out
      have hstr := fun n => Tryz.Buffer_String w2.heap.size w2.heap.size src (wr.drewN n) hbf9
      have HSTR := Lib.hid hstr
      have hlk : ¬ (((l1 + k : Nat) : Int) ≤ (l2 : Int)) := by omega
      have hlk2 : decide (((l1 + k : Nat) : Int) ≤ (l2 : Int)) = false := by simp; omega
      clear hbf9 hstr hke hbr hlt hk
      generalize l1 + k = j at *
      go_wp2_with fail
      go_region_held3 (fun w' => w'.cell? ⟨b, 0, none⟩ = some (.string p)) (go_keep)
        (first | (go_at_call 102; refine (HSTR.out 1).mono ?_; rintro e w' ⟨rfl, n, rfl⟩))
      go_wp2_with fail
      go_ret
      have hsz28 := hbl.size
      exact pos_made HG.out HL2.out hbl _ _
theorem position_any (b pos fin : Nat) (p s : ByteArray) (W w : World) (hW : Tab W) (hB : Below W.heap.size W w) (hb : W.heap.size ≤ b) (hs : s.size ≤ 1048576) (hpf : pos ≤ fin) (hf : fin ≤ s.size) (hF : FileOk w b p s) :
    Calls Tryz.prog 91 #[.pointer (some ⟨b, 0, none⟩), .int .i64 pos, .int .i64 fin] w (PosMade w b p s pos fin) := by
  rcases Nat.lt_or_ge (lc (s.data.toList.take pos)).1 (lc (s.data.toList.take fin)).1 with h | h
  · exact position_many b pos fin p s W w hW hB hb hs hpf hf hF h
  · exact position_one b pos fin p s W w hW hB hb hs hpf hf hF (Nat.le_antisymm (lc_mono _ _ _ hpf) h)
end Go.Proofs.YtcelnnjjakiehaaGreatDoor
