/-
  The contract of SplitRawStatements.
-/
import Derived.Test.YtcelnnjjakiehaaGreatDoorLaid
import Derived.Test.YtcelnnjjakiehaaGreatDoorPlaw3
import Derived.Deep.RegionHeld3
import Derived.Deep.RegionLaw
namespace Go.Proofs.YtcelnnjjakiehaaGreatDoor
open Go.RowKit
set_option linter.unusedVariables false
set_option maxRecDepth 1000000
set_option maxHeartbeats 4000000

/-- the cells of a statement -/
def rawCells (s : ByteArray) (x : Nat × Nat) : Array Value := #[.int .i64 (x.1 : Int), .int .i64 (x.2 : Int), .string (s.extract x.1 x.2)]
theorem rawCells_zero (s : ByteArray) : rawCells s (0, 0) = #[.int .i64 0, .int .i64 0, .string ⟨#[]⟩] := by
  have e : s.extract 0 0 = ⟨#[]⟩ := by
    apply ba_ext
    rw [Lib.extract_data]
    rfl
  unfold rawCells
  rw [e]
  rfl
/-- v is a row of pointers to statements -/
def Raws (w : World) (B : Nat) (s : ByteArray) (v : Value) (S : List (Nat × Nat)) : Prop :=
  ∃ bs : List Nat, Own w B 88 1 v S.length (bs.map fun b => .pointer (some ⟨b, 0, none⟩)) ∧ bs.length = S.length ∧ ∀ (i b : Nat), bs[i]? = some b → ∃ x : Nat × Nat, S[i]? = some x ∧ B ≤ b ∧ w.heap[b]? = some (.cells (rawCells s x) 90 (0, 0))
theorem Raws.nil (w : World) (B : Nat) (s : ByteArray) : Raws w B s (.slice none 0 0) [] := ⟨[], Own.nil _ _ _ _, rfl, fun i b h => by simp at h⟩
theorem Raws.keptE {w w' : World} {B : Nat} {s : ByteArray} {v : Value} {S : List (Nat × Nat)} (h : Raws w B s v S) (hk : ∀ b, B ≤ b → b < w.heap.size → w'.heap[b]? = w.heap[b]?) : Raws w' B s v S := by
  obtain ⟨bs, h1, h2, h3⟩ := h
  refine ⟨bs, h1.keptB (fun g hg => hk g (h1.lt g hg).1 (h1.lt g hg).2), h2, fun i b hb => ?_⟩
  obtain ⟨x, e1, e2, e3⟩ := h3 i b hb
  exact ⟨x, e1, e2, (hk b e2 (Array.getElem?_eq_some_iff.1 e3).1).trans e3⟩
theorem Raws.below {w w' : World} {B : Nat} {s : ByteArray} {v : Value} {S : List (Nat × Nat)} (h : Raws w B s v S) (hb : Below w.heap.size w w') : Raws w' B s v S := h.keptE fun b _ h2 => hb.block b h2
theorem Raws.mono {w : World} {B B' : Nat} {s : ByteArray} {v : Value} {S : List (Nat × Nat)} (h : Raws w B s v S) (hb : B' ≤ B) : Raws w B' s v S := by
  obtain ⟨bs, h1, h2, h3⟩ := h
  refine ⟨bs, h1.mono hb, h2, fun i b hb2 => ?_⟩
  obtain ⟨x, e1, e2, e3⟩ := h3 i b hb2
  exact ⟨x, e1, by omega, e3⟩
theorem Raws.shape {w : World} {B : Nat} {s : ByteArray} {v : Value} {S : List (Nat × Nat)} (h : Raws w B s v S) : ∃ pv cap, v = .slice pv S.length cap := by
  obtain ⟨bs, h1, _⟩ := h
  exact own_shape2 h1
theorem own_rows {w : World} {B e n : Nat} {g : Nat} {v : Value} {xs : List Value} {z : Nat} (h : Own w B e z v n xs) (hg : v.ownBlock = some g) : ∃ cur fz, w.heap[g]? = some (.cells cur e fz) := by
  rcases h.2 with ⟨rfl, _⟩ | ⟨g', cap, cur, fz, rfl, _, hc, _⟩
  · cases hg
  · injection hg with hg
    subst hg
    exact ⟨cur, fz, hc⟩
/-- behind an append -/
theorem Raws.app {w w' : World} {B : Nat} {s : ByteArray} {v v' : Value} {S : List (Nat × Nat)} (bs : List Nat) (h1 : Own w B 88 1 v S.length (bs.map fun b => .pointer (some ⟨b, 0, none⟩))) (h2 : bs.length = S.length)
    (h3 : ∀ (i b : Nat), bs[i]? = some b → ∃ x : Nat × Nat, S[i]? = some x ∧ B ≤ b ∧ w.heap[b]? = some (.cells (rawCells s x) 90 (0, 0))) (hB : B ≤ w.heap.size) (x : Nat × Nat)
    (hg : ((w.alloc (.cells (rawCells s x) 90)).alloc (.cells #[.pointer (some ⟨w.heap.size, 0, none⟩)] 88)).grownBy w' v.ownBlock)
    (ho' : Own w' B 88 1 v' (S.length + 1) ((bs.map fun b => .pointer (some ⟨b, 0, none⟩)) ++ [.pointer (some ⟨w.heap.size, 0, none⟩)])) : Raws w' B s v' (S ++ [x]) := by
  have hnew := heap_alloc_new w (.cells (rawCells s x) 90)
  refine ⟨bs ++ [w.heap.size], by simpa using ho', by simp [h2], fun i b hb => ?_⟩
  rcases Nat.lt_or_ge i bs.length with hi | hi
  · rw [List.getElem?_append_left hi] at hb
    obtain ⟨y, e1, e2, e3⟩ := h3 i b hb
    have hbl := (Array.getElem?_eq_some_iff.1 e3).1
    refine ⟨y, by rw [List.getElem?_append_left (by omega)]; exact e1, e2, ?_⟩
    rw [hg.block b (by simp; omega) (by
      intro e
      obtain ⟨cur, fz, hc⟩ := own_rows h1 e.symm
      rw [e3] at hc
      injection hc with hc
      injection hc with _ hc _
      exact absurd hc (by decide))]
    rw [Below.heap_alloc _ _ _ (by simp; omega), Below.heap_alloc _ _ _ hbl]
    exact e3
  · have hil : i = bs.length := by
      have := (List.getElem?_eq_some_iff.1 hb).1
      simp at this
      omega
    subst hil
    simp at hb
    subst hb
    refine ⟨x, by rw [h2]; simp, hB, ?_⟩
    rw [hg.block _ (by simp; omega) (by
      intro e
      have := (h1.lt _ e.symm).2
      omega), Below.heap_alloc _ _ _ (by simp)]
    exact hnew
theorem Raws.one (w : World) (B : Nat) (s : ByteArray) (hB : B ≤ w.heap.size) : Raws ((w.alloc (.cells (rawCells s (0, 0)) 90)).alloc (.cells #[.pointer (some ⟨w.heap.size, 0, none⟩)] 88)) B s (.slice (some ⟨w.heap.size + 1, 0, none⟩) 1 1) [(0, 0)] := by
  have hs1 : (w.alloc (.cells (rawCells s (0, 0)) 90)).heap.size = w.heap.size + 1 := by simp
  have hm := Own.made (base := B) (e := 88) (size := 1) (w.alloc (.cells (rawCells s (0, 0)) 90)) #[.pointer (some ⟨w.heap.size, 0, none⟩)] 1 1 (by simp; omega) (Nat.le_refl _) (by unfold maxLen; omega) rfl
  rw [hs1] at hm
  refine ⟨[w.heap.size], hm, rfl, fun i b hb => ?_⟩
  · have hi : i = 0 := by
      have := (List.getElem?_eq_some_iff.1 hb).1
      simp at this
      omega
    subst hi
    simp at hb
    subst hb
    refine ⟨(0, 0), rfl, hB, ?_⟩
    rw [Below.heap_alloc _ _ _ (by simp)]
    exact heap_alloc_new _ _
theorem next_end (l last : List UInt8) (dot : Bool) : next l last dot l.length = .ok ⟨kEof, [], [], [], [], 0, l.length, l.length⟩ false := by
  have hz : spLen [] = 0 := spLen_stop [] rfl
  have hl2 : lead l.length (l.drop l.length) [] = .ok [] [] l.length := by
    rw [List.drop_length, lead_no _ [] [] (by rw [hz]; rfl), hz]; rfl
  have := next_mk (last := last) (dot := dot) hl2 (tk := ⟨kEof, [], 0, 0, none⟩) (by rw [List.drop_length]; exact anyTok_nil _ _)
  rw [this, List.drop_length]
  cases dot <;> rfl
theorem next_first {l last : List UInt8} {dot : Bool} {p : Nat} {t : TkF} {d : Bool} (hp : p ≤ l.length) (h : next l last dot p = .ok t d) : p ≤ firstT t ∧ firstT t ≤ t.pos := by
  obtain ⟨h1, t', h2, h3, h4, h5⟩ := next_skip h
  have hs := spLen_le (l.drop p)
  rw [List.length_drop] at hs
  have h6 := next_text _ _ _ _ _ _ (by omega) h2
  omega
/-- what the statements behind a token are -/
def future (K : List UInt8) (tp first : Nat) (T : List TkF) : List (Nat × Nat) := if K = kSemi then (first, tp) :: splitT T ((T.head?.map firstT).getD 0) else splitT T first
/-- one for a semicolon -/
def semiN (K : List UInt8) : Nat := if K = kSemi then 1 else 0
theorem semiN_le (K : List UInt8) : semiN K ≤ 1 := by unfold semiN; split <;> omega
theorem semiN_yes {K : List UInt8} (h : K = kSemi) : semiN K = 1 := if_pos h
theorem semiN_no {K : List UInt8} (h : K ≠ kSemi) : semiN K = 0 := if_neg h
/-- the lexer has read a token, S are the statements so far, first is where the next one begins -/
def SplSt (s : ByteArray) (A : List TkF × Option Nat) (x : LexSt) (S : List (Nat × Nat)) (first : Nat) : Prop :=
  first ≤ x.pos ∧ S.length ≤ x.pos ∧ (x.kind.data.toList = kSemi → S.length + 1 ≤ x.pos ∧ ∃ tp : Nat, x.tpos = tp ∧ first ≤ tp ∧ tp ≤ s.size) ∧
  ((x.kind.data.toList = kEof ∧ x.pos = s.size ∧ A.2 = none ∧ splitT A.1 0 = S ++ (if s.size = first then [] else [(first, s.size)])) ∨
   (x.kind.data.toList ≠ kEof ∧ ∃ k, s.size - x.pos < k ∧ lexGood s.data.toList k x.kind.data.toList x.dot x.pos ∧ A.2 = (lexRun s.data.toList k x.kind.data.toList x.dot x.pos).2 ∧
     (A.2 = none → splitT A.1 0 = S ++ future x.kind.data.toList x.tpos.toNat first (lexRun s.data.toList k x.kind.data.toList x.dot x.pos).1)))
section
variable {s : ByteArray} {A : List TkF × Option Nat} {x : LexSt} {S : List (Nat × Nat)} {first : Nat}
theorem SplSt.good (h : SplSt s A x S first) : (next s.data.toList x.kind.data.toList x.dot x.pos).good s.size := by
  rcases h.2.2.2 with ⟨_, h2, _⟩ | ⟨_, k, h1, h2, _⟩
  · rw [h2, ← ba_toList_length, next_end]
    exact Nat.le_refl _
  · obtain ⟨k, rfl⟩ : ∃ m, k = m + 1 := ⟨k - 1, by omega⟩
    have := h2.1
    rw [ba_toList_length] at this
    exact this
theorem SplSt.err (h : SplSt s A x S first) {p q : Nat} (hn : next s.data.toList x.kind.data.toList x.dot x.pos = .err p q) : A.2 ≠ none := by
  rcases h.2.2.2 with ⟨_, h2, _⟩ | ⟨_, k, h1, h2, h3, _⟩
  · rw [h2, ← ba_toList_length, next_end] at hn
    cases hn
  · obtain ⟨k, rfl⟩ : ∃ m, k = m + 1 := ⟨k - 1, by omega⟩
    rw [lexRun, hn] at h3
    rw [h3]
    intro e
    cases e
theorem SplSt.semi (h : SplSt s A x S first) (hp : x.pos ≤ s.size) (hk : x.kind.data.toList = kSemi) {u : TkF} {d : Bool} (hn : next s.data.toList x.kind.data.toList x.dot x.pos = .ok u d) (v : Value) :
    SplSt s A (x.nextd u d v) (S ++ [(first, x.tpos.toNat)]) (firstT u) ∧ 2 * (s.size - u.fin) + semiN u.kind < 2 * (s.size - x.pos) + 1 := by
  obtain ⟨a1, a2, a3, a4⟩ := h
  obtain ⟨b1, tp, b2, b3, b4⟩ := a3 hk
  rcases a4 with ⟨c1, _⟩ | ⟨c1, k, c2, c3, c4, c5⟩
  · rw [hk] at c1; exact absurd c1 (by decide)
  obtain ⟨k, rfl⟩ : ∃ m, k = m + 1 := ⟨k - 1, by omega⟩
  have h1 := next_text _ _ _ _ _ _ (by rw [ba_toList_length]; exact hp) hn
  have h2 := next_real _ _ _ _ _ _ (by rw [ba_toList_length]; exact hp) hn
  have h3 := next_first (by rw [ba_toList_length]; exact hp) hn
  rw [ba_toList_length] at h1 h2
  rw [lexRun, hn] at c4 c5
  simp only at c4 c5
  unfold future at c5
  rw [if_pos hk] at c5
  have hnd : (x.nextd u d v).kind.data.toList = u.kind := rfl
  have hnp : (x.nextd u d v).pos = u.fin := rfl
  have hnt : (x.nextd u d v).tpos = ((u.pos : Nat) : Int) := rfl
  by_cases hke : u.kind = kEof
  · have hf := h2.1 hke
    rw [if_pos hke] at c4 c5
    refine ⟨⟨by rw [hnp]; omega, by rw [hnp, List.length_append]; simp; omega, fun e => ?_, .inl ⟨hke, by rw [hnp]; exact hf.1, c4, ?_⟩⟩, ?_⟩
    · rw [hnd, hke] at e; exact absurd e (by decide)
    · rw [c5 c4]
      show S ++ (first, x.tpos.toNat) :: splitT [u] (firstT u) = _
      rw [splitT, if_neg (by rw [hke]; decide), if_pos hke, hf.2.1]
      simp
    · rw [semiN_no (by rw [hke]; decide)]; omega
  · have hf := h2.2 hke
    rw [if_neg hke] at c4 c5
    refine ⟨⟨by rw [hnp]; omega, by rw [hnp, List.length_append]; simp; omega, fun e => ⟨by rw [hnp, List.length_append]; simp; omega, u.pos, hnt, h3.2, by omega⟩, .inr ⟨hke, k, by rw [hnp]; omega, ?_, c4, ?_⟩⟩, ?_⟩
    · have := c3.2
      rw [hn] at this
      exact this.resolve_left hke
    · intro e
      rw [c5 e]
      show S ++ (first, x.tpos.toNat) :: splitT (u :: _) (firstT u) = _
      rw [splitT]
      unfold future
      rw [hnd, hnt, Int.toNat_natCast]
      by_cases hks : u.kind = kSemi
      · rw [if_pos hks, if_pos hks]; simp; rfl
      · rw [if_neg hks, if_neg hks, if_neg hke]; simp; rfl
    · have := semiN_le u.kind; omega
theorem SplSt.other (h : SplSt s A x S first) (hp : x.pos ≤ s.size) (hk : x.kind.data.toList ≠ kSemi) {u : TkF} {d : Bool} (hn : next s.data.toList x.kind.data.toList x.dot x.pos = .ok u d) (v : Value) :
    (u.kind = kEof → A.2 = none ∧ splitT A.1 0 = S ++ (if u.pos = first then [] else [(first, u.pos)]) ∧ first ≤ u.pos ∧ u.pos = s.size) ∧
    (u.kind ≠ kEof → SplSt s A (x.nextd u d v) S first ∧ 2 * (s.size - u.fin) + semiN u.kind < 2 * (s.size - x.pos)) := by
  obtain ⟨a1, a2, a3, a4⟩ := h
  have h1 := next_text _ _ _ _ _ _ (by rw [ba_toList_length]; exact hp) hn
  have h2 := next_real _ _ _ _ _ _ (by rw [ba_toList_length]; exact hp) hn
  rw [ba_toList_length] at h1 h2
  have hnd : (x.nextd u d v).kind.data.toList = u.kind := rfl
  have hnp : (x.nextd u d v).pos = u.fin := rfl
  have hnt : (x.nextd u d v).tpos = ((u.pos : Nat) : Int) := rfl
  rcases a4 with ⟨c1, c2, c3, c4⟩ | ⟨c1, k, c2, c3, c4, c5⟩
  · have he : u.kind = kEof ∧ u.pos = s.size := by
      rw [c2, ← ba_toList_length, next_end] at hn
      cases hn
      exact ⟨rfl, ba_toList_length s⟩
    exact ⟨fun _ => ⟨c3, by rw [c4, he.2], by omega, he.2⟩, fun hne => absurd he.1 hne⟩
  obtain ⟨k, rfl⟩ : ∃ m, k = m + 1 := ⟨k - 1, by omega⟩
  rw [lexRun, hn] at c4 c5
  simp only at c4 c5
  unfold future at c5
  rw [if_neg hk] at c5
  refine ⟨fun hke => ?_, fun hke => ?_⟩
  · have hf := h2.1 hke
    rw [if_pos hke] at c4 c5
    refine ⟨c4, ?_, by omega, hf.2.1⟩
    rw [c5 c4]
    show S ++ splitT [u] first = _
    rw [splitT, if_neg (by rw [hke]; decide), if_pos hke]
  · have hf := h2.2 hke
    rw [if_neg hke] at c4 c5
    refine ⟨⟨by rw [hnp]; omega, by rw [hnp]; omega, fun e => ⟨by rw [hnp]; omega, u.pos, hnt, by omega, by omega⟩, .inr ⟨hke, k, by rw [hnp]; omega, ?_, c4, ?_⟩⟩, ?_⟩
    · have := c3.2
      rw [hn] at this
      exact this.resolve_left hke
    · intro e
      rw [c5 e]
      show S ++ splitT (u :: _) first = _
      rw [splitT]
      unfold future
      rw [hnd, hnt, Int.toNat_natCast]
      by_cases hks : u.kind = kSemi
      · rw [if_pos hks, if_pos hks]; rfl
      · rw [if_neg hks, if_neg hks, if_neg hke]; rfl
    · have := semiN_le u.kind; omega
theorem SplSt.start (s : ByteArray) (hg : lexGood s.data.toList (s.size + 1) [] false 0) : SplSt s (lexAll s.data.toList) .start [] 0 := by
  refine ⟨Nat.le_refl _, Nat.le_refl _, fun h => ?_, .inr ⟨?_, s.size + 1, by show s.size - 0 < _; omega, hg, ?_, fun _ => ?_⟩⟩
  · cases h
  · intro h; cases h
  · unfold lexAll; rw [ba_toList_length]; rfl
  · unfold lexAll; rw [ba_toList_length]; rfl
end
theorem info_rp : (Tryz.prog.info? 88).map (fun i => (i.zero, i.size, i.bytes)) = some (some (.pointer none), 1, 8) := by kernel_rfl
theorem splitRaw_any {W w : World} (s : ByteArray) (hL : LaidE W) (hb : Below W.heap.size W w) (hs : s.size ≤ 1048576) (hg : lexGood s.data.toList (s.size + 1) [] false 0) :
    Calls Tryz.prog 48 #[.string ⟨#[]⟩, .string s] w fun e w' => ∃ v ev, e = .returned (.tuple #[v, ev]) ∧ Below w.heap.size w w' ∧
      (((lexAll s.data.toList).2 = none ∧ ev = .nilIface ∧ Raws w' w.heap.size s v (splitAll s.data.toList)) ∨ ((lexAll s.data.toList).2 ≠ none ∧ ∃ EB, ev = .iface 72 (.pointer (some ⟨EB, 0, none⟩)))) := by
  obtain ⟨i0, hinf, hz0, hz1, hz2⟩ := info_parts info_rp
  have hlow := hb.size
  have s1 : (w.alloc (.cells #[.string ⟨#[]⟩, .string s, .slice none 0 0] 71)).heap.size = w.heap.size + 1 := by simp
  have h1 := heap_alloc_new w (.cells #[.string ⟨#[]⟩, .string s, .slice none 0 0] 71)
  have h2 := heap_alloc_new (w.alloc (.cells #[.string ⟨#[]⟩, .string s, .slice none 0 0] 71)) (.cells (LexSt.start.cells w.heap.size) 64)
  rw [s1] at h2
  have hbb : Below w.heap.size w ((w.alloc (.cells #[.string ⟨#[]⟩, .string s, .slice none 0 0] 71)).alloc (.cells (LexSt.start.cells w.heap.size) 64)) := ((Below.refl _ _).alloc (Nat.le_refl _) _).alloc (by omega) _
  have hC : Cur W ((w.alloc (.cells #[.string ⟨#[]⟩, .string s, .slice none 0 0] 71)).alloc (.cells (LexSt.start.cells w.heap.size) 64)) (w.heap.size + 1) w.heap.size s .start ((w.alloc (.cells #[.string ⟨#[]⟩, .string s, .slice none 0 0] 71)).alloc (.cells (LexSt.start.cells w.heap.size) 64)) := by
    refine ⟨hL.laid, hb.trans (hbb.mono hlow), by omega, hlow, hs, Nat.zero_le _, ⟨h2, ?_⟩, grownBy_refl _ _⟩
    rw [show ∀ o, ((w.alloc (.cells #[.string ⟨#[]⟩, .string s, .slice none 0 0] 71)).alloc o).heap[w.heap.size]? = _ from fun o => Below.heap_alloc (w.alloc (.cells #[.string ⟨#[]⟩, .string s, .slice none 0 0] 71)) o w.heap.size (by omega)]
    exact h1
  have hst := SplSt.start s hg
  have hall : splitAll s.data.toList = if splitT (lexAll s.data.toList).1 0 = [] then [(0, 0)] else splitT (lexAll s.data.toList).1 0 := rfl
  rw [hall]
  clear hall
  obtain ⟨F, hF⟩ : ∃ F, F = if splitT (lexAll s.data.toList).1 0 = [] then [(0, 0)] else splitT (lexAll s.data.toList).1 0 := ⟨_, rfl⟩
  rw [← hF]
  generalize lexAll s.data.toList = A at *
  have HFF := Lib.hid hF; clear hF
  have HC := Lib.hid hC; have HB := Lib.hid hbb; have HST := Lib.hid hst
  have HBW := Lib.hid hb
  clear hC hbb hst h1 h2 s1 hg hL hb
  go_enter Tryz.func48, Tryz.ntmps48
  go_wp2_with fail
  change Code.wp _ _ _ _ ((w.alloc (.cells #[.string ⟨#[]⟩, .string s, .slice none 0 0] 71)).alloc (.cells (LexSt.start.cells w.heap.size) 64))
  generalize hwl : (w.alloc (.cells #[.string ⟨#[]⟩, .string s, .slice none 0 0] 71)).alloc (.cells (LexSt.start.cells w.heap.size) 64) = wl at *
  have hwls : wl.heap.size = w.heap.size + 2 := by rw [← hwl]; simp
  clear hwl
  go_loopg [7, 8] (2 * (s.size - LexSt.start.pos) + semiN LexSt.start.kind.data.toList) (fun g v f wx => ∃ (x : LexSt) (S : List (Nat × Nat)) (first : Nat), Cur W wl (w.heap.size + 1) w.heap.size s x wx ∧ Raws wx (w.heap.size + 2) s v S ∧ f = .int .i64 (first : Int) ∧ SplSt s A x S first ∧ g = 2 * (s.size - x.pos) + semiN x.kind.data.toList)
  case atStart => exact ⟨.start, [], 0, HC.out, Raws.nil _ _ _, rfl, HST.out, rfl⟩
  case round =>
    obtain ⟨x, S, first, hC, hR, rfl, hS, rfl⟩ := hrel
    have hpos := hC.pos
    have hgood := hS.good
    obtain ⟨pv, cap, rfl⟩ := hR.shape
    have k1 := (hC.lex.cell 1).1
    have k7 := (hC.lex.cell 7).1
    simp only [LexSt.cells, List.getElem?_toArray, List.getElem?_cons_succ, List.getElem?_cons_zero] at k1 k7
    have hSl := hS.2.1
    have hfp := hS.1
    by_cases hk : x.kind.data.toList = kSemi
    · obtain ⟨b1, tp, b2, b3, b4⟩ := hS.2.2.1 hk
      have hkk : x.kind = ⟨#[59]⟩ := by apply ba_ext; exact hk
      rw [b2] at k7
      rw [hkk] at k1
      have hsem := fun u d hn v => hS.semi hpos hk (u := u) (d := d) hn v
      have herr := fun p q hn => hS.err (p := p) (q := q) hn
      rw [b2, Int.toNat_natCast] at hsem
      have HC := Lib.hid hC; have HR := Lib.hid hR; have HSEM := Lib.hid hsem; have HERR := Lib.hid herr; have HGOOD := Lib.hid hgood; have HK := Lib.hid hk; have HKK := Lib.hid hkk; have HB2 := Lib.hid b2
      clear hC hR hsem herr hgood hS hk hkk HST b2
      go_wp2_with fail
      obtain ⟨bs, o1, o2, o3⟩ := HR.out
      have O1 : Hid (Own (wr.drewN 1) (w.heap.size + 2) 88 1 (.slice pv S.length cap) S.length (bs.map fun b => .pointer (some ⟨b, 0, none⟩))) := Lib.hid (o1.keptB fun _ _ => rfl)
      have O3 : Hid (∀ (i b : Nat), bs[i]? = some b → ∃ x : Nat × Nat, S[i]? = some x ∧ w.heap.size + 2 ≤ b ∧ (wr.drewN 1).heap[b]? = some (.cells (rawCells s x) 90 (0, 0))) := Lib.hid o3
      have HGD : Hid (wr.grownBy (wr.drewN 1) (Value.slice pv S.length cap).ownBlock) := Lib.hid ⟨rfl, rfl, rfl, Nat.le_refl _, fun _ _ _ => rfl⟩
      have hwb : w.heap.size + 2 ≤ wr.heap.size := by have := HC.out.grow.size; omega
      have HWB : Hid (w.heap.size + 2 ≤ (wr.drewN 1).heap.size) := Lib.hid hwb
      clear o1 o3
      go_region_held3 (fun w' => w'.cell? ⟨w.heap.size + 1, 7, none⟩ = some (.int .i64 (tp : Int))) (first | exact k7 | assumption | go_keep)
        (first | (refine step_append_Own rfl (.tmp 23) (.tmp 40) 85 rfl (w.heap.size + 2) 88 i0 (.pointer none) 1 8 Tryz.underlying85 hinf hz0 hz1 hz2 rfl (by decide) _ _ _ rfl ((O1.out.alloc _).alloc _) ⟨wr.heap.size + 1, 0, none⟩ 1 1 [.pointer (some ⟨wr.heap.size, 0, none⟩)] rfl rfl (cell_arr _ _ _ _ _ rfl (by simp)) (by simp [Value.oneCell']) (by unfold maxLen; omega) (by omega) (by simp; omega) ?_; intro v' w4 hown5 hg5; have hR4 : Raws w4 (w.heap.size + 2) s v' (S ++ [(first, tp)]) := Raws.app (w := wr.drewN 1) bs O1.out o2 O3.out HWB.out (first, tp) hg5 hown5; have hg6 : wr.grownBy w4 (Value.slice pv S.length cap).ownBlock := grownBy_trans HGD.out (grownBy_trans (grownBy_trans (World.grownBy_alloc _ _ _) (World.grownBy_alloc _ _ _)) hg5); have hC4 := HC.out.keepG hg6 (by intro b e; have := (O1.out.lt b e).1; omega) (by omega) (by omega); obtain ⟨pv3, cap3, hv3⟩ := hR4.shape; rw [show (S ++ [(first, tp)]).length = S.length + 1 from by simp] at hv3; subst hv3; have k7b := (hC4.lex.cell 7).1; simp only [LexSt.cells, List.getElem?_toArray, List.getElem?_cons_succ, List.getElem?_cons_zero] at k7b; rw [HB2.out] at k7b))
      clear hown5 hg5 hg6 HGD O1 O3 o2 HR HC hwb HWB k7 k7b
      have hN := nextTokenE_any hC4.own HGOOD.out
      have HC := Lib.hid hC4; have HR := Lib.hid hR4
      clear hC4 hR4
      cases hnx : next s.data.toList x.kind.data.toList x.dot x.pos with
      | err p q =>
        have HAE := Lib.hid (HERR.out p q hnx)
        rw [hnx] at hN
        clear hnx HERR HSEM HGOOD HK HKK
        go_wp2_with fail
        have HN := Lib.hid hN
        clear hN
        refine HN.out.mono ?_
        rintro e w5 ⟨EB, rfl, hE⟩
        have HE := Lib.hid hE
        clear hE HN
        go_wp2_with fail
        refine bodyPost_ret (v := .tuple #[.slice none 0 0, .iface 72 (.pointer (some ⟨EB, 0, none⟩))]) (by simp [results, Tryz.results48, go_sem]) rfl ⟨_, _, rfl, ?_, .inr ⟨HAE.out, EB, rfl⟩⟩
        obtain ⟨PB, _, _, _, _, e5, e6, e7⟩ := HE.out
        have hgr := HC.out.grow
        have h6 := HB.out
        have h8 := hgr.size
        refine ⟨e5.os.trans HBW.out.os.symm, e5.tape.trans HBW.out.tape.symm, e5.output.trans HBW.out.output.symm, by omega, fun b hbk => ?_⟩
        rw [e7 b (by omega) (by omega) (by omega), hgr.block b (by omega) (by intro e; injection e with e; omega)]
        exact h6.block b hbk
      | ok u d =>
        have HSEM2 := Lib.hid (fun v => HSEM.out u d hnx v)
        have hff := next_first (by rw [ba_toList_length]; exact hpos) hnx
        have htx := next_text _ _ _ _ _ _ (by rw [ba_toList_length]; exact hpos) hnx
        have hct := next_count _ _ _ _ _ _ hnx
        rw [hnx] at hN
        rw [ba_toList_length] at htx
        have hfs := htx.2.2.1
        have hpf : u.pos ≤ u.fin := by omega
        have HN := Lib.hid hN
        clear hN hnx HERR HSEM HGOOD htx
        go_wp2_with fail
        refine HN.out.mono ?_
        rintro e w5 ⟨vc, Bc, rfl, hNA⟩
        obtain ⟨pc, cc, rfl⟩ := own_shape2 hNA.own
        have hC5 := (hNA.from HC.out.grow).cur
        have hR5 : Raws w5 (w.heap.size + 2) s (.slice pv3 (S.length + 1) cap3) (S ++ [(first, tp)]) := HR.out.keptE (fun b h1 h2 => hNA.cur.grow.block b h2 (by intro e; injection e with e; omega))
        have j2 := (hNA.cur.lex.cell 2).1
        have j7 := (hNA.cur.lex.cell 7).1
        simp only [LexSt.cells, LexSt.nextd, List.getElem?_toArray, List.getElem?_cons_succ, List.getElem?_cons_zero] at j2 j7
        obtain ⟨st1, st2⟩ := HSEM2.out (.slice pc u.coms.length cc)
        have hown := hNA.own
        have HC5 := Lib.hid hC5; have HR5 := Lib.hid hR5; have HS5 := Lib.hid st1; have HM5 := Lib.hid st2
        clear hNA hC5 hR5 st1 st2 HC HR HN HSEM2
        cases hcs : u.coms with
        | nil =>
          have hft : firstT u = u.pos := by unfold firstT; rw [hcs]; rfl
          rw [hcs] at j2 hown
          have HFT := Lib.hid hft; have HCS := Lib.hid hcs
          clear hft hown
          have HC6 := Lib.hid HC5.out; have HS6 := Lib.hid HS5.out
          rw [hcs] at HC6 HS6
          clear hcs HC5 HS5
          simp only [List.length_nil] at j2
          go_wp2_with fail
          go_roundg (2 * (s.size - u.fin) + semiN u.kind)
          case measure => rw [semiN_yes HK.out]; exact HM5.out
          case rel =>
            refine ⟨_, S ++ [(first, tp)], firstT u, HC6.out, ?_, ?_, HS6.out, rfl⟩
            · exact HR5.out
            · rw [HFT.out]
        | cons c0 cr =>
          have hft : firstT u = c0.pos := by unfold firstT; rw [hcs]; rfl
          have hgl : ∃ gc, pc = some ⟨gc, 0, none⟩ := by
            rcases hown.shape with ⟨_, h2, _⟩ | ⟨gc, _, h1, _⟩
            · rw [hcs] at h2; simp at h2
            · injection h1 with h1; exact ⟨gc, h1⟩
          obtain ⟨gc, rfl⟩ := hgl
          have hcc : w5.cell? ⟨gc, 2, none⟩ = some (.int .i64 (c0.pos : Int)) := by
            rw [hown.cellAt 2 (by rw [hcs]; simp; omega), hcs]
            rfl
          have hle : u.coms.length ≤ cc := by
            rcases hown.shape with ⟨_, h2, _⟩ | ⟨gc, _, h1, _, _, h5, _⟩
            · rw [hcs] at h2; simp at h2
            · injection h1 with _ _ h1; omega
          have hcl : 0 < u.coms.length := by rw [hcs]; simp
          have hcu : u.coms.length ≤ 1048576 := by omega
          have HFT := Lib.hid hft
          clear hft hown hcs
          go_wp2_with fail
          go_roundg (2 * (s.size - u.fin) + semiN u.kind)
          case measure => rw [semiN_yes HK.out]; exact HM5.out
          case rel =>
            refine ⟨_, S ++ [(first, tp)], firstT u, HC5.out, ?_, ?_, HS5.out, rfl⟩
            · exact HR5.out
            · rw [HFT.out]
    · have hkk : (x.kind.toList == [59]) = false := by
        rw [beq_eq_false_iff_ne, Lib.toList_data]
        exact hk
      have hoth := fun u d hn v => hS.other hpos hk (u := u) (d := d) hn v
      have herr := fun p q hn => hS.err (p := p) (q := q) hn
      have hN := nextTokenE_any hC.own hgood
      have HC := Lib.hid hC; have HR := Lib.hid hR; have HOTH := Lib.hid hoth; have HERR := Lib.hid herr; have HK := Lib.hid hk
      clear hC hR hoth herr hgood hS hk HST k7
      cases hnx : next s.data.toList x.kind.data.toList x.dot x.pos with
      | err p q =>
        have HAE := Lib.hid (HERR.out p q hnx)
        rw [hnx] at hN
        clear hnx HERR HOTH HK
        go_wp2_with fail
        have HN := Lib.hid hN
        clear hN
        refine HN.out.mono ?_
        rintro e w5 ⟨EB, rfl, hE⟩
        have HE := Lib.hid hE
        clear hE HN
        go_wp2_with fail
        refine bodyPost_ret (v := .tuple #[.slice none 0 0, .iface 72 (.pointer (some ⟨EB, 0, none⟩))]) (by simp [results, Tryz.results48, go_sem]) rfl ⟨_, _, rfl, ?_, .inr ⟨HAE.out, EB, rfl⟩⟩
        obtain ⟨PB, _, _, _, _, e5, e6, e7⟩ := HE.out
        have hgr := HC.out.grow
        have h6 := HB.out
        have h8 := hgr.size
        refine ⟨e5.os.trans HBW.out.os.symm, e5.tape.trans HBW.out.tape.symm, e5.output.trans HBW.out.output.symm, by omega, fun b hbk => ?_⟩
        rw [e7 b (by omega) (by omega) (by omega), hgr.block b (by omega) (by intro e; injection e with e; omega)]
        exact h6.block b hbk
      | ok u d =>
        have HOT2 := Lib.hid (fun v => HOTH.out u d hnx v)
        have htx := next_text _ _ _ _ _ _ (by rw [ba_toList_length]; exact hpos) hnx
        rw [hnx] at hN
        rw [ba_toList_length] at htx
        have hfs := htx.2.2.1
        have hpf : u.pos ≤ u.fin := by omega
        have HN := Lib.hid hN
        clear hN hnx HERR HOTH htx
        go_wp2_with fail
        refine HN.out.mono ?_
        rintro e w5 ⟨vc, Bc, rfl, hNA⟩
        have hC5 := (hNA.from HC.out.grow).cur
        have hR5 : Raws w5 (w.heap.size + 2) s (.slice pv S.length cap) S := HR.out.keptE (fun b h1 h2 => hNA.cur.grow.block b h2 (by intro e; injection e with e; omega))
        have k1 := (hNA.cur.lex.cell 1).1
        have k7 := (hNA.cur.lex.cell 7).1
        simp only [LexSt.cells, LexSt.nextd, List.getElem?_toArray, List.getElem?_cons_succ, List.getElem?_cons_zero] at k1 k7
        obtain ⟨st1, st2⟩ := HOT2.out vc
        clear HC HR HN HOT2 hNA
        have hbq : (u.kind == ([60, 101, 111, 102, 62] : List UInt8)) = decide (u.kind = kEof) := by
          rw [Bool.eq_iff_iff, beq_iff_eq, decide_eq_true_eq]
          exact Iff.rfl
        by_cases hke : u.kind = kEof
        · obtain ⟨z1, z2, z3, z4⟩ := st1 hke
          rw [decide_eq_true hke] at hbq
          have HC := Lib.hid hC5; have HR := Lib.hid hR5; have Z1 := Lib.hid z1; have Z2 := Lib.hid z2
          have z5 : u.pos ≤ s.size := by omega
          clear hC5 hR5 st1 st2 hke z1 z2 z4
          by_cases hpf2 : u.pos = first
          · have hne : ((u.pos : Int) != (first : Int)) = false := by rw [hpf2]; simp
            rw [if_pos hpf2, List.append_nil] at Z2
            have HPF := Lib.hid hpf2; clear hpf2
            have hws := HC.out.grow.size
            have hBz : Below w.heap.size w w5 := by
              have h1 := HB.out
              have h2 := HC.out.grow
              have h3 := h2.size
              exact ⟨h2.os.trans h1.os, h2.tape.trans h1.tape, h2.output.trans h1.output, by omega, fun b hb => (h2.block b (by omega) (by intro e; injection e with e; omega)).trans (h1.block b hb)⟩
            have HBZ := Lib.hid hBz
            clear hBz
            by_cases hS0 : S.length = 0
            · have hSn : S = [] := List.eq_nil_of_length_eq_zero hS0
              have HSN := Lib.hid hSn; clear hSn
              go_wp2_with fail
              refine bodyPost_ret (v := .tuple #[.slice (some ⟨w5.heap.size + 1, 0, none⟩) 1 1, .nilIface]) (by simp [results, Tryz.results48, go_sem]) rfl ⟨_, _, rfl, ?_, .inl ⟨Z1.out, rfl, ?_⟩⟩
              · exact (HBZ.out.alloc HBZ.out.size _).alloc (by have := HBZ.out.size; simp; omega) _
              · rw [HFF.out, Z2.out, if_pos HSN.out]
                have h9 := Raws.one w5 w.heap.size s HBZ.out.size
                rw [rawCells_zero] at h9
                exact h9
            · have hSn : S ≠ [] := fun e => hS0 (by rw [e]; rfl)
              have HSN := Lib.hid hSn; clear hSn
              go_wp2_with fail
              refine bodyPost_ret (v := .tuple #[.slice pv S.length cap, .nilIface]) (by simp [results, Tryz.results48, go_sem]) rfl ⟨_, _, rfl, HBZ.out, .inl ⟨Z1.out, rfl, ?_⟩⟩
              rw [HFF.out, Z2.out, if_neg HSN.out]
              exact HR.out.mono (by omega)
          · have hne : ((u.pos : Int) != (first : Int)) = true := by rw [bne_iff_ne]; omega
            rw [if_neg hpf2] at Z2
            clear hpf2
            go_wp2_with fail
            obtain ⟨bs, o1, o2, o3⟩ := HR.out
            have O1 : Hid (Own (w5.drewN 1) (w.heap.size + 2) 88 1 (.slice pv S.length cap) S.length (bs.map fun b => .pointer (some ⟨b, 0, none⟩))) := Lib.hid (o1.keptB fun _ _ => rfl)
            have O3 : Hid (∀ (i b : Nat), bs[i]? = some b → ∃ x : Nat × Nat, S[i]? = some x ∧ w.heap.size + 2 ≤ b ∧ (w5.drewN 1).heap[b]? = some (.cells (rawCells s x) 90 (0, 0))) := Lib.hid o3
            have HGD : Hid (w5.grownBy (w5.drewN 1) (Value.slice pv S.length cap).ownBlock) := Lib.hid ⟨rfl, rfl, rfl, Nat.le_refl _, fun _ _ _ => rfl⟩
            have hwb : w.heap.size + 2 ≤ w5.heap.size := by have := HC.out.grow.size; omega
            have HWB : Hid (w.heap.size + 2 ≤ (w5.drewN 1).heap.size) := Lib.hid hwb
            clear o1 o3
            go_region_held3 (fun w' => w'.cell? ⟨w.heap.size + 1, 7, none⟩ = some (.int .i64 (u.pos : Int))) (first | exact k7 | assumption | go_keep)
              (first | (refine step_append_Own rfl (.tmp 85) (.tmp 102) 85 rfl (w.heap.size + 2) 88 i0 (.pointer none) 1 8 Tryz.underlying85 hinf hz0 hz1 hz2 rfl (by decide) _ _ _ rfl ((O1.out.alloc _).alloc _) ⟨w5.heap.size + 1, 0, none⟩ 1 1 [.pointer (some ⟨w5.heap.size, 0, none⟩)] rfl rfl (cell_arr _ _ _ _ _ rfl (by simp)) (by simp [Value.oneCell']) (by unfold maxLen; omega) (by omega) (by simp; omega) ?_; intro v' w4 hown5 hg5; have hR4 : Raws w4 (w.heap.size + 2) s v' (S ++ [(first, u.pos)]) := Raws.app (w := w5.drewN 1) bs O1.out o2 O3.out HWB.out (first, u.pos) hg5 hown5; have hg6 : w5.grownBy w4 (Value.slice pv S.length cap).ownBlock := grownBy_trans HGD.out (grownBy_trans (grownBy_trans (World.grownBy_alloc _ _ _) (World.grownBy_alloc _ _ _)) hg5); have hC4 := HC.out.keepG hg6 (by intro b e; have := (O1.out.lt b e).1; omega) (by omega) (by omega); obtain ⟨pv3, cap3, hv3⟩ := hR4.shape; rw [show (S ++ [(first, u.pos)]).length = S.length + 1 from by simp] at hv3; subst hv3; have k7b := (hC4.lex.cell 7).1; simp only [LexSt.cells, LexSt.nextd, List.getElem?_toArray, List.getElem?_cons_succ, List.getElem?_cons_zero] at k7b))
            clear hown5 hg5 hg6 HGD O1 O3 o2 HR HC hwb HWB k7 k7b
            have HC := Lib.hid hC4; have HR := Lib.hid hR4
            clear hC4 hR4
            have hws := HC.out.grow.size
            have hBz : Below w.heap.size w w4 := by
              have h1 := HB.out
              have h2 := HC.out.grow
              have h3 := h2.size
              exact ⟨h2.os.trans h1.os, h2.tape.trans h1.tape, h2.output.trans h1.output, by omega, fun b hb => (h2.block b (by omega) (by intro e; injection e with e; omega)).trans (h1.block b hb)⟩
            have HBZ := Lib.hid hBz
            clear hBz
            go_wp2_with fail
            refine bodyPost_ret (v := .tuple #[.slice pv3 (S.length + 1) cap3, .nilIface]) (by simp [results, Tryz.results48, go_sem]) rfl ⟨_, _, rfl, HBZ.out, .inl ⟨Z1.out, rfl, ?_⟩⟩
            rw [HFF.out, Z2.out, if_neg (by simp)]
            exact HR.out.mono (by omega)
        · obtain ⟨z1, z2⟩ := st2 hke
          rw [decide_eq_false hke] at hbq
          have HC5 := Lib.hid hC5; have HR5 := Lib.hid hR5; have HS5 := Lib.hid z1; have HM5 := Lib.hid z2
          clear hC5 hR5 st1 st2 z1 z2 hke
          go_wp2_with fail
          go_roundg (2 * (s.size - u.fin) + semiN u.kind)
          case measure => rw [semiN_no HK.out]; exact HM5.out
          case rel => exact ⟨_, S, first, HC5.out, HR5.out, rfl, HS5.out, rfl⟩

end Go.Proofs.YtcelnnjjakiehaaGreatDoor
