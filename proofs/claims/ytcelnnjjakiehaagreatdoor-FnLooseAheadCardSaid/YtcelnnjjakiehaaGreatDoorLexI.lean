/-
  The contracts of lexerOf, placeOf and impl.Lex.
-/
import Derived.Test.YtcelnnjjakiehaaGreatDoorNt
import Derived.Test.YtcelnnjjakiehaaGreatDoorTof
import Derived.Test.YtcelnnjjakiehaaGreatDoorRun
namespace Go.Proofs.YtcelnnjjakiehaaGreatDoor
open Go.RowKit
set_option linter.unusedVariables false
set_option maxRecDepth 1000000
set_option maxHeartbeats 4000000

/-- the package's tables, and errors' own handle of the type error -/
structure LaidE (w : World) : Prop where
  laid : Laid w
  err : w.cell? ⟨0, 0, none⟩ = some (.iface 118 (.agg #[.pointer (some ⟨12, 53, none⟩)]))
theorem LaidE.pos {w : World} (h : LaidE w) : 0 < w.heap.size := World.block_lt_of_cell? _ _ h.err
theorem LaidE.below {w w' : World} (h : LaidE w) (hb : Below w.heap.size w w') : LaidE w' :=
  ⟨h.laid.below hb, by rw [hb.cell (p := ⟨0, 0, none⟩) h.pos]; exact h.err⟩
/-- the lexer at a text's beginning -/
def LexSt.start : LexSt := ⟨⟨#[]⟩, .slice none 0 0, ⟨#[]⟩, ⟨#[]⟩, ⟨#[]⟩, 0, 0, 0, 0, ⟨#[]⟩, false⟩
theorem lexerOf_any {W w : World} (s : ByteArray) (hL : Laid W) (hb : Below W.heap.size W w) (hs : s.size ≤ 1048576) :
    Calls Tryz.prog 29 #[.string s] w fun e w' => e = .returned (.pointer (some ⟨w.heap.size + 1, 0, none⟩)) ∧ Cur W w' (w.heap.size + 1) w.heap.size s .start w' ∧ Below w.heap.size w w' ∧ w'.heap.size = w.heap.size + 2 := by
  have hlow := hb.size
  have HB := Lib.hid hb; have HL := Lib.hid hL; clear hb hL
  go_enter Tryz.func29, Tryz.ntmps29
  go_wp2_with fail
  go_ret
  have s1 : (w.alloc (.cells #[.string ⟨#[]⟩, .string s, .slice none 0 0] 71)).heap.size = w.heap.size + 1 := by simp
  have h1 := heap_alloc_new w (.cells #[.string ⟨#[]⟩, .string s, .slice none 0 0] 71)
  have h2 := heap_alloc_new (w.alloc (.cells #[.string ⟨#[]⟩, .string s, .slice none 0 0] 71)) (.cells (LexSt.start.cells w.heap.size) 64)
  rw [s1] at h2
  have hbb : Below w.heap.size w ((w.alloc (.cells #[.string ⟨#[]⟩, .string s, .slice none 0 0] 71)).alloc (.cells (LexSt.start.cells w.heap.size) 64)) := ((Below.refl _ _).alloc (Nat.le_refl _) _).alloc (by omega) _
  refine ⟨rfl, ⟨HL.out, HB.out.trans (hbb.mono hlow), by omega, hlow, hs, Nat.zero_le _, ⟨h2, ?_⟩, grownBy_refl _ _⟩, hbb, by simp⟩
  rw [show ∀ o, ((w.alloc (.cells #[.string ⟨#[]⟩, .string s, .slice none 0 0] 71)).alloc o).heap[w.heap.size]? = _ from fun o => Below.heap_alloc (w.alloc (.cells #[.string ⟨#[]⟩, .string s, .slice none 0 0] 71)) o w.heap.size (by omega)]
  exact h1
theorem set_one (w : World) (b : Nat) (u v : Value) (T : Nat) (fz : Nat × Nat) (h : w.heap[b]? = some (.cells #[u] T fz)) : (w.setCell ⟨b, 0, none⟩ v).cell? ⟨b, 0, none⟩ = some v := by
  simp [World.cell?, World.setCell, Array.getElem?_modify, h]
theorem placeOf_any {W w0 w : World} {lb fb EB p : Nat} (hL : LaidE W) (h : ErrAt W w0 lb fb w EB p) :
    Calls Tryz.prog 31 #[.iface 72 (.pointer (some ⟨EB, 0, none⟩))] w fun e w' => e = .returned (.int .i64 p) ∧ Below w.heap.size w w' := by
  obtain ⟨PB, e1, e2, e3, e4, e5, _, _⟩ := h
  have hEl : EB < w.heap.size := World.block_lt_of_cell? _ _ e1
  have hPl : PB < w.heap.size := World.block_lt_of_cell? _ _ e2
  have hg := (hL.below e5).err
  have hp := (hL.below e5).pos
  have hb1 : Below w.heap.size w (w.alloc (.cells #[.pointer none] 72)) := (Below.refl _ _).alloc (Nat.le_refl _) _
  have hA := as_hit ⟨EB, 0, none⟩ ⟨w.heap.size, 0, none⟩ (.pointer none) (w.alloc (.cells #[.pointer none] 72)) (by rw [hb1.cell (p := ⟨0, 0, none⟩) hp]; exact hg) (by simp) (by simp)
  have hs1 : (w.alloc (.cells #[.pointer none] 72)).heap.size = w.heap.size + 1 := by simp
  have hA2 : Calls Tryz.prog 44 #[.iface 72 (.pointer (some ⟨EB, 0, none⟩)), .iface 76 (.pointer (some ⟨w.heap.size, 0, none⟩))] (w.alloc (.cells #[.pointer none] 72)) fun ev w' => ev = .returned (.bool true) ∧ w'.cell? ⟨w.heap.size, 0, none⟩ = some (.pointer (some ⟨EB, 0, none⟩)) ∧ Below w.heap.size w w' := by
    refine hA.mono ?_
    rintro ev w' ⟨rfl, rfl⟩
    refine ⟨rfl, ?_, ?_⟩
    · refine set_one _ _ (.pointer none) _ 72 (0, 0) ?_
      rw [Below.block (B := w.heap.size + 1) (w := w.alloc (.cells #[.pointer none] 72)) (((((Below.refl _ _).alloc (by omega) _).alloc (by simp) _).alloc (by simp) _).alloc (by simp) _) w.heap.size (by omega)]
      exact heap_alloc_new w _
    · refine Below.setCell (p := ⟨w.heap.size, 0, none⟩) ?_ (Nat.le_refl _) _
      exact ((((hb1.alloc (by omega) _).alloc (by simp; omega) _).alloc (by simp; omega) _).alloc (by simp; omega) _)
  have HA := Lib.hid hA2
  clear hA hA2 hb1
  have HE1 := Lib.hid e1; have HE2 := Lib.hid e2
  clear e1 e2 hg e5
  go_enter Tryz.func31, Tryz.ntmps31
  go_wp2_with fail
  refine HA.out.mono ?_
  rintro e w1 ⟨rfl, hc, hb⟩
  have c1 : w1.cell? ⟨EB, 1, none⟩ = some (.pointer (some ⟨PB, 0, none⟩)) := by rw [hb.cell (p := ⟨EB, 1, none⟩) hEl]; exact HE1.out
  have c2 : w1.cell? ⟨PB, 1, none⟩ = some (.int .i64 p) := by rw [hb.cell (p := ⟨PB, 1, none⟩) hPl]; exact HE2.out
  have HB := Lib.hid hb; clear hb
  go_wp2_with fail
  go_ret
  exact ⟨rfl, HB.out⟩
/-- a token's cells as plain data, its comments in a row of their own -/
def tkCells (t : TkF) (cv : Value) : List Value := [.string ⟨t.kind.toArray⟩, .string ⟨t.space.toArray⟩, .string ⟨t.raw.toArray⟩, .string ⟨t.text.toArray⟩, .int .i64 t.base, .int .i64 (t.pos : Int), .int .i64 (t.fin : Int), cv]
def tksCells : List (TkF × Value) → List Value
  | [] => []
  | p :: r => tkCells p.1 p.2 ++ tksCells r
theorem tksCells_append (a b : List (TkF × Value)) : tksCells (a ++ b) = tksCells a ++ tksCells b := by
  induction a with
  | nil => rfl
  | cons p r ih => show tkCells p.1 p.2 ++ tksCells (r ++ b) = _; rw [ih]; simp [tksCells]
theorem tksCells_at : ∀ (l : List (TkF × Value)) (k : Nat) (p : TkF × Value), l[k]? = some p → ∀ j, j < 8 → (tksCells l)[k * 8 + j]? = (tkCells p.1 p.2)[j]? := by
  intro l
  induction l with
  | nil => intro k p h; simp at h
  | cons a t ih =>
    intro k p h j hj
    have ha : (tkCells a.1 a.2).length = 8 := rfl
    show (tkCells a.1 a.2 ++ tksCells t)[k * 8 + j]? = _
    cases k with
    | zero =>
      simp at h
      subst h
      rw [List.getElem?_append_left (by omega)]
      simp
    | succ k =>
      rw [List.getElem?_append_right (by omega), ha, show (k + 1) * 8 + j - 8 = k * 8 + j from by omega]
      exact ih k p (by simpa using h) j hj
/-- v is a row of tokens, each with its comments -/
structure Toks (w : World) (B : Nat) (v : Value) (l : List (TkF × Value)) : Prop where
  own : Own w B 30 8 v l.length (tksCells l)
  coms : ∀ p ∈ l, Own w B 32 4 p.2 p.1.coms.length (cmCells p.1.coms)
theorem own_ne {w : World} {B1 B2 e1 e2 z1 z2 n1 n2 : Nat} {v1 v2 : Value} {x1 x2 : List Value} (h1 : Own w B1 e1 z1 v1 n1 x1) (h2 : Own w B2 e2 z2 v2 n2 x2) (he : e1 ≠ e2) : v1.ownBlock = none ∨ v1.ownBlock ≠ v2.ownBlock := by
  rcases h1.2 with ⟨rfl, _⟩ | ⟨g, cap, cur, fz, rfl, _, hg, _⟩
  · exact .inl rfl
  · right
    intro e
    rcases h2.2 with ⟨rfl, _⟩ | ⟨g2, cap2, cur2, fz2, rfl, _, hg2, _⟩
    · simp [Value.ownBlock] at e
    · simp [Value.ownBlock] at e
      subst e
      rw [hg] at hg2
      injection hg2 with hg2
      injection hg2 with _ e2
      exact he e2
section
variable {w w' : World} {B : Nat} {v : Value} {l : List (TkF × Value)}
theorem Toks.nil (w : World) (B : Nat) : Toks w B (.slice none 0 0) [] := ⟨Own.nil _ _ _ _, fun p hp => by cases hp⟩
theorem Toks.keptE (h : Toks w B v l) (hk : ∀ b, B ≤ b → b < w.heap.size → w'.heap[b]? = w.heap[b]?) : Toks w' B v l :=
  ⟨h.own.keptB (fun g hg => hk g (h.own.lt g hg).1 (h.own.lt g hg).2), fun p hp => (h.coms p hp).keptB (fun g hg => hk g ((h.coms p hp).lt g hg).1 ((h.coms p hp).lt g hg).2)⟩
theorem Toks.other (h : Toks w B v l) {r : Option Nat} (hg : w.grownBy w' r) (hr : ∀ b, r = some b → b < B) : Toks w' B v l :=
  h.keptE (fun b h1 h2 => hg.block b h2 (fun e => by have := hr b e.symm; omega))
theorem Toks.below (h : Toks w B v l) (hb : Below w.heap.size w w') : Toks w' B v l := h.keptE (fun b _ h2 => hb.block b h2)
theorem Toks.mono {B' : Nat} (h : Toks w B v l) (hb : B' ≤ B) : Toks w B' v l := ⟨h.own.mono hb, fun p hp => (h.coms p hp).mono hb⟩
/-- behind an append -/
theorem Toks.app (h : Toks w B v l) (hg : w.grownBy w' v.ownBlock) {v' : Value} {t : TkF} {cv : Value} (ho : Own w' B 30 8 v' (l.length + 1) (tksCells l ++ tkCells t cv)) (hc : Own w B 32 4 cv t.coms.length (cmCells t.coms)) : Toks w' B v' (l ++ [(t, cv)]) := by
  refine ⟨?_, ?_⟩
  · rw [List.length_append, tksCells_append]
    show Own w' B _ 8 v' (l.length + 1) (tksCells l ++ (tkCells t cv ++ []))
    rw [List.append_nil]
    exact ho
  · intro p hp
    rcases List.mem_append.1 hp with hp | hp
    · exact (h.coms p hp).kept hg (own_ne (h.coms p hp) h.own (by decide))
    · obtain rfl := List.mem_singleton.1 hp
      exact hc.kept hg (own_ne hc h.own (by decide))
end
/-- every reading on the way has its places in the text -/
def lexGood (l : List UInt8) : Nat → List UInt8 → Bool → Nat → Prop
  | 0, _, _, _ => True
  | k + 1, last, dot, p => (next l last dot p).good l.length ∧ match next l last dot p with
    | .err _ _ => True
    | .ok t d => t.kind = kEof ∨ lexGood l k t.kind d t.fin
theorem lexGood_calm (l : List UInt8) (hc : calm l) : ∀ k last dot p, p ≤ l.length → lexGood l k last dot p := by
  intro k
  induction k with
  | zero => intro last dot p hp; trivial
  | succ k ih =>
    intro last dot p hp
    have h := next_good l last dot p hp hc
    refine ⟨h, ?_⟩
    cases hn : next l last dot p with
    | err q e => trivial
    | ok t d => rw [hn] at h; exact .inr (ih _ _ _ h)
theorem lexGood_done (l : List UInt8) : ∀ k last dot p, p ≤ l.length → (lexRun l k last dot p).2 = none → lexGood l k last dot p := by
  intro k
  induction k with
  | zero => intro last dot p hp h; trivial
  | succ k ih =>
    intro last dot p hp h
    unfold lexRun at h
    unfold lexGood
    cases hn : next l last dot p with
    | err q e => rw [hn] at h; cases h
    | ok t d =>
      have h1 := next_text l last dot p t d hp hn
      rw [hn] at h
      refine ⟨h1.2.2.1, ?_⟩
      by_cases hk : t.kind = kEof
      · exact .inl hk
      · simp only at h
        rw [if_neg hk] at h
        exact .inr (ih _ _ _ h1.2.2.1 h)
theorem lead_count : ∀ (k p : Nat) (r : List UInt8) (acc cs : List Cm) (sp : List UInt8) (n : Nat), r.length ≤ k → lead p r acc = .ok cs sp n → cs.length + p ≤ acc.length + n := by
  intro k
  induction k with
  | zero =>
    intro p r acc cs sp n hk h
    have hr : r = [] := List.eq_nil_of_length_eq_zero (by omega)
    subst hr
    have hs : spLen [] = 0 := spLen_stop [] rfl
    rw [lead_no p [] acc (by rw [hs]; rfl), hs] at h
    cases h
    exact Nat.le_refl _
  | succ k ih =>
    intro p r acc cs sp n hk h
    cases hcm : comment (r.drop (spLen r)) with
    | no => rw [lead_no p r acc hcm] at h; cases h; omega
    | open_ => rw [lead_open p r acc hcm] at h; cases h
    | closed m =>
      have hc := comment_le _ _ hcm
      rw [List.length_drop] at hc
      rw [lead_closed p r acc m hcm] at h
      have := ih _ _ _ _ _ _ (by rw [List.length_drop]; omega) h
      rw [List.length_append, List.length_singleton] at this
      omega
theorem next_count (l last : List UInt8) (dot : Bool) (p : Nat) (t : TkF) (d : Bool) (h : next l last dot p = .ok t d) : t.coms.length + p ≤ t.pos := by
  unfold next at h
  cases hl : lead p (l.drop p) [] with
  | err cs q => rw [hl] at h; cases h
  | ok cs sp n =>
    rw [hl] at h
    have h2 := lead_count (l.drop p).length p (l.drop p) [] cs sp n (Nat.le_refl _) hl
    cases ht : anyTok dot last (l.drop n) with
    | err a b => simp only [ht] at h; cases h
    | ok t2 => simp only [ht] at h; cases h; simpa using h2
/-- an append, or any change of blocks that came later -/
theorem Cur.keepG {W w0 w w' : World} {lb fb : Nat} {s : ByteArray} {x : LexSt} (h : Cur W w0 lb fb s x w) {r : Option Nat} (hg : w.grownBy w' r) (hr : ∀ b, r = some b → w0.heap.size ≤ b) (hl : lb < w0.heap.size) (hf : fb < w0.heap.size) : Cur W w0 lb fb s x w' := by
  have hne : ∀ b, b < w0.heap.size → some b ≠ r := fun b hb e => by have := hr b e.symm; omega
  obtain ⟨g1, g2, g3, g4, g5⟩ := hg
  have hw : w0.heap.size ≤ w.heap.size := h.grow.size
  refine ⟨h.laid, ?_, h.hlb, h.hfb, h.sz, h.pos, h.lex.grown ⟨g1, g2, g3, g4, g5⟩ (hne lb hl) (hne fb hf), ?_⟩
  · obtain ⟨b1, b2, b3, b4, b5⟩ := h.low
    have h1 := h.hlb
    exact ⟨g1.trans b1, g2.trans b2, g3.trans b3, Nat.le_trans b4 g4, fun k hk => (g5 k (by omega) (hne k (by omega))).trans (b5 k hk)⟩
  · obtain ⟨k1, k2, k3, k4, k5⟩ := h.grow
    exact ⟨g1.trans k1, g2.trans k2, g3.trans k3, Nat.le_trans k4 g4, fun k hk hn => (g5 k (by omega) (hne k hk)).trans (k5 k hk hn)⟩
theorem cell_arr (w : World) (T g : Nat) (l : List Value) (a : Array Value) (ha : a.toList = l) (hg : g = w.heap.size) : ∀ (j : Nat) (u : Value), l[j]? = some u → (w.alloc (.cells a T)).cell? ((⟨g, 0, none⟩ : Addr).add j) = some u := by
  intro j u h
  subst hg ha
  have hadd : (⟨w.heap.size, 0, none⟩ : Addr).add j = ⟨w.heap.size, j, none⟩ := by unfold Addr.add; split <;> simp_all
  rw [hadd]
  exact cell_new w a T j u (by simpa using h)
theorem info_it : (Tryz.prog.info? 30).map (fun i => (i.zero, i.size, i.bytes)) = some (some (.agg #[.string ⟨#[]⟩, .string ⟨#[]⟩, .string ⟨#[]⟩, .string ⟨#[]⟩, .int .i64 0, .int .i64 0, .int .i64 0, .slice none 0 0]), 8, 112) := by kernel_rfl
theorem own_shape2 {w : World} {base : Nat} {e : TypeId} {size : Nat} {v : Value} {n : Nat} {xs : List Value} (h : Own w base e size v n xs) : ∃ pv cv, v = .slice pv n cv := by
  rcases h.shape with ⟨h1, h2, _⟩ | ⟨g, cap, h1, _⟩
  · exact ⟨none, 0, by rw [h1, h2]⟩
  · exact ⟨some ⟨g, 0, none⟩, cap, h1⟩
theorem Lex_any {W w : World} (s : ByteArray) (hL : LaidE W) (hb : Below W.heap.size W w) (hs : s.size ≤ 1048576) (hg : lexGood s.data.toList (s.size + 1) [] false 0) :
    Calls Tryz.prog 13 #[.string s] w fun e w' => ∃ v l at_, e = .returned (.tuple #[v, .int .i64 at_, .bool (lexAll s.data.toList).2.isNone]) ∧ l.map (·.1) = (lexAll s.data.toList).1 ∧ Toks w' w.heap.size v l ∧ Below w.heap.size w w' := by
  obtain ⟨i0, hinf, hz0, hz1, hz2⟩ := info_parts info_it
  have hlow := hb.size
  have HO := Lib.hid (lexerOf_any s hL.laid hb hs)
  have hall : lexAll s.data.toList = lexRun s.data.toList (s.size + 1) [] false 0 := by unfold lexAll; rw [ba_toList_length]
  generalize lexAll s.data.toList = A at *
  have HG := Lib.hid hg; have HA := Lib.hid hall; have HL := Lib.hid hL; have HB := Lib.hid hb
  clear hg hall hL hb
  go_enter Tryz.func13, Tryz.ntmps13
  go_wp2_with fail
  refine HO.out.mono ?_
  rintro e w1 ⟨rfl, hc1, hb1, hs1⟩
  have HC1 := Lib.hid hc1; have HB1 := Lib.hid hb1; clear hc1 hb1 HO
  go_wp2_with fail
  go_loopg [2] (s.size + 1) (fun g v wx => ∃ (x : LexSt) (l : List (TkF × Value)) (k : Nat), Cur W w1 (w.heap.size + 1) w.heap.size s x wx ∧ Toks wx (w.heap.size + 2) v l ∧ l.length ≤ x.pos ∧ g = s.size + 1 - x.pos ∧ s.size - x.pos < k ∧ lexGood s.data.toList k x.kind.data.toList x.dot x.pos ∧ A = (l.map (·.1) ++ (lexRun s.data.toList k x.kind.data.toList x.dot x.pos).1, (lexRun s.data.toList k x.kind.data.toList x.dot x.pos).2))
  case atStart => exact ⟨.start, [], s.size + 1, HC1.out, Toks.nil _ _, Nat.zero_le _, rfl, Nat.lt_succ_self _, HG.out, HA.out⟩
  case round =>
    obtain ⟨x, l, k, hC, hT, hlen, rfl, hk, hgood, hA⟩ := hrel
    obtain ⟨k, rfl⟩ : ∃ j, k = j + 1 := ⟨k - 1, by omega⟩
    have hpos := hC.pos
    obtain ⟨hg1, hg2⟩ := hgood
    rw [ba_toList_length] at hg1
    have hN := nextTokenE_any hC.own hg1
    have hreal := fun t d hn => next_real s.data.toList x.kind.data.toList x.dot x.pos t d (by rw [ba_toList_length]; exact hpos) hn
    have htext := fun t d hn => next_text s.data.toList x.kind.data.toList x.dot x.pos t d (by rw [ba_toList_length]; exact hpos) hn
    have hcount := fun t d hn => next_count s.data.toList x.kind.data.toList x.dot x.pos t d hn
    unfold lexRun at hA
    obtain ⟨pv, cap, rfl⟩ := own_shape2 hT.own
    cases hnx : next s.data.toList x.kind.data.toList x.dot x.pos with
    | err p q =>
      rw [hnx] at hN hA
      have HN := Lib.hid hN; have HA2 := Lib.hid hA; have HC := Lib.hid hC; have HT := Lib.hid hT
      clear hN hA hC hT hnx hg1 hg2 hreal htext hcount HA HG
      go_wp2_with fail
      refine HN.out.mono ?_
      rintro e w2 ⟨EB, rfl, hE⟩
      have HE := Lib.hid hE
      clear hE HN
      go_wp2_with fail
      refine (placeOf_any HL.out HE.out).mono ?_
      rintro e w3 ⟨rfl, hb3⟩
      have HB3 := Lib.hid hb3; clear hb3
      go_wp2_with fail
      refine bodyPost_ret (v := .tuple #[.slice pv l.length cap, .int .i64 p, .bool false]) (by simp [results, Tryz.results13, go_sem]) rfl ⟨.slice pv l.length cap, l, (p : Int), ?_, ?_, ?_, ?_⟩
      · rw [HA2.out]; rfl
      · rw [HA2.out]; simp
      · refine Toks.mono (B := w.heap.size + 2) ?_ (by omega)
        refine Toks.below ?_ HB3.out
        obtain ⟨PB, _, _, _, _, _, e6, e7⟩ := HE.out
        exact HT.out.keptE (fun b h1 h2 => e7 b h2 (by omega) (by omega))
      · obtain ⟨PB, _, _, _, _, e5, e6, e7⟩ := HE.out
        have hgr := HC.out.grow
        have h5 := HB.out
        have h6 := HB1.out
        have h8 := hgr.size
        have h7 : Below w.heap.size w w2 := by
          refine ⟨e5.os.trans h5.os.symm, e5.tape.trans h5.tape.symm, e5.output.trans h5.output.symm, by omega, fun b hbk => ?_⟩
          rw [e7 b (by omega) (by omega) (by omega), hgr.block b (by omega) (by intro e; injection e with e; omega)]
          exact h6.block b hbk
        exact h7.trans (HB3.out.mono h7.size)
    | ok t d =>
      rw [hnx] at hN hA hg2
      have hr := hreal t d hnx
      have ht := htext t d hnx
      have hct := hcount t d hnx
      clear hreal htext hcount hnx hg1
      rw [ba_toList_length] at hr ht
      have hsz : t.fin ≤ s.size := ht.2.2.1
      have hcl : t.coms.length ≤ 1048576 := by omega
      have HN := Lib.hid hN; have HA2 := Lib.hid hA; have HC := Lib.hid hC; have HT := Lib.hid hT; have HG2 := Lib.hid hg2; have HR := Lib.hid hr
      clear hN hA hC hT hg2 HA HG hr ht hct
      go_wp2_with fail
      refine HN.out.mono ?_
      rintro e w2 ⟨v, B, rfl, hNA⟩
      have c1 := (hNA.cur.lex.cell 1).1
      have c2 := (hNA.cur.lex.cell 2).1
      have c3 := (hNA.cur.lex.cell 3).1
      have c4 := (hNA.cur.lex.cell 4).1
      have c5 := (hNA.cur.lex.cell 5).1
      have c6 := (hNA.cur.lex.cell 6).1
      have c7 := (hNA.cur.lex.cell 7).1
      have c8 := (hNA.cur.lex.cell 8).1
      simp only [LexSt.cells, LexSt.nextd, List.getElem?_toArray, List.getElem?_cons_succ, List.getElem?_cons_zero] at c1 c2 c3 c4 c5 c6 c7 c8
      have HNA := Lib.hid hNA
      clear hNA HN
      go_wp2_with fail
      have hcoms := HNA.out.own
      refine (tokenOf_any ⟨t.kind.toArray⟩ ⟨t.space.toArray⟩ ⟨t.raw.toArray⟩ ⟨t.text.toArray⟩ t.base t.pos t.fin v t.coms B w2 hcoms hcl).mono ?_
      rintro e w3 ⟨cv', rfl, hown3, hb3⟩
      have hC2 : Cur W w1 (w.heap.size + 1) w.heap.size s (x.nextd t d v) w2 := (HNA.out.from HC.out.grow).cur
      have hC3 := hC2.keep hb3
      have hT2 : Toks w2 (w.heap.size + 2) (.slice pv l.length cap) l := HT.out.other HNA.out.cur.grow (by intro b e; injection e with e; omega)
      have hT3 := hT2.below hb3
      have hown4 : Own w3 (w.heap.size + 2) 32 4 cv' t.coms.length (cmCells t.coms) := hown3.mono (by have := hC2.grow.size; omega)
      have hlb := hC3.lex.lt
      have hs3 : w1.heap.size ≤ w3.heap.size := hC3.grow.size
      have d1 := (hC3.lex.cell 1).1
      have f1 : ∀ o, (w3.alloc o).cell? ⟨w.heap.size + 1, 1, none⟩ = some (.string ⟨t.kind.toArray⟩) := fun o => by rw [World.cell?_alloc_old _ _ _ (by simp; omega)]; exact d1
      obtain ⟨pv2, cap2, rfl⟩ := own_shape2 hown4
      have hlen2 : l.length ≤ 1048576 := by omega
      have hs3' : w.heap.size + 2 ≤ w3.heap.size := by omega
      have HC3 := Lib.hid hC3; have HT3 := Lib.hid hT3; have HO4 := Lib.hid hown4
      clear hC2 hC3 hT2 hT3 hown3 hown4 hcoms hb3 c1 c2 c3 c4 c5 c6 c7 c8 d1 HNA HT
      go_wp2_with (at_builtin; go_loud (refine wpList_append_Own _ rfl (.tmp 16) (.tmp 22) 25 rfl (w.heap.size + 2) 30 i0 (.agg #[.string ⟨#[]⟩, .string ⟨#[]⟩, .string ⟨#[]⟩, .string ⟨#[]⟩, .int .i64 0, .int .i64 0, .int .i64 0, .slice none 0 0]) 8 112 Tryz.underlying25 hinf hz0 hz1 hz2 rfl (by decide) _ _ _ rfl (HT3.out.own.alloc _) ⟨w3.heap.size, 0, none⟩ 1 1 (tkCells t (.slice pv2 t.coms.length cap2)) (by simp [Act.eval]) rfl (cell_arr _ _ _ _ _ rfl rfl) (by simp [tkCells, Value.oneCell']) (by unfold maxLen; omega) (by omega) (by simp; omega) ?_))
      intro v' w4 hown5 hg5 hbk hne
      obtain ⟨pv3, cap3, rfl⟩ := own_shape2 hown5
      have hg6 : w3.grownBy w4 (Value.slice pv l.length cap).ownBlock := grownBy_trans (World.grownBy_alloc _ _ _) hg5
      have hC4 := HC3.out.keepG hg6 (by intro b e; have := (HT3.out.own.lt b e).1; omega) HC1.out.lex.lt.1 HC1.out.lex.lt.2
      have hT4 := Toks.app HT3.out hg6 hown5 HO4.out
      have hlen4 : (l ++ [(t, Value.slice pv2 t.coms.length cap2)]).length = l.length + 1 := by simp
      have k1 := (hC4.lex.cell 1).1
      have hb4 : Below w.heap.size w w4 := by
        have h1 := HB1.out
        have h2 := hC4.grow
        have h3 := h2.size
        exact ⟨h2.os.trans h1.os, h2.tape.trans h1.tape, h2.output.trans h1.output, by omega, fun b hb => (h2.block b (by omega) (by intro e; injection e with e; omega)).trans (h1.block b hb)⟩
      simp only [LexSt.cells, LexSt.nextd, List.getElem?_toArray, List.getElem?_cons_succ, List.getElem?_cons_zero] at k1
      have HC4 := Lib.hid hC4; have HT4 := Lib.hid hT4; have HB4 := Lib.hid hb4
      clear hC4 hT4 hg5 hg6 hbk hne hown5 hb4 HC3 HT3 HO4 f1
      have hbq : (t.kind == ([60, 101, 111, 102, 62] : List UInt8)) = decide (t.kind = kEof) := by
        rw [Bool.eq_iff_iff, beq_iff_eq, decide_eq_true_eq]
        exact Iff.rfl
      by_cases hke : t.kind = kEof
      · have HKE := Lib.hid hke
        rw [decide_eq_true hke] at hbq
        clear hke
        go_wp2_with fail
        refine bodyPost_ret (v := .tuple #[.slice pv3 (l.length + 1) cap3, .int .i64 0, .bool true]) (by simp [results, Tryz.results13, go_sem]) rfl ⟨.slice pv3 (l.length + 1) cap3, l ++ [(t, .slice pv2 t.coms.length cap2)], 0, ?_, ?_, ?_, ?_⟩
        · rw [HA2.out, if_pos HKE.out]; rfl
        · rw [HA2.out, if_pos HKE.out]; simp
        · exact Toks.mono (B := w.heap.size + 2) (hlen4 ▸ HT4.out) (by omega)
        · exact HB4.out
      · have HKE := Lib.hid hke
        rw [decide_eq_false hke] at hbq
        clear hke
        go_wp2_with fail
        have hfin := HR.out.2 HKE.out
        go_roundg (s.size + 1 - t.fin)
        case measure => omega
        case rel =>
          refine ⟨x.nextd t d v, l ++ [(t, .slice pv2 t.coms.length cap2)], k, HC4.out, HT4.out, by rw [hlen4]; show l.length + 1 ≤ t.fin; omega, rfl, by show s.size - t.fin < k; omega, HG2.out.resolve_left HKE.out, ?_⟩
          rw [HA2.out, if_neg HKE.out]
          simp [LexSt.nextd]
end Go.Proofs.YtcelnnjjakiehaaGreatDoor
