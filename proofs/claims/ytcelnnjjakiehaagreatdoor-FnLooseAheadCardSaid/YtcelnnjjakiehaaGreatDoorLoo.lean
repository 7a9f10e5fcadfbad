/-
  The contracts of ZzLoose and impl.Loose.
-/
import Derived.Test.YtcelnnjjakiehaaGreatDoorLaw1
namespace Go.Proofs.YtcelnnjjakiehaaGreatDoor
open Go.RowKit
set_option linter.unusedVariables false
set_option maxRecDepth 1000000
set_option maxHeartbeats 4000000

theorem next_end (l last : List UInt8) (dot : Bool) : next l last dot l.length = .ok ⟨kEof, [], [], [], [], 0, l.length, l.length⟩ false := by
  have hz : spLen [] = 0 := spLen_stop [] rfl
  have hl2 : lead l.length (l.drop l.length) [] = .ok [] [] l.length := by
    rw [List.drop_length, lead_no _ [] [] (by rw [hz]; rfl), hz]; rfl
  have := next_mk (last := last) (dot := dot) hl2 (tk := ⟨kEof, [], 0, 0, none⟩) (by rw [List.drop_length]; exact anyTok_nil _ _)
  rw [this, List.drop_length]
  cases dot <;> rfl
theorem Own.takes {w : World} {B e z n m cap : Nat} {p : Option Addr} {xs : List Value} (h : Own w B e z (.slice p n cap) n xs) (hm : m ≤ n) (h0 : 0 < n) : Own w B e z (.slice p m cap) m (xs.take (m * z)) := by
  have hmz : m * z ≤ n * z := Nat.mul_le_mul_right _ hm
  refine ⟨by rw [List.length_take, h.1]; omega, ?_⟩
  rcases h.2 with ⟨_, h2⟩ | ⟨g, c, cur, fz, h2, h3, h4, h5, h6, h7, h8, h9⟩
  · omega
  · injection h2 with a1 a2 a3
    subst a1 a3
    refine .inr ⟨g, cap, cur, fz, rfl, h3, h4, h5, by omega, h7, h8, ?_⟩
    rw [← h9, List.take_take, Nat.min_eq_left hmz]
theorem tksCells_take : ∀ (l : List (TkF × Value)) (m : Nat), (tksCells l).take (m * 8) = tksCells (l.take m) := by
  intro l
  induction l with
  | nil => intro m; simp [tksCells]
  | cons p r ih =>
    intro m
    cases m with
    | zero => simp [tksCells]
    | succ m =>
      show (tkCells p.1 p.2 ++ tksCells r).take ((m + 1) * 8) = tkCells p.1 p.2 ++ tksCells (r.take m)
      have ha : (tkCells p.1 p.2).length = 8 := rfl
      rw [show (m + 1) * 8 = (tkCells p.1 p.2).length + m * 8 from by omega, List.take_length_add_append, ih]
theorem zzLoose_any {W w : World} {lb fb : Nat} {s : ByteArray} {x : LexSt} (h : Cur W w lb fb s x w) (hm : calm s.data.toList) :
    Calls Tryz.prog 37 #[.pointer (some ⟨lb, 0, none⟩)] w fun e w' => ∃ (t : TkF) (d : Bool) (v : Value) (B : Nat), e = .returned (.tuple #[]) ∧ (∀ t' d', next s.data.toList x.kind.data.toList x.dot x.pos = .ok t' d' → t = t' ∧ d = d') ∧ t.fin ≤ s.size ∧ x.pos ≤ t.fin ∧ (x.pos < s.size → x.pos < t.fin) ∧ t.coms.length ≤ s.size + 1 ∧ NAt W w lb fb s (x.nextd t d v) B v t.coms w' := by
  have HN := Lib.hid (nextToken_any h true (fun _ => hm) (fun h => absurd h (by decide)))
  clear h hm
  go_enter Tryz.func37, Tryz.ntmps37
  go_wp2_with fail
  refine HN.out.mono ?_
  rintro e w1 hh
  unfold NextDid at hh
  rw [if_pos rfl] at hh
  obtain ⟨t, d, v, h1, h2, h3, h4, h5, rfl, h6⟩ := hh
  have HH := Lib.hid (And.intro h1 (And.intro h2 (And.intro h3 (And.intro h4 (And.intro h5 h6)))))
  clear h1 h2 h3 h4 h5 h6 HN
  go_wp2_with fail
  go_end0
  exact ⟨t, d, v, _, rfl, HH.out⟩
theorem Loose_any {W w : World} (s : ByteArray) (hL : LaidE W) (hb : Below W.heap.size W w) (hs : s.size ≤ 1000000) (hm : calm s.data.toList) :
    Calls Tryz.prog 24 #[.string s] w fun e w' => ∃ v l, e = .returned v ∧ (lexAll s.data.toList).1 <+: l.map (·.1) ∧ Toks w' w.heap.size v l ∧ Below w.heap.size w w' ∧ (0 < l.length ∧ l.length ≤ s.size + 1) := by
  obtain ⟨i0, hinf, hz0, hz1, hz2⟩ := info_parts info_it
  have hlow := hb.size
  have HO := Lib.hid (lexerOf_any s hL.laid hb (by omega))
  have hall : lexAll s.data.toList = lexRun s.data.toList (s.size + 1) [] false 0 := by unfold lexAll; rw [ba_toList_length]
  generalize lexAll s.data.toList = A at *
  have HM := Lib.hid hm; have HA := Lib.hid hall; have HB := Lib.hid hb
  clear hm hall hL hb
  go_enter Tryz.func24, Tryz.ntmps24
  go_wp2_with fail
  refine HO.out.mono ?_
  rintro e w1 ⟨rfl, hc1, hb1, hs1⟩
  have HC1 := Lib.hid hc1; have HB1 := Lib.hid hb1; clear hc1 hb1 HO
  go_wp2_with fail
  go_loopg [2] (s.size + 1) (fun g v wx => ∃ (x : LexSt) (l : List (TkF × Value)) (k : Nat), Cur W w1 (w.heap.size + 1) w.heap.size s x wx ∧ Toks wx (w.heap.size + 2) v l ∧ l.length ≤ x.pos ∧ g = s.size + 1 - x.pos ∧ s.size - x.pos < k ∧ (A = (l.map (·.1) ++ (lexRun s.data.toList k x.kind.data.toList x.dot x.pos).1, (lexRun s.data.toList k x.kind.data.toList x.dot x.pos).2) ∨ A.1 <+: l.map (·.1)))
  case atStart => exact ⟨.start, [], s.size + 1, HC1.out, Toks.nil _ _, Nat.zero_le _, rfl, Nat.lt_succ_self _, .inl HA.out⟩
  case round =>
    obtain ⟨x, l, k, hC, hT, hlen, rfl, hk, hA⟩ := hrel
    obtain ⟨k, rfl⟩ : ∃ j, k = j + 1 := ⟨k - 1, by omega⟩
    have hpos := hC.pos
    have hN := zzLoose_any hC.own HM.out
    have hend : x.pos = s.size → next s.data.toList x.kind.data.toList x.dot x.pos = .ok ⟨kEof, [], [], [], [], 0, s.size, s.size⟩ false := fun h => by
      have := next_end s.data.toList x.kind.data.toList x.dot
      rw [ba_toList_length] at this
      rw [h]; exact this
    have hstep : ∀ t d, (∀ t' d', next s.data.toList x.kind.data.toList x.dot x.pos = .ok t' d' → t = t' ∧ d = d') → (t.kind = kEof → A.1 <+: l.map (·.1) ++ [t]) ∧ (t.kind ≠ kEof → A = ((l.map (·.1) ++ [t]) ++ (lexRun s.data.toList k t.kind d t.fin).1, (lexRun s.data.toList k t.kind d t.fin).2) ∨ A.1 <+: l.map (·.1) ++ [t]) := by
      intro t d h
      rcases hA with hA | hA
      · unfold lexRun at hA
        cases hnx : next s.data.toList x.kind.data.toList x.dot x.pos with
        | err p q =>
          rw [hnx] at hA
          have : A.1 <+: l.map (·.1) ++ [t] := by rw [hA]; simp
          exact ⟨fun _ => this, fun _ => .inr this⟩
        | ok t' d' =>
          obtain ⟨rfl, rfl⟩ := h t' d' hnx
          rw [hnx] at hA
          simp only at hA
          refine ⟨fun hk => ?_, fun hk => ?_⟩
          · rw [if_pos hk] at hA
            rw [hA]
            exact List.prefix_refl _
          · rw [if_neg hk] at hA
            left
            rw [hA]; simp
      · have : A.1 <+: l.map (·.1) ++ [t] := hA.trans (List.prefix_append _ _)
        exact ⟨fun _ => this, fun _ => .inr this⟩
    obtain ⟨pv, cap, rfl⟩ := own_shape2 hT.own
    · have HN := Lib.hid hN; have HS := Lib.hid hstep; have HC := Lib.hid hC; have HT := Lib.hid hT; have HE := Lib.hid hend
      clear hN hA hC hT hstep hend HA
      go_wp2_with fail
      refine HN.out.mono ?_
      rintro e w2 ⟨t, d, v, B, rfl, hsame, hsz, hxf, hprog, hcl0, hNA⟩
      have HST := Lib.hid (HS.out t d hsame)
      have hke0 : t.kind ≠ kEof → x.pos < t.fin := fun hk => by
        rcases Nat.lt_or_ge x.pos s.size with h | h
        · exact hprog h
        · exfalso
          have := (hsame _ _ (HE.out (by omega))).1
          rw [this] at hk
          exact hk rfl
      have HK0 := Lib.hid hke0
      have hcl : t.coms.length ≤ 1048576 := by omega
      clear hsame hprog hke0 hcl0 HS HE
      have c1 := (hNA.cur.lex.cell 1).1
      have c2 := (hNA.cur.lex.cell 2).1
      have c3 := (hNA.cur.lex.cell 3).1
      have c4 := (hNA.cur.lex.cell 4).1
      have c5 := (hNA.cur.lex.cell 5).1
      have c6 := (hNA.cur.lex.cell 6).1
      have c7 := (hNA.cur.lex.cell 7).1
      have c8 := (hNA.cur.lex.cell 8).1
      simp only [LexSt.cells, LexSt.nextd, List.getElem?_toArray, List.getElem?_cons_succ, List.getElem?_cons_zero] at c1 c2 c3 c4 c5 c6 c7 c8
      have HNA := Lib.hid hNA
      clear hNA HN
      go_wp2_with fail
      have hcoms := HNA.out.own
      refine (tokenOf_any ⟨t.kind.toArray⟩ ⟨t.space.toArray⟩ ⟨t.raw.toArray⟩ ⟨t.text.toArray⟩ t.base t.pos t.fin v t.coms B w2 hcoms hcl).mono ?_
      rintro e w3 ⟨cv', rfl, hown3, hb3⟩
      have hC2 : Cur W w1 (w.heap.size + 1) w.heap.size s (x.nextd t d v) w2 := (HNA.out.from HC.out.grow).cur
      have hC3 := hC2.keep hb3
      have hT2 : Toks w2 (w.heap.size + 2) (.slice pv l.length cap) l := HT.out.other HNA.out.cur.grow (by intro b e; injection e with e; omega)
      have hT3 := hT2.below hb3
      have hown4 : Own w3 (w.heap.size + 2) 32 4 cv' t.coms.length (cmCells t.coms) := hown3.mono (by have := hC2.grow.size; omega)
      have hlb := hC3.lex.lt
      have hs3 : w1.heap.size ≤ w3.heap.size := hC3.grow.size
      have d1 := (hC3.lex.cell 1).1
      have f1 : ∀ o, (w3.alloc o).cell? ⟨w.heap.size + 1, 1, none⟩ = some (.string ⟨t.kind.toArray⟩) := fun o => by rw [World.cell?_alloc_old _ _ _ (by simp; omega)]; exact d1
      obtain ⟨pv2, cap2, rfl⟩ := own_shape2 hown4
      have hlen2 : l.length ≤ 1048576 := by omega
      have hs3' : w.heap.size + 2 ≤ w3.heap.size := by omega
      have HC3 := Lib.hid hC3; have HT3 := Lib.hid hT3; have HO4 := Lib.hid hown4
      clear hC2 hC3 hT2 hT3 hown3 hown4 hcoms hb3 c1 c2 c3 c4 c5 c6 c7 c8 d1 HNA HT
      go_wp2_with (at_builtin; go_loud (refine wpList_append_Own _ rfl (.tmp 8) (.tmp 14) 25 rfl (w.heap.size + 2) 30 i0 (.agg #[.string ⟨#[]⟩, .string ⟨#[]⟩, .string ⟨#[]⟩, .string ⟨#[]⟩, .int .i64 0, .int .i64 0, .int .i64 0, .slice none 0 0]) 8 112 Tryz.underlying25 hinf hz0 hz1 hz2 rfl (by decide) _ _ _ rfl (HT3.out.own.alloc _) ⟨w3.heap.size, 0, none⟩ 1 1 (tkCells t (.slice pv2 t.coms.length cap2)) (by simp [Act.eval]) rfl (cell_arr _ _ _ _ _ rfl rfl) (by simp [tkCells, Value.oneCell']) (by unfold maxLen; omega) (by omega) (by simp; omega) ?_))
      intro v' w4 hown5 hg5 hbk hne
      obtain ⟨pv3, cap3, rfl⟩ := own_shape2 hown5
      have hg6 : w3.grownBy w4 (Value.slice pv l.length cap).ownBlock := grownBy_trans (World.grownBy_alloc _ _ _) hg5
      have hC4 := HC3.out.keepG hg6 (by intro b e; have := (HT3.out.own.lt b e).1; omega) HC1.out.lex.lt.1 HC1.out.lex.lt.2
      have hT4 := Toks.app HT3.out hg6 hown5 HO4.out
      have hlen4 : (l ++ [(t, Value.slice pv2 t.coms.length cap2)]).length = l.length + 1 := by simp
      have k1 := (hC4.lex.cell 1).1
      have hb4 : Below w.heap.size w w4 := by
        have h1 := HB1.out
        have h2 := hC4.grow
        have h3 := h2.size
        exact ⟨h2.os.trans h1.os, h2.tape.trans h1.tape, h2.output.trans h1.output, by omega, fun b hb => (h2.block b (by omega) (by intro e; injection e with e; omega)).trans (h1.block b hb)⟩
      simp only [LexSt.cells, LexSt.nextd, List.getElem?_toArray, List.getElem?_cons_succ, List.getElem?_cons_zero] at k1
      have HC4 := Lib.hid hC4; have HT4 := Lib.hid hT4; have HB4 := Lib.hid hb4
      clear hC4 hT4 hg5 hg6 hbk hne hown5 hb4 HC3 HT3 HO4 f1
      have hbq : (t.kind == ([60, 101, 111, 102, 62] : List UInt8)) = decide (t.kind = kEof) := by
        rw [Bool.eq_iff_iff, beq_iff_eq, decide_eq_true_eq]
        exact Iff.rfl
      by_cases hke : t.kind = kEof
      · have HKE := Lib.hid hke
        rw [decide_eq_true hke] at hbq
        clear hke
        go_wp2_with fail
        refine bodyPost_ret (v := .slice pv3 (l.length + 1) cap3) (by simp [results, Tryz.results24, go_sem]) rfl ⟨.slice pv3 (l.length + 1) cap3, l ++ [(t, .slice pv2 t.coms.length cap2)], rfl, ?_, ?_, ?_, ?_⟩
        · rw [List.map_append]; exact HST.out.1 HKE.out
        · exact Toks.mono (B := w.heap.size + 2) (hlen4 ▸ HT4.out) (by omega)
        · exact HB4.out
        · rw [hlen4]; exact ⟨by omega, by omega⟩
      · have HKE := Lib.hid hke
        rw [decide_eq_false hke] at hbq
        clear hke
        go_wp2_with fail
        have hfin := HK0.out HKE.out
        go_roundg (s.size + 1 - t.fin)
        case measure => omega
        case rel =>
          refine ⟨x.nextd t d v, l ++ [(t, .slice pv2 t.coms.length cap2)], k, HC4.out, HT4.out, by rw [hlen4]; show l.length + 1 ≤ t.fin; omega, rfl, by show s.size - t.fin < k; omega, ?_⟩
          rw [List.map_append]
          exact HST.out.2 HKE.out
end Go.Proofs.YtcelnnjjakiehaaGreatDoor
