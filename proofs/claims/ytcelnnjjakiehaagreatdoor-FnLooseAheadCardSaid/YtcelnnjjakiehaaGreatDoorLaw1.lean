/-
  The contracts of the laws' helpers on lists of tokens: fields, alike, allAlike; gap; IsKeyword.
-/
import Derived.Test.YtcelnnjjakiehaaGreatDoorLaw0
import Derived.Test.YtcelnnjjakiehaaGreatDoorPlaw4
import Derived.StillTailTactics
namespace Go.Proofs.YtcelnnjjakiehaaGreatDoor
open Go.RowKit
set_option linter.unusedVariables false
set_option maxRecDepth 1000000
set_option maxHeartbeats 4000000

/-- a token's eight cells -/
theorem eight {w : World} {g k : Nat} {t : TkF} {cv : Value} (h : ∀ j, j < 8 → w.cell? ⟨g, k * 8 + j, none⟩ = (tkCells t cv)[j]?) :
    w.cell? ⟨g, k * 8, none⟩ = some (.string ⟨t.kind.toArray⟩) ∧ w.cell? ⟨g, k * 8 + 1, none⟩ = some (.string ⟨t.space.toArray⟩) ∧ w.cell? ⟨g, k * 8 + 2, none⟩ = some (.string ⟨t.raw.toArray⟩) ∧ w.cell? ⟨g, k * 8 + 3, none⟩ = some (.string ⟨t.text.toArray⟩) ∧
    w.cell? ⟨g, k * 8 + 4, none⟩ = some (.int .i64 t.base) ∧ w.cell? ⟨g, k * 8 + 5, none⟩ = some (.int .i64 (t.pos : Int)) ∧ w.cell? ⟨g, k * 8 + 6, none⟩ = some (.int .i64 (t.fin : Int)) ∧ w.cell? ⟨g, k * 8 + 7, none⟩ = some cv :=
  ⟨h 0 (by decide), h 1 (by decide), h 2 (by decide), h 3 (by decide), h 4 (by decide), h 5 (by decide), h 6 (by decide), h 7 (by decide)⟩
/-- the gaps by number -/
def gapL (n : Nat) : List UInt8 :=
  if n = 0 then [10] else if n = 1 then [9, 32] else if n = 2 then [32, 47, 42, 32, 120, 32, 42, 47, 32] else if n = 3 then [32, 45, 45, 32, 120, 10]
  else if n = 4 then [32, 35, 32, 39, 120, 10] else if n = 5 then [13, 10] else if n = 6 then [47, 42, 42, 47] else if n = 7 then [32, 47, 42, 32, 97, 10, 98, 59, 32, 34, 32, 42, 47] else [32]
theorem gap_any (n : Nat) (hn : n < 256) (w : World) :
    Calls Tryz.prog 33 #[.int .u8 (n : Int)] w fun e w' => e = .returned (.string ⟨(gapL (n % 12)).toArray⟩) ∧ w = w' := by
  have hm : ((n : Int).tmod 12) = ((n % 12 : Nat) : Int) := by
    rw [Int.tmod_eq_emod_of_nonneg (by omega)]
    omega
  have hlt : n % 12 < 12 := Nat.mod_lt _ (by decide)
  generalize n % 12 = m at *
  rcases (by omega : m = 0 ∨ m = 1 ∨ m = 2 ∨ m = 3 ∨ m = 4 ∨ m = 5 ∨ m = 6 ∨ m = 7 ∨ 8 ≤ m) with rfl | rfl | rfl | rfl | rfl | rfl | rfl | rfl | h8
  case inr.inr.inr.inr.inr.inr.inr.inr =>
    have hg : gapL m = [32] := by
      unfold gapL
      repeat rw [if_neg (by omega)]
    rw [hg]
    go_enter Tryz.func33, Tryz.ntmps33
    go_wp2_with fail
    go_ret
    exact ⟨rfl, rfl⟩
  all_goals
    go_enter Tryz.func33, Tryz.ntmps33
    go_wp2_with fail
    go_ret
    exact ⟨rfl, rfl⟩
/-- a token as a value -/
def tkVal (t : TkF) (cv : Value) : Value := .agg (tkCells t cv).toArray
theorem alike_any (a b : TkF) (ca cb : Value) (w : World) :
    Calls Tryz.prog 26 #[tkVal a ca, tkVal b cb] w fun e w' => e = .returned (.bool (decide (a.key = b.key))) ∧ Below w.heap.size w w' := by
  have hk : decide (a.key = b.key) = ((a.kind == b.kind) && (a.raw == b.raw) && (a.text == b.text) && (a.base == b.base)) := by
    rw [Bool.eq_iff_iff]
    simp [TkF.key, and_assoc]
  rw [hk]
  clear hk
  have hb : ∀ x y, Below w.heap.size w ((w.alloc x).alloc y) := fun x y => ((Below.refl _ _).alloc (Nat.le_refl _) _).alloc (by simp) _
  have HB := Lib.hid hb; clear hb
  obtain ⟨k1, _, s1, r1, t1, b1, p1, f1⟩ := a
  obtain ⟨k2, _, s2, r2, t2, b2, p2, f2⟩ := b
  unfold tkVal tkCells
  simp only
  cases h1 : (k1 == k2) with
  | false =>
    go_enter Tryz.func26, Tryz.ntmps26
    go_wp2_with fail
    go_ret
    exact ⟨rfl, HB.out _ _⟩
  | true =>
    cases h2 : (r1 == r2) with
    | false =>
      go_enter Tryz.func26, Tryz.ntmps26
      go_wp2_with fail
      go_ret
      exact ⟨rfl, HB.out _ _⟩
    | true =>
      cases h3 : (t1 == t2) with
      | false =>
        go_enter Tryz.func26, Tryz.ntmps26
        go_wp2_with fail
        go_ret
        exact ⟨rfl, HB.out _ _⟩
      | true =>
        cases h4 : (b1 == b2) with
        | false =>
          go_enter Tryz.func26, Tryz.ntmps26
          go_wp2_with fail
          go_ret
          exact ⟨rfl, HB.out _ _⟩
        | true =>
          go_enter Tryz.func26, Tryz.ntmps26
          go_wp2_with fail
          go_ret
          exact ⟨rfl, HB.out _ _⟩
theorem any_drop {α : Type} (f : α → Bool) (l : List α) (k : Nat) (h : k < l.length) : (l.drop k).any f = (f l[k] || (l.drop (k + 1)).any f) := by
  rw [List.drop_eq_getElem_cons h, List.any_cons]
theorem fields_any {w : World} {B : Nat} {v : Value} {l : List (TkF × Value)} (hT : Toks w B v l) (hlen : l.length ≤ 1048577) (hraw : ∀ p ∈ l, p.1.raw.length ≤ 1048576) :
    Calls Tryz.prog 17 #[v] w fun e w' => e = .returned (.bool ((l.map (·.1)).any fieldT)) ∧ Below w.heap.size w w' := by
  obtain ⟨pv, cap, rfl⟩ := own_shape2 hT.own
  have hmap : (l.map (·.1)).any fieldT = l.any (fun p => fieldT p.1) := by rw [List.any_map]; rfl
  rw [hmap]
  have hdr := any_drop (fun p : TkF × Value => fieldT p.1) l
  have HT := Lib.hid hT; have HD := Lib.hid hdr; have HR := Lib.hid hraw
  clear hT hmap hdr hraw
  go_enter Tryz.func17, Tryz.ntmps17
  go_wp2_with fail
  go_loopw [6] (fun i wr => ∃ k : Nat, i = .int .i64 k ∧ k ≤ l.length ∧ l.any (fun p => fieldT p.1) = (l.drop k).any (fun p => fieldT p.1) ∧ Below w.heap.size w wr) (fun i _ => l.length - (intOf i).toNat)
  case atStart => exact ⟨0, rfl, Nat.zero_le _, rfl, Below.refl _ _⟩
  case round =>
    obtain ⟨k, rfl, hk, hA, hb⟩ := hrel
    by_cases hlt : k < l.length
    · have hTr := HT.out.below hb
      obtain ⟨g, cap2, he, hBg, hcap, hcell⟩ := hTr.at k hlt
      injection he with he1 he2 he3
      subst he1 he3
      have c0 := hcell 0 (by omega)
      have c2 := hcell 2 (by omega)
      have hrl := HR.out l[k] (List.getElem_mem hlt)
      rw [HD.out k hlt] at hA
      generalize l[k] = p at *
      obtain ⟨t, cv⟩ := p
      simp only [tkCells, List.getElem?_cons_zero, List.getElem?_cons_succ] at c0 c2 hrl hA
      have c0 : wr.cell? ⟨g, k * 8, none⟩ = _ := c0
      have hbg := fun w2 => begins_any ⟨t.raw.toArray⟩ ⟨#[46]⟩ w2 (by rw [ba_size]; omega) (by decide)
      have hf : fieldT t = ((t.kind == ([46] : List UInt8)) || [46].isPrefixOf t.raw) := by
        unfold fieldT
        congr 1
        rw [Bool.eq_iff_iff]; simp
      change ∀ w2, Calls _ _ _ _ (fun e w' => e = .returned (.bool ([46].isPrefixOf t.raw)) ∧ w2 = w') at hbg
      rw [hf] at hA
      have HA := Lib.hid hA; have HB := Lib.hid hb; have HG := Lib.hid hbg
      clear hA hb hbg hf hTr hcell
      cases hkd : (t.kind == ([46] : List UInt8)) with
      | true =>
        rw [hkd] at HA
        go_wp2_with fail
        go_ret
        exact ⟨ret_bool (by rw [HA.out]; rfl), HB.out⟩
      | false =>
        rw [hkd] at HA
        go_wp2_with fail
        refine (HG.out _).mono ?_
        rintro e w3 ⟨rfl, rfl⟩
        cases hpf : [46].isPrefixOf t.raw with
        | true =>
          rw [hpf] at HA
          go_wp2_with fail
          go_ret
          exact ⟨ret_bool (by rw [HA.out]; rfl), HB.out⟩
        | false =>
          rw [hpf] at HA
          go_wp2_with fail
          exact ⟨⟨k + 1, by go_num, by omega, by rw [HA.out]; rfl, HB.out⟩, by simp [intOf]; omega⟩
    · go_wp2_with fail
      go_ret
      have e : k = l.length := by omega
      exact ⟨ret_bool (by rw [hA, e, List.drop_length]; rfl), hb⟩
theorem map_drop {α β : Type} [DecidableEq β] (f : α → β) (a b : List α) (k : Nat) (ha : k < a.length) (hb : k < b.length) : decide ((a.drop k).map f = (b.drop k).map f) = (decide (f a[k] = f b[k]) && decide ((a.drop (k + 1)).map f = (b.drop (k + 1)).map f)) := by
  rw [List.drop_eq_getElem_cons ha, List.drop_eq_getElem_cons hb, List.map_cons, List.map_cons, Bool.eq_iff_iff]
  simp
theorem allAlike_any {w : World} {B C : Nat} {v u : Value} {l m : List (TkF × Value)} (hT : Toks w B v l) (hU : Toks w C u m) (hlen : l.length ≤ 1048577) (hlen2 : m.length ≤ 1048577) :
    Calls Tryz.prog 19 #[v, u] w fun e w' => e = .returned (.bool (decide (l.map (fun p => p.1.key) = m.map (fun p => p.1.key)))) ∧ Below w.heap.size w w' := by
  obtain ⟨pv, cap, rfl⟩ := own_shape2 hT.own
  obtain ⟨pu, cup, rfl⟩ := own_shape2 hU.own
  by_cases hne : l.length = m.length
  · have hnb : ((l.length : Int) != (m.length : Int)) = false := by rw [hne]; simp
    have hdr := fun k h1 h2 => map_drop (fun p : TkF × Value => p.1.key) l m k h1 h2
    have HT := Lib.hid hT; have HU := Lib.hid hU; have HD := Lib.hid hdr; have HNE := Lib.hid hne
    clear hT hU hdr hne
    go_enter Tryz.func19, Tryz.ntmps19
    go_wp2_with fail
    go_loopw [13] (fun i wr => ∃ k : Nat, i = .int .i64 k ∧ k ≤ l.length ∧ decide (l.map (fun p => p.1.key) = m.map (fun p => p.1.key)) = decide ((l.drop k).map (fun p => p.1.key) = (m.drop k).map (fun p => p.1.key)) ∧ Below w.heap.size w wr) (fun i _ => l.length - (intOf i).toNat)
    case atStart => exact ⟨0, rfl, Nat.zero_le _, rfl, Below.refl _ _⟩
    case round =>
      obtain ⟨k, rfl, hk, hA, hb⟩ := hrel
      by_cases hlt : k < l.length
      · have hTr := HT.out.below hb
        have hUr := HU.out.below hb
        have hlt2 : k < m.length := by have := HNE.out; omega
        obtain ⟨g, cap2, he, hBg, hcap, hcell⟩ := hTr.at k hlt
        obtain ⟨g', cap2', he', hBg', hcap', hcell'⟩ := hUr.at k hlt2
        injection he with he1 he2 he3
        injection he' with he1' he2' he3'
        subst he1 he3 he1' he3'
        rw [HD.out k hlt hlt2] at hA
        generalize l[k] = p at *
        generalize m[k] = p' at *
        obtain ⟨t, cv⟩ := p
        obtain ⟨t', cv'⟩ := p'
        have hlk := alike_any t t' cv cv'
        obtain ⟨a0, a1, a2, a3, a4, a5, a6, a7⟩ := eight hcell
        obtain ⟨b0, b1, b2, b3, b4, b5, b6, b7⟩ := eight hcell'
        simp only at hA
        generalize decide (t.key = t'.key) = bb at *
        have HA := Lib.hid hA; have HB := Lib.hid hb; have HG := Lib.hid hlk
        clear hA hb hlk hTr hUr hcell hcell'
        go_wp2_with fail
        go_still_tail 8, (by kernel_rfl)
        clear a0 a1 a2 a3 a4 a5 a6 a7 b0 b1 b2 b3 b4 b5 b6 b7
        change wpList _ _ _ _ _ (wr.drewN 1)
        have HB2 := Lib.hid (HB.out.trans (below_drewN wr 1 w.heap.size))
        generalize wr.drewN 1 = w2 at *
        go_wp2_with fail
        refine (HG.out _).mono ?_
        rintro e w3 ⟨rfl, hb3⟩
        have HB3 := Lib.hid (HB2.out.trans (hb3.mono HB2.out.size)); clear hb3
        cases bb with
        | false =>
          go_wp2_with fail
          go_ret
          exact ⟨ret_bool (by rw [HA.out]; rfl), HB3.out⟩
        | true =>
          go_wp2_with fail
          exact ⟨⟨k + 1, by go_num, by omega, by rw [HA.out]; rfl, HB3.out⟩, by simp [intOf]; omega⟩
      · go_wp2_with fail
        go_ret
        have e : k = l.length := by omega
        exact ⟨ret_bool (by rw [hA, e, List.drop_length, HNE.out, List.drop_length]; rfl), hb⟩
  · have hnb : ((l.length : Int) != (m.length : Int)) = true := by rw [bne_iff_ne]; omega
    have hd : decide (l.map (fun p => p.1.key) = m.map (fun p => p.1.key)) = false := by
      apply decide_eq_false
      intro e
      have := congrArg List.length e
      rw [List.length_map, List.length_map] at this
      exact hne this
    rw [hd]
    clear hd hT hU
    go_enter Tryz.func19, Tryz.ntmps19
    go_wp2_with fail
    go_ret
    exact ⟨rfl, Below.refl _ _⟩
theorem isKeyword_any (s : ByteArray) (w : World) (hs : s.size ≤ 1048576) :
    Calls Tryz.prog 22 #[.string s] w fun e w' => e = .returned (.bool (kw (upL s.data.toList))) ∧ Below w.heap.size w w' := by
  have hU := charUpper_any s w (by omega)
  have hK := kw_any ⟨(upL s.data.toList).toArray⟩
  have e : (⟨(upL s.data.toList).toArray⟩ : ByteArray).data.toList = upL s.data.toList := by simp
  rw [e] at hK
  have HU := Lib.hid hU; have HK := Lib.hid hK; clear hU hK e
  go_enter Tryz.func22, Tryz.ntmps22
  go_wp2_with fail
  have hin : Calls Tryz.prog 36 #[.string s] w fun e w' => e = .returned (.bool (kw (upL s.data.toList))) ∧ Below w.heap.size w w' := by
    go_enter Tryz.func36, Tryz.ntmps36
    go_wp2_with fail
    refine HU.out.mono ?_
    rintro e w1 ⟨rfl, hb⟩
    have HB := Lib.hid hb; clear hb
    go_wp2_with fail
    refine (HK.out _).mono ?_
    rintro e w2 ⟨rfl, rfl⟩
    go_wp2_with fail
    go_ret
    exact ⟨rfl, HB.out⟩
  refine hin.mono ?_
  rintro e w1 ⟨rfl, hb⟩
  go_wp2_with fail
  go_ret
  exact ⟨rfl, hb⟩
end Go.Proofs.YtcelnnjjakiehaaGreatDoor
