/-
  The contract of laws.apart: the raw texts of tokens with gaps between them; each gap ends where it ends.
-/
import Derived.Test.YtcelnnjjakiehaaGreatDoorLaw1
import Derived.ChangeSlices
import Derived.OpenShut
namespace Go.Proofs.YtcelnnjjakiehaaGreatDoor
open Go.RowKit
set_option linter.unusedVariables false
set_option maxRecDepth 1000000
set_option maxHeartbeats 4000000

theorem gapL_gap (n : Nat) : Gap (gapL n) ∧ 0 < (gapL n).length ∧ (gapL n).length ≤ 13 := by
  have hb : ∀ c : UInt8, c = 9 ∨ c = 10 ∨ c = 13 ∨ c = 32 → blk c := by
    intro c hc
    unfold blk
    rcases hc with rfl | rfl | rfl | rfl
    · left; decide
    · left; decide
    · left; decide
    · right; rfl
  have low : ∀ (c : UInt8) (t : List UInt8), c.toNat < 128 → ¬ blk c → spLen (c :: t) = 0 := fun c t h1 h2 => spLen_stop _ (by rw [spOne_low c t h1]; unfold blk at h2; rw [if_neg h2])
  unfold gapL
  split
  · exact ⟨Gap.blks [10] (by intro c hc; simp at hc; exact hb c (by simp [hc])) (fun _ => .inr (.inl rfl)), by decide, by decide⟩
  split
  · exact ⟨Gap.blks [9, 32] (by intro c hc; simp at hc; exact hb c (by rcases hc with rfl | rfl <;> simp)) (fun _ => .inl rfl), by decide, by decide⟩
  split
  · exact ⟨Gap.com [32] [47, 42, 32, 120, 32, 42, 47] [32] (by intro c hc; simp at hc; exact hb c (by simp [hc])) (by intro c hc; simp at hc; exact hb c (by simp [hc])) (fun x => ⟨low 47 _ (by decide) (by unfold blk; decide), rfl⟩) (fun _ => .inr (.inr (.inr (.inl rfl)))), by decide, by decide⟩
  split
  · exact ⟨Gap.com [32] [45, 45, 32, 120, 10] [] (by intro c hc; simp at hc; exact hb c (by simp [hc])) (by intro c hc; cases hc) (fun x => ⟨low 45 _ (by decide) (by unfold blk; decide), rfl⟩) (fun _ => .inr (.inr (.inr (.inl rfl)))), by decide, by decide⟩
  split
  · exact ⟨Gap.com [32] [35, 32, 39, 120, 10] [] (by intro c hc; simp at hc; exact hb c (by simp [hc])) (by intro c hc; cases hc) (fun x => ⟨low 35 _ (by decide) (by unfold blk; decide), rfl⟩) (fun _ => .inr (.inr (.inr (.inl rfl)))), by decide, by decide⟩
  split
  · exact ⟨Gap.blks [13, 10] (by intro c hc; simp at hc; exact hb c (by rcases hc with rfl | rfl <;> simp)) (fun _ => .inr (.inr (.inl rfl))), by decide, by decide⟩
  split
  · exact ⟨Gap.com [] [47, 42, 42, 47] [] (by intro c hc; cases hc) (by intro c hc; cases hc) (fun x => ⟨low 47 _ (by decide) (by unfold blk; decide), rfl⟩) (fun _ => .inr (.inr (.inr (.inr rfl)))), by decide, by decide⟩
  split
  · exact ⟨Gap.com [32] [47, 42, 32, 97, 10, 98, 59, 32, 34, 32, 42, 47] [] (by intro c hc; simp at hc; exact hb c (by simp [hc])) (by intro c hc; cases hc) (fun x => ⟨low 47 _ (by decide) (by unfold blk; decide), rfl⟩) (fun _ => .inr (.inr (.inr (.inl rfl)))), by decide, by decide⟩
  · exact ⟨Gap.blks [32] (by intro c hc; simp at hc; exact hb c (by simp [hc])) (fun _ => .inr (.inr (.inr (.inl rfl)))), by decide, by decide⟩
/-- the gap ahead of the token i -/
def gapOf (G : List UInt8) (i : Nat) : List UInt8 := if i = 0 then [] else if G = [] then [32] else gapL ((G.getD (i % G.length) 0).toNat % 12)
theorem gapOf_gap (G : List UInt8) (i : Nat) : Gap (gapOf G i) ∧ (0 < i → 0 < (gapOf G i).length) ∧ (gapOf G i).length ≤ 13 := by
  unfold gapOf
  by_cases h0 : i = 0
  · rw [if_pos h0]; exact ⟨Gap.nil, fun h => by omega, by decide⟩
  rw [if_neg h0]
  by_cases h1 : G = []
  · rw [if_pos h1]
    have h := gapL_gap 8
    exact ⟨h.1, fun _ => h.2.1, h.2.2⟩
  · rw [if_neg h1]
    have h := gapL_gap ((G.getD (i % G.length) 0).toNat % 12)
    exact ⟨h.1, fun _ => h.2.1, h.2.2⟩
theorem apartG_snoc (g : Nat → List UInt8) : ∀ (T : List TkF) (i : Nat) (t : TkF), apartG g i (T ++ [t]) = apartG g i T ++ (g (i + T.length) ++ t.raw) := by
  intro T
  induction T with
  | nil => intro i t; simp [apartG]
  | cons u T ih =>
    intro i t
    rw [List.cons_append, apartG, apartG, ih, List.length_cons, show i + 1 + T.length = i + (T.length + 1) from by omega]
    simp
theorem apartG_take (g : Nat → List UInt8) (T : List TkF) (k : Nat) (h : k < T.length) : apartG g 0 (T.take (k + 1)) = apartG g 0 (T.take k) ++ (g k ++ T[k].raw) := by
  rw [List.take_succ_eq_append_getElem h, apartG_snoc, List.length_take, Nat.zero_add, Nat.min_eq_left (by omega)]
theorem apartG_len (g : Nat → List UInt8) (hg : ∀ i, (g i).length ≤ 13) : ∀ (T : List TkF) (i : Nat), (apartG g i T).length ≤ 13 * T.length + (wholeT T).length := by
  intro T
  induction T with
  | nil => intro i; simp [apartG]
  | cons t T ih =>
    intro i
    have h1 := hg i
    have h2 := ih (i + 1)
    have h3 : (wholeT (t :: T)).length = (tkText t).length + (wholeT T).length := by show (tkText t ++ wholeT T).length = _; rw [List.length_append]
    have h4 : (tkText t).length = (cmText t.coms).length + t.space.length + t.raw.length := by unfold tkText; simp only [List.length_append]
    rw [apartG]
    simp only [List.length_append, List.length_cons]
    omega
/-- a list of numbers of gaps, in memory that lay there before -/
structure GapsV (W : World) (v : Value) (G : List UInt8) : Prop where
  at_ : ∃ p cap, v = .slice p G.length cap ∧ G.length ≤ cap ∧ (0 < G.length → ∃ g off, p = some ⟨g, off, none⟩ ∧ g < W.heap.size ∧ ∀ i, i < G.length → W.cell? ⟨g, off + i, none⟩ = some (.int .u8 ((G.getD i 0).toNat : Int)))
theorem apart_any {W w : World} {B : Nat} {v gv : Value} {l : List (TkF × Value)} {G : List UInt8} (hT : Toks w B v l) (hG : GapsV W gv G) (hbW : Below W.heap.size W w) (hlen : l.length ≤ 16385) (hsz : (wholeT (l.map (·.1))).length ≤ 16384) (hGl : G.length ≤ 2147483647) :
    Calls Tryz.prog 18 #[v, gv] w fun e w' => e = .returned (.string ⟨(apartG (gapOf G) 0 (l.map (·.1))).toArray⟩) ∧ Below w.heap.size w w' := by
  obtain ⟨pv, cap, rfl⟩ := own_shape2 hT.own
  obtain ⟨pg, gcap, rfl, hgc, hgcell⟩ := hG.at_
  have hgl : ∀ i, (gapOf G i).length ≤ 13 := fun i => (gapOf_gap G i).2.2
  have hbd : ∀ k, (apartG (gapOf G) 0 ((l.map (·.1)).take k)).length ≤ 300000 := by
    intro k
    have h1 := apartG_len (gapOf G) hgl ((l.map (·.1)).take k) 0
    have h2 := wholeT_le (l.map (·.1)) k
    rw [List.length_take, List.length_map] at h1
    omega
  have htake := fun k (h : k < l.length) => apartG_take (gapOf G) (l.map (·.1)) k (by rw [List.length_map]; exact h)
  have HT := Lib.hid hT; have HBD := Lib.hid hbd; have HTK := Lib.hid htake; have HGC := Lib.hid hgcell; have HBW := Lib.hid hbW; have HGL := Lib.hid hgl
  clear hT hbd htake hgcell hbW hG hgl
  go_enter Tryz.func18, Tryz.ntmps18
  go_wp2_with fail
  go_loopw [5, 9] (fun sv i wr => ∃ k : Nat, i = .int .i64 k ∧ k ≤ l.length ∧ sv = .string ⟨(apartG (gapOf G) 0 ((l.map (·.1)).take k)).toArray⟩ ∧ Below w.heap.size w wr) (fun _ i _ => l.length - (intOf i).toNat)
  case atStart => exact ⟨0, rfl, Nat.zero_le _, rfl, Below.refl _ _⟩
  case round =>
    obtain ⟨k, rfl, hk, rfl, hb⟩ := hrel
    by_cases hlt : k < l.length
    · have hTr := HT.out.below hb
      obtain ⟨g, cap2, he, hBg, hcap, hcell⟩ := hTr.at k hlt
      injection he with he1 he2 he3
      subst he1 he3
      obtain ⟨c0, c1, c2, c3, c4, c5, c6, c7⟩ := eight hcell
      have htk := HTK.out k hlt
      have hb1 := HBD.out k
      have hb2 := HBD.out (k + 1)
      rw [htk, List.length_append, List.length_append] at hb2
      have hg1 := HGL.out k
      simp only [List.getElem_map] at htk hb2
      generalize apartG (gapOf G) 0 ((l.map (·.1)).take k) = acc at *
      generalize l[k] = p at *
      obtain ⟨t, cv⟩ := p
      simp only at c2 htk hb2
      have HB := Lib.hid hb; have HTK1 := Lib.hid htk
      clear c0 c1 c3 c4 c5 c6 c7 hcell hTr htk hb
      by_cases hk0 : k = 0
      · have hgk : gapOf G k = [] := by unfold gapOf; rw [if_pos hk0]
        have HGK := Lib.hid hgk
        subst hk0
        clear hgk
        go_wp2_with fail
        refine ⟨⟨0 + 1, by go_num, by omega, ?_, HB.out⟩, by simp [intOf]; omega⟩
        rw [ba_app, HTK1.out, HGK.out]
        rfl
      · by_cases hG0 : G.length = 0
        · have hgk : gapOf G k = [32] := by
            unfold gapOf
            rw [if_neg hk0, if_pos (List.eq_nil_of_length_eq_zero hG0)]
          have HGK := Lib.hid hgk
          clear hgk
          go_wp2_with fail
          refine ⟨⟨k + 1, by go_num, by omega, ?_, HB.out⟩, by simp [intOf]; omega⟩
          rw [HTK1.out, HGK.out]
          show Value.string (⟨acc.toArray⟩ ++ ⟨([32] : List UInt8).toArray⟩ ++ ⟨t.raw.toArray⟩) = _
          rw [ba_app, ba_app, List.append_assoc]
        · have hmod : (k : Int).tmod (G.length : Int) = ((k % G.length : Nat) : Int) := by
            rw [Int.tmod_eq_emod_of_nonneg (by omega)]
            omega
          have hml : k % G.length < G.length := Nat.mod_lt _ (by omega)
          obtain ⟨gg, off, rfl, hgg, hgcl⟩ := HGC.out (by omega)
          have hgk : gapOf G k = gapL ((G.getD (k % G.length) 0).toNat % 12) := by
            unfold gapOf
            rw [if_neg hk0, if_neg (by intro e; rw [e] at hG0; exact hG0 rfl)]
          have hgw : wr.cell? ⟨gg, off + k % G.length, none⟩ = some (.int .u8 ((G.getD (k % G.length) 0).toNat : Int)) := by
            rw [(HBW.out.trans (HB.out.mono HBW.out.size)).cell (p := ⟨gg, off + k % G.length, none⟩) hgg]
            exact hgcl _ hml
          have hgap := fun w2 => gap_any (G.getD (k % G.length) 0).toNat (UInt8.toNat_lt _) w2
          rw [← hgk] at hgap
          generalize k % G.length = m at *
          generalize (G.getD m 0).toNat = gn at *
          generalize hgv : gapOf G k = gt at *
          have HGP := Lib.hid hgap
          clear hgk hgcl hgap hgv
          go_wp2_with fail
          refine (HGP.out _).mono ?_
          rintro e w2 ⟨rfl, rfl⟩
          go_wp2_with fail
          refine ⟨⟨k + 1, by go_num, by omega, ?_, HB.out⟩, by simp [intOf]; omega⟩
          rw [ba_app, ba_app, HTK1.out, List.append_assoc]
    · go_wp2_with fail
      go_ret
      have e : k = l.length := by omega
      exact ⟨ret_str (by rw [e, List.take_of_length_le (by simp)]), hb⟩
theorem byte_range {x : Int} (h : (Lit.int .u8 x).wf = true) : 0 ≤ x ∧ x ≤ 255 := by
  have h1 : IntKind.u8.min = 0 := rfl
  have h2 : IntKind.u8.max = 255 := rfl
  simp only [Lit.wf, Bool.and_eq_true, decide_eq_true_eq] at h
  omega
theorem cells_u8 : Tryz.prog.cellsOf 5 = 1 := by kernel_rfl
/-- a list of bytes that came in, and how it is read again -/
theorem open_gaps {H : Type} {enc : TypeId × Value → H} {W : World} {v : Value} {d : DataW H} {p : List MemPlace} (h : DataW.Trod enc Tryz.prog W 0 (fun _ => true) true 33 v d p) (hs : ∃ a n c, v = .slice a n c) :
    ∃ G, GapsV W v G ∧ G.length ≤ maxLen ∧ ∀ (W' : World) (sp : Nat → Bool), Below W.heap.size W W' → (∀ x ∈ p, sp x.block = true) → DataW.Trod enc Tryz.prog W' 0 sp true 33 v d p := by
  obtain ⟨a, n, c, rfl⟩ := hs
  obtain ⟨fuel, hf⟩ := h
  rcases ChangeShapes.open_ints Tryz.underlying33 Tryz.underlying5 cells_u8 hf with ⟨hcs, hx⟩ | ⟨ad, len, cap, zs, hcs, _, hl, hm, hz, hx, hcell, hwz⟩
  · simp [Value.cells] at hcs
    obtain ⟨rfl, rfl, rfl⟩ := hcs
    simp only [Prod.mk.injEq] at hx
    obtain ⟨rfl, rfl⟩ := hx
    refine ⟨[], ⟨none, 0, rfl, Nat.le_refl _, fun h => by simp at h⟩, Nat.zero_le _, fun W' sp _ _ => ⟨1, ?_⟩⟩
    simp [DataW.trod, Tryz.underlying33, Value.cells]
  · simp [Value.cells] at hcs
    obtain ⟨rfl, rfl, rfl⟩ := hcs
    simp only [Prod.mk.injEq] at hx
    obtain ⟨rfl, rfl⟩ := hx
    simp only [if_true] at hz
    have hGl : ((zs.take n).map fun z => UInt8.ofNat z.toNat).length = n := by rw [List.length_map, List.length_take]; omega
    refine ⟨(zs.take n).map fun z => UInt8.ofNat z.toNat, ⟨some ad, c, by rw [hGl], by rw [hGl]; exact hl, ?_⟩, by rw [hGl]; omega, ?_⟩
    · rw [hGl]
      intro hn
      obtain ⟨g, off, rfl, hc⟩ := ints_at hcell (by omega)
      refine ⟨g, off, rfl, World.block_lt_of_cell? _ _ (hc 0 (by omega)), fun i hi => ?_⟩
      rw [hc i (by omega)]
      have hzi : i < zs.length := by omega
      have hr := byte_range (hwz zs[i] (List.getElem_mem hzi))
      have e1 : zs.getD i 0 = zs[i] := by rw [List.getD_eq_getElem?_getD, List.getElem?_eq_getElem hzi]; rfl
      have e2 : ((zs.take n).map fun z => UInt8.ofNat z.toNat).getD i 0 = UInt8.ofNat zs[i].toNat := by
        rw [List.getD_eq_getElem?_getD, List.getElem?_map, List.getElem?_take_of_lt hi, List.getElem?_eq_getElem hzi]; rfl
      rw [e1, e2, UInt8.toNat_ofNat_of_lt' (by show zs[i].toNat < 256; omega)]
      rw [Int.toNat_of_nonneg hr.1]
    · intro W' sp hb hsp
      refine ⟨0 + 2, ChangeShapes.shut_ints 0 Tryz.underlying33 Tryz.underlying5 cells_u8 (Nat.zero_le _) hl hm ?_ ?_ hwz⟩
      · by_cases h0 : c = 0
        · subst h0
          split <;> omega
        · have hb : sp ad.block = true := hsp (.cell ad.block (ad.off + 0)) (by
            obtain ⟨g, off, rfl, _⟩ := ints_at hcell (by omega)
            exact MemPlace.mem_row.2 ⟨0, by omega, rfl⟩)
          rw [if_pos hb]; exact hz
      · intro i hi
        have h9 := hcell i hi
        rw [hb.cell (by exact World.block_lt_of_cell? _ _ h9)]
        exact h9
end Go.Proofs.YtcelnnjjakiehaaGreatDoor
