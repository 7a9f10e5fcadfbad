/-
  The contract of impl.tokenOf.
  errors.As at the target that placeOf gives it, and the contract of placeOf.
-/
import Derived.Test.YtcelnnjjakiehaaGreatDoorLead
import Derived.LoopN
import Derived.Test.YtcelnnjjakiehaaGreatDoorMem
import Derived.Test.YtcelnnjjakiehaaGreatDoorRows
import Derived.WalkKit
import Derived.LaidEql
import Derived.Stop.Asserts
import Derived.RowKitTokens
namespace Go.Proofs.YtcelnnjjakiehaaGreatDoor
open Go.RowKit
set_option linter.unusedVariables false
set_option maxRecDepth 1000000
set_option maxHeartbeats 4000000
theorem tof_four (w : World) (T : Nat) (a b c d : Value) : ∀ (j : Nat) (u : Value), ([a, b, c, d] : List Value)[j]? = some u → (w.alloc (.cells #[a, b, c, d] T)).cell? ((⟨w.heap.size, 0, none⟩ : Addr).add j) = some u := by
  intro j u h
  have hj : j < 4 := by
    rcases Nat.lt_or_ge j 4 with h' | h'
    · exact h'
    · rw [List.getElem?_eq_none h'] at h; cases h
  have hj4 : j = 0 ∨ j = 1 ∨ j = 2 ∨ j = 3 := by omega
  rcases hj4 with rfl | rfl | rfl | rfl <;> (cases h; exact cell_new w _ _ _ _ rfl)
theorem cell_four_at (w : World) (T g : Nat) (hg : g = w.heap.size) (a b c d : Value) : ∀ (j : Nat) (u : Value), ([a, b, c, d] : List Value)[j]? = some u → (w.alloc (.cells #[a, b, c, d] T)).cell? ((⟨g, 0, none⟩ : Addr).add j) = some u := by
  subst hg
  exact tof_four w T a b c d
theorem tof_shape {w : World} {base : Nat} {e : TypeId} {size : Nat} {v : Value} {n : Nat} {xs : List Value} (h : Own w base e size v (n + 1) xs) : ∃ gb gc, v = .slice (some ⟨gb, 0, none⟩) (n + 1) gc := by
  rcases h.shape with ⟨_, h0, _⟩ | ⟨gb, gc, h0, _⟩
  · omega
  · exact ⟨gb, gc, h0⟩
theorem cmCells_at (l : List Cm) : ∀ (k : Nat) (c : Cm), l[k]? = some c → ∀ j, j < 4 → (cmCells l)[4 * k + j]? = c.cells[j]? := by
  induction l with
  | nil => intro k c h; simp at h
  | cons a t ih =>
    intro k c h j hj
    have ha : a.cells.length = 4 := rfl
    show (a.cells ++ cmCells t)[4 * k + j]? = _
    cases k with
    | zero =>
      simp at h
      subst h
      rw [List.getElem?_append_left (by omega)]
      simp
    | succ k =>
      rw [List.getElem?_append_right (by omega), ha, show 4 * (k + 1) + j - 4 = 4 * k + j from by omega]
      exact ih k c (by simpa using h) j hj
theorem three_alloc (w : World) (a b c : Obj) : (((w.alloc a).alloc b).alloc c).heap.size = w.heap.size + 3 ∧ Below w.heap.size w (((w.alloc a).alloc b).alloc c) ∧
    (((w.alloc a).alloc b).alloc c).heap[w.heap.size + 1 + 1]? = some c ∧ (((w.alloc a).alloc b).alloc c).heap[w.heap.size + 1]? = some b := by
  have s1 : (w.alloc a).heap.size = w.heap.size + 1 := by simp
  have s2 : ((w.alloc a).alloc b).heap.size = w.heap.size + 1 + 1 := by simp
  refine ⟨by simp, (((Below.refl _ _).alloc (Nat.le_refl _) _).alloc (by omega) _).alloc (by omega) _, ?_, ?_⟩
  · have := heap_alloc_new ((w.alloc a).alloc b) c
    rw [s2] at this; exact this
  · have h1 := heap_alloc_new (w.alloc a) b
    rw [s1] at h1
    rw [← h1]
    exact Below.heap_alloc ((w.alloc a).alloc b) c _ (by omega)
theorem info_im : (Tryz.prog.info? 32).map (fun i => (i.zero, i.size, i.bytes)) = some (some (.agg #[.string ⟨#[]⟩, .string ⟨#[]⟩, .int .i64 0, .int .i64 0]), 4, 48) := by kernel_rfl
theorem tokenOf_any (kind space raw text : ByteArray) (base pos fin : Int) (cv : Value) (cs : List Cm) (B : Nat) (w : World) (hown : Own w B 83 4 cv cs.length (cmCells cs)) (hsz : cs.length ≤ 1048576) :
    Calls Tryz.prog 32 #[.agg #[.string kind, cv, .string space, .string raw, .string text, .int .i64 base, .int .i64 pos, .int .i64 fin]] w fun e w' => ∃ cv', e = .returned (.agg #[.string kind, .string space, .string raw, .string text, .int .i64 base, .int .i64 pos, .int .i64 fin, cv']) ∧ Own w' w.heap.size 32 4 cv' cs.length (cmCells cs) ∧ Below w.heap.size w w' := by
  obtain ⟨i0, hinf, hz0, hz1, hz2⟩ := info_parts info_im
  have hcvs : ∃ pa cap, cv = .slice pa cs.length cap ∧ (0 < cs.length → ∃ g, pa = some ⟨g, 0, none⟩ ∧ g < w.heap.size) := by
    rcases hown.shape with ⟨h1, h2, _⟩ | ⟨g, cap, h1, _, h3, _⟩
    · exact ⟨none, 0, by rw [h1, h2], fun h => by omega⟩
    · exact ⟨some ⟨g, 0, none⟩, cap, h1, fun _ => ⟨g, rfl, h3⟩⟩
  obtain ⟨pa, cap, rfl, hpa⟩ := hcvs
  have HPA := Lib.hid hpa; clear hpa
  have HO := Lib.hid hown; clear hown
  go_enter Tryz.func32, Tryz.ntmps32
  go_wp2_with fail
  go_loopw [5, 24] (fun s5 i wr => ∃ (k : Nat) (v : Value), i = .int .i64 k ∧ k ≤ cs.length ∧ Below w.heap.size w wr ∧ w.heap.size + 3 ≤ wr.heap.size ∧
    wr.heap[w.heap.size + 1 + 1]? = some (.cells #[.string kind, .string space, .string raw, .string text, .int .i64 base, .int .i64 pos, .int .i64 fin, v] 30 (0, 0)) ∧
    wr.heap[w.heap.size + 1]? = some (.cells #[.string ⟨#[]⟩, .string ⟨#[]⟩, .string ⟨#[]⟩, .string ⟨#[]⟩, .int .i64 0, .int .i64 0, .int .i64 0, .slice none 0 0] 30 (0, 0)) ∧
    Own wr (w.heap.size + 3) 32 4 v k (cmCells (cs.take k))) (fun _ i _ => cs.length - (intOf i).toNat)
  case atStart =>
    obtain ⟨g1, g2, g3, g4⟩ := three_alloc w (.cells #[.string kind, .slice pa cs.length cap, .string space, .string raw, .string text, .int .i64 base, .int .i64 pos, .int .i64 fin] 62) (.cells #[.string ⟨#[]⟩, .string ⟨#[]⟩, .string ⟨#[]⟩, .string ⟨#[]⟩, .int .i64 0, .int .i64 0, .int .i64 0, .slice none 0 0] 30) (.cells #[.string kind, .string space, .string raw, .string text, .int .i64 base, .int .i64 pos, .int .i64 fin, .slice none 0 0] 30)
    exact ⟨0, .slice none 0 0, rfl, Nat.zero_le _, g2, by rw [g1]; exact Nat.le_refl _, g3, g4, Own.nil _ _ _ _⟩
  case round =>
    obtain ⟨k, v, rfl, hk, hb, hsz2, h3, h2, hown⟩ := hrel
    have hvs : ∃ pv cv, v = .slice pv k cv := by
      rcases hown.shape with ⟨h1, h2, _⟩ | ⟨g, cap, h1, _⟩
      · exact ⟨none, 0, by rw [h1, h2]⟩
      · exact ⟨some ⟨g, 0, none⟩, cap, h1⟩
    obtain ⟨pv, cv, rfl⟩ := hvs
    have hneg : decide ((k : Int) < (cs.length : Int)) = decide (k < cs.length) := by apply decide_eq_decide.2; omega
    by_cases hlt : k < cs.length
    · obtain ⟨g, rfl, hg⟩ := HPA.out (by omega)
      have hsrc := HO.out.below hb (fun g' hg' => (HO.out.lt g' hg').2)
      have hcell : ∀ j, j < 4 → wr.cell? ⟨g, k * 4 + j, none⟩ = cs[k].cells[j]? := by
        intro j hj
        rw [hsrc.cellAt (k * 4 + j) (by omega), ← cmCells_at cs k cs[k] (List.getElem?_eq_getElem hlt) j hj, Nat.mul_comm]
      have hc0 : wr.cell? ⟨g, k * 4, none⟩ = _ := hcell 0 (by omega); have hc1 := hcell 1 (by omega); have hc2 := hcell 2 (by omega); have hc3 := hcell 3 (by omega)
      have htk : cs.take (k + 1) = cs.take k ++ [cs[k]] := by rw [List.take_succ_eq_append_getElem hlt]
      have HTK := Lib.hid htk
      clear hcell htk
      generalize cs[k] = c at *
      simp only [Cm.cells, List.getElem?_cons_zero, List.getElem?_cons_succ] at hc0 hc1 hc2 hc3
      have k7 : wr.cell? ⟨w.heap.size + 1 + 1, 7, none⟩ = some (.slice pv k cv) := by simp [World.cell?, h3]
      have f7 : wr.frozen? ⟨w.heap.size + 1 + 1, 7, none⟩ = false := by simp [World.frozen?, h3]
      have hl3 : w.heap.size + 1 + 1 < wr.heap.size := by omega
      have k7b : ∀ o, (wr.alloc o).cell? ⟨w.heap.size + 1 + 1, 7, none⟩ = some (.slice pv k cv) := fun o => by rw [World.cell?_alloc_old _ _ _ (Nat.ne_of_lt hl3)]; exact k7
      have hclen : k ≤ 1048576 := by omega
      go_wp2_with (at_builtin; go_loud (refine wpList_append_Own _ rfl (.tmp 29) (.tmp 39) 28 rfl (w.heap.size + 3) 32 i0 (.agg #[.string ⟨#[]⟩, .string ⟨#[]⟩, .int .i64 0, .int .i64 0]) 4 48 Tryz.underlying28 hinf hz0 hz1 hz2 rfl (by decide) _ _ _ rfl ((hown.alloc _).alloc _) ⟨wr.heap.size + 1, 0, none⟩ 1 1 [.string ⟨c.space.toArray⟩, .string ⟨c.raw.toArray⟩, .int .i64 (c.pos : Int), .int .i64 ((c.pos : Int) + (c.raw.length : Int))] (by simp [Act.eval]) rfl (cell_four_at _ _ _ (by simp) _ _ _ _) (by simp [Value.oneCell']) (by unfold maxLen; omega) (by omega) (by simp; omega) ?_))
      intro v' w1 hown1 hg1 hbk hne
      obtain ⟨gb, gc, rfl⟩ := tof_shape hown1
      have hlow : ∀ b, b < w.heap.size + 3 → some b ≠ (Value.slice pv k cv).ownBlock := by
        intro b hb e
        have := (hown.lt b e.symm).1
        omega
      have hg2 : wr.grownBy w1 (Value.slice pv k cv).ownBlock := grownBy_trans (grownBy_trans (World.grownBy_alloc _ _ _) (World.grownBy_alloc _ _ _)) hg1
      have hb1 : Below w.heap.size w w1 := hb.grown hg2 (by omega) (by intro j hj; exact Nat.le_of_not_lt (fun h => hlow j (by omega) hj.symm))
      have h31 : w1.heap[w.heap.size + 1 + 1]? = some (.cells #[.string kind, .string space, .string raw, .string text, .int .i64 base, .int .i64 pos, .int .i64 fin, .slice pv k cv] 30 (0, 0)) := by
        rw [hg2.block _ hl3 (hlow _ (by omega))]; exact h3
      have h21 := (hg2.block (w.heap.size + 1) (by omega) (hlow _ (by omega))).trans h2
      have hs1 : wr.heap.size ≤ w1.heap.size := hg2.size
      have hown2 : Own w1 (w.heap.size + 3) 32 4 (.slice (some ⟨gb, 0, none⟩) (k + 1) gc) (k + 1) (cmCells (cs.take (k + 1))) := by
        rw [HTK.out, cmCells_append]; exact hown1
      have hgb := (hown2.lt gb rfl).1
      have k71 : w1.cell? ⟨w.heap.size + 1 + 1, 7, none⟩ = some (.slice pv k cv) := by simp [World.cell?, h31]
      have f71 : w1.frozen? ⟨w.heap.size + 1 + 1, 7, none⟩ = false := by simp [World.frozen?, h31]
      clear hg1 hown1 k7b k7 f7 hc0 hc1 hc2 hc3 hg2 hlow hne hbk
      go_wp2_with fail
      go_roundw
      case rel =>
        refine ⟨k + 1, .slice (some ⟨gb, 0, none⟩) (k + 1) gc, by go_num, by omega, hb1.setCell (by simp; omega) _, by simp; omega, ?_, ?_, ?_⟩
        · simp [World.setCell, Array.getElem?_modify, h31]
        · rw [Below.heap_setCell _ _ _ _ (by simp)]; exact h21
        · exact hown2.other (by simp [Value.ownBlock]; omega) _
      case measure => simp [intOf]; omega
    · have d0 : wr.cell? ⟨w.heap.size + 1 + 1, 0, none⟩ = some (.string kind) := by simp [World.cell?, h3]
      have d1 : wr.cell? ⟨w.heap.size + 1 + 1, 1, none⟩ = some (.string space) := by simp [World.cell?, h3]
      have d2 : wr.cell? ⟨w.heap.size + 1 + 1, 2, none⟩ = some (.string raw) := by simp [World.cell?, h3]
      have d3 : wr.cell? ⟨w.heap.size + 1 + 1, 3, none⟩ = some (.string text) := by simp [World.cell?, h3]
      have d4 : wr.cell? ⟨w.heap.size + 1 + 1, 4, none⟩ = some (.int .i64 base) := by simp [World.cell?, h3]
      have d5 : wr.cell? ⟨w.heap.size + 1 + 1, 5, none⟩ = some (.int .i64 pos) := by simp [World.cell?, h3]
      have d6 : wr.cell? ⟨w.heap.size + 1 + 1, 6, none⟩ = some (.int .i64 fin) := by simp [World.cell?, h3]
      have d7 : wr.cell? ⟨w.heap.size + 1 + 1, 7, none⟩ = some (.slice pv k cv) := by simp [World.cell?, h3]
      have e0 : wr.cell? ⟨w.heap.size + 1, 0, none⟩ = some (.string ⟨#[]⟩) := by simp [World.cell?, h2]
      have e1 : wr.cell? ⟨w.heap.size + 1, 1, none⟩ = some (.string ⟨#[]⟩) := by simp [World.cell?, h2]
      have e2 : wr.cell? ⟨w.heap.size + 1, 2, none⟩ = some (.string ⟨#[]⟩) := by simp [World.cell?, h2]
      have e3 : wr.cell? ⟨w.heap.size + 1, 3, none⟩ = some (.string ⟨#[]⟩) := by simp [World.cell?, h2]
      have e4 : wr.cell? ⟨w.heap.size + 1, 4, none⟩ = some (.int .i64 0) := by simp [World.cell?, h2]
      have e5 : wr.cell? ⟨w.heap.size + 1, 5, none⟩ = some (.int .i64 0) := by simp [World.cell?, h2]
      have e6 : wr.cell? ⟨w.heap.size + 1, 6, none⟩ = some (.int .i64 0) := by simp [World.cell?, h2]
      have e7 : wr.cell? ⟨w.heap.size + 1, 7, none⟩ = some (.slice none 0 0) := by simp [World.cell?, h2]
      have fz : ∀ j, wr.frozen? ⟨w.heap.size + 1, j, none⟩ = false := by intro j; simp [World.frozen?, h2]
      go_wp2_with fail
      have hF : ∃ wf, wf = (((((((wr.setCell ⟨w.heap.size + 1, 0, none⟩ (.string kind)).setCell ⟨w.heap.size + 1, 1, none⟩ (.string space)).setCell ⟨w.heap.size + 1, 2, none⟩ (.string raw)).setCell ⟨w.heap.size + 1, 3, none⟩ (.string text)).setCell ⟨w.heap.size + 1, 4, none⟩ (.int .i64 base)).setCell ⟨w.heap.size + 1, 5, none⟩ (.int .i64 pos)).setCell ⟨w.heap.size + 1, 6, none⟩ (.int .i64 fin)).setCell ⟨w.heap.size + 1, 7, none⟩ (.slice pv k cv) := ⟨_, rfl⟩
      obtain ⟨wf, hwf⟩ := hF
      have hwf2 : wf.heap[w.heap.size + 1]? = some (.cells #[.string kind, .string space, .string raw, .string text, .int .i64 base, .int .i64 pos, .int .i64 fin, .slice pv k cv] 30 (0, 0)) := by
        rw [hwf]; simp [World.setCell, Array.getElem?_modify, h2]
      have hgf : wr.grownBy wf (some (w.heap.size + 1)) := by
        rw [hwf]
        exact grownBy_trans (grownBy_trans (grownBy_trans (grownBy_trans (grownBy_trans (grownBy_trans (grownBy_trans (grownBy_set _ _ _ _) (grownBy_set _ _ _ _)) (grownBy_set _ _ _ _)) (grownBy_set _ _ _ _)) (grownBy_set _ _ _ _)) (grownBy_set _ _ _ _)) (grownBy_set _ _ _ _)) (grownBy_set _ _ _ _)
      rw [← hwf]
      clear hwf d0 d1 d2 d3 d4 d5 d6 d7 e0 e1 e2 e3 e4 e5 e6 e7 fz
      have e0 : wf.cell? ⟨w.heap.size + 1, 0, none⟩ = some (.string kind) := by simp [World.cell?, hwf2]
      have e1 : wf.cell? ⟨w.heap.size + 1, 1, none⟩ = some (.string space) := by simp [World.cell?, hwf2]
      have e2 : wf.cell? ⟨w.heap.size + 1, 2, none⟩ = some (.string raw) := by simp [World.cell?, hwf2]
      have e3 : wf.cell? ⟨w.heap.size + 1, 3, none⟩ = some (.string text) := by simp [World.cell?, hwf2]
      have e4 : wf.cell? ⟨w.heap.size + 1, 4, none⟩ = some (.int .i64 base) := by simp [World.cell?, hwf2]
      have e5 : wf.cell? ⟨w.heap.size + 1, 5, none⟩ = some (.int .i64 pos) := by simp [World.cell?, hwf2]
      have e6 : wf.cell? ⟨w.heap.size + 1, 6, none⟩ = some (.int .i64 fin) := by simp [World.cell?, hwf2]
      have e7 : wf.cell? ⟨w.heap.size + 1, 7, none⟩ = some (.slice pv k cv) := by simp [World.cell?, hwf2]
      have hkn : k = cs.length := by omega
      refine bodyPost_ret (v := .agg #[.string kind, .string space, .string raw, .string text, .int .i64 base, .int .i64 pos, .int .i64 fin, .slice pv k cv]) (by simp [results, Tryz.results32, go_sem, e0, e1, e2, e3, e4, e5, e6, e7]) rfl ⟨_, rfl, ?_, ?_⟩
      · have h9 := (hown.kept hgf (by
          right; intro e
          have := (hown.lt _ e).1
          omega)).mono (base' := w.heap.size) (by omega)
        rw [hkn, List.take_of_length_le (Nat.le_refl _)] at h9
        rw [hkn]
        exact h9
      · exact hb.grown hgf (by omega) (by intro j hj; injection hj with hj; omega)
end Go.Proofs.YtcelnnjjakiehaaGreatDoor
namespace Go.Proofs.YtcelnnjjakiehaaGreatDoor
open Go.RowKit Go.Extern.Stop Go.Stop Go.Extern
set_option linter.unusedVariables false
set_option maxRecDepth 1000000

theorem As.valueOfPP (t : Addr) (w : World) : (ReflectliteValue.unpack (.iface 76 (.pointer (some t)))).run Tryz.prog w
    = .ok (.agg #[.pointer (some ⟨12, 76, none⟩), .pointer (some ⟨w.heap.size, 0, none⟩), .int .u64 150]) (w.alloc (.cells #[.pointer (some t)] 76)) := by kernel_rfl
theorem As.typePP (a : Addr) (w : World) : (ReflectliteValue.methodAny (ReflectliteValue.valueError "reflectlite.Value.Type" 0) (fun t _ _ _ => ReflectliteType.toType t) #[.agg #[.pointer (some ⟨12, 76, none⟩), .pointer (some a), .int .u64 150]]).run Tryz.prog w
    = .ok (.iface 118 (.agg #[.pointer (some ⟨12, 76, none⟩)])) w := by kernel_rfl
theorem As.kindPP (w : World) : ((ReflectliteType.abiMethod fun t => Functor.map (fun a : Nat => Value.int IntKind.u8 (a : Int)) (Rtype.kind t)) #[.pointer (some ⟨12, 76, none⟩)]).run Tryz.prog w = .ok (.int .u8 22) w := by kernel_rfl
theorem As.kindP (w : World) : ((ReflectliteType.abiMethod fun t => Functor.map (fun a : Nat => Value.int IntKind.u8 (a : Int)) (Rtype.kind t)) #[.pointer (some ⟨12, 72, none⟩)]).run Tryz.prog w = .ok (.int .u8 22) w := by kernel_rfl
theorem As.rlm (z : Sem Value) (f : TypeId → Addr → Nat → Nat → Sem Value) (v : Value) :
    ReflectliteValue.method z f #[v] = (do match ← ReflectliteValue.parts v with | none => z | some (t, a, fl) => f t a fl (fl % 32)) := rfl
theorem As.partsPP (a : Addr) (w : World) : (ReflectliteValue.parts (.agg #[.pointer (some ⟨12, 76, none⟩), .pointer (some a), .int .u64 150])).run Tryz.prog w = .ok (some (76, a, 150)) w := by kernel_rfl
theorem As.isNilPP (a p : Addr) (W : World) (ha : W.cell? a = some (.pointer (some p))) :
    (ReflectliteValue.method (ReflectliteValue.valueError "reflectlite.Value.IsNil" 0) ReflectliteValue.isNil #[.agg #[.pointer (some ⟨12, 76, none⟩), .pointer (some a), .int .u64 150]]).run Tryz.prog W = .ok (.bool false) W := by
  rw [As.rlm]
  simp only [Sem.run_bind, As.partsPP, Result.andThen]
  simp [ReflectliteValue.isNil, loadVar, isAgg, underlying, Tryz.underlying76, ha, Result.andThen]
theorem As.elemPP (w : World) : (ReflectliteType.method ReflectliteType.elem #[.agg #[.pointer (some ⟨12, 76, none⟩)]]).run Tryz.prog w = .ok (.iface 118 (.agg #[.pointer (some ⟨12, 72, none⟩)])) w := by kernel_rfl
theorem As.implementsP (w : World) : (ReflectliteType.relation "Implements" ReflectliteType.implements_ #[.agg #[.pointer (some ⟨12, 72, none⟩)], .iface 118 (.agg #[.pointer (some ⟨12, 53, none⟩)])]).run Tryz.prog w = .ok (.bool true) w := by kernel_rfl
theorem As.typeOfP (v : Value) (w : World) : (ReflectliteType.typeOf #[.iface 72 v]).run Tryz.prog w = .ok (.iface 118 (.agg #[.pointer (some ⟨12, 72, none⟩)])) w := by kernel_rfl
theorem As.assignableP (w : World) : (ReflectliteType.relation "AssignableTo" ReflectliteType.assignableTo #[.agg #[.pointer (some ⟨12, 72, none⟩)], .iface 118 (.agg #[.pointer (some ⟨12, 72, none⟩)])]).run Tryz.prog w = .ok (.bool true) w := by kernel_rfl
theorem As.valueOfP (e : Addr) (w : World) : (ReflectliteValue.unpack (.iface 72 (.pointer (some e)))).run Tryz.prog w
    = .ok (.agg #[.pointer (some ⟨12, 72, none⟩), .pointer (some ⟨w.heap.size, 0, none⟩), .int .u64 150]) (w.alloc (.cells #[.pointer (some e)] 72)) := by kernel_rfl
theorem As.elemOfPP (w : World) : (Rtype.elem? 76).run Tryz.prog w = .ok (some 72) w := by kernel_rfl
theorem As.mkP (p : Addr) (w : World) : (ReflectliteValue.mk 72 p ReflectliteValue.flagAddr).run Tryz.prog w = .ok (.agg #[.pointer (some ⟨12, 72, none⟩), .pointer (some p), .int .u64 406]) w := by kernel_rfl
theorem As.elemVPP (a p : Addr) (W : World) (ha : W.cell? a = some (.pointer (some p))) :
    (ReflectliteValue.method (ReflectliteValue.valueError "reflectlite.Value.Elem" 0) ReflectliteValue.elem #[.agg #[.pointer (some ⟨12, 76, none⟩), .pointer (some a), .int .u64 150]]).run Tryz.prog W
      = .ok (.agg #[.pointer (some ⟨12, 72, none⟩), .pointer (some p), .int .u64 406]) W := by
  rw [As.rlm]
  simp only [Sem.run_bind, As.partsPP, Result.andThen]
  simp [ReflectliteValue.elem, loadVar, isAgg, underlying, Tryz.underlying76, ha, Result.andThen, As.elemOfPP, As.mkP]
theorem As.rls (v x : Value) : ReflectliteValue.set #[v, x] = (do
    let (some (dst, a, fl), some (src, b, _)) := (← ReflectliteValue.parts v, ← ReflectliteValue.parts x)
      | unsupported (.noEntry "extern/(internal/reflectlite.Value).Set.zeroValue")
    if fl / ReflectliteValue.flagAddr % 2 == 0 then unsupported (.noEntry "extern/(internal/reflectlite.Value).Set.unaddressable")
    let val ← loadVar src b
    if ← Rtype.directlyAssignable dst src then storeVar dst a val
    else if ← Rtype.implements dst src then
      if (← Rtype.kind src) == 20 then
        match val with
        | .nilIface => unsupported (.noEntry "extern/reflectlite: a nil value of one interface type handed on as a value of another")
        | _ => storeVar dst a val
      else storeVar dst a (.iface src val)
    else panicString ("reflectlite.Set: value of type " ++ (← Rtype.spelt src) ++ " is not assignable to type " ++ (← Rtype.spelt dst))
    pure (.tuple #[])) := rfl
theorem As.partsPa (a : Addr) (w : World) : (ReflectliteValue.parts (.agg #[.pointer (some ⟨12, 72, none⟩), .pointer (some a), .int .u64 406])).run Tryz.prog w = .ok (some (72, a, 406)) w := by kernel_rfl
theorem As.partsP (a : Addr) (w : World) : (ReflectliteValue.parts (.agg #[.pointer (some ⟨12, 72, none⟩), .pointer (some a), .int .u64 150])).run Tryz.prog w = .ok (some (72, a, 150)) w := by kernel_rfl
theorem As.directP (w : World) : (Rtype.directlyAssignable 72 72).run Tryz.prog w = .ok true w := by kernel_rfl
theorem As.setP (ta b e : Addr) (old : Value) (W : World) (hb : W.cell? b = some (.pointer (some e))) (ht : W.cell? ta = some old) (hf : W.frozen? ta = false) :
    (ReflectliteValue.set #[.agg #[.pointer (some ⟨12, 72, none⟩), .pointer (some ta), .int .u64 406], .agg #[.pointer (some ⟨12, 72, none⟩), .pointer (some b), .int .u64 150]]).run Tryz.prog W
      = .ok (.tuple #[]) (W.setCell ta (.pointer (some e))) := by
  rw [As.rls]
  simp only [Sem.run_bind, As.partsPa, As.partsP, Result.andThen]
  simp [ReflectliteValue.flagAddr, loadVar, isAgg, underlying, Tryz.underlying72, hb, Result.andThen, As.directP, storeVar, Value.cells, storeCells, Addr.add]
  rw [run_store Tryz.prog W ta _ _ (by rfl)]
  simp [ht, hf]
theorem As.mKind (h : Value) (w : World) : (Go.method 342 118 (.agg #[h]) "Kind").run Tryz.prog w = .ok (161, h) w := by kernel_rfl
theorem As.mElem (h : Value) (w : World) : (Go.method 342 118 (.agg #[h]) "Elem").run Tryz.prog w = .ok (173, .agg #[h]) w := by kernel_rfl
theorem As.mImplements (h : Value) (w : World) : (Go.method 342 118 (.agg #[h]) "Implements").run Tryz.prog w = .ok (174, .agg #[h]) w := by kernel_rfl
theorem As.mAssignableTo (h : Value) (w : World) : (Go.method 342 118 (.agg #[h]) "AssignableTo").run Tryz.prog w = .ok (171, .agg #[h]) w := by kernel_rfl
set_option maxHeartbeats 4000000 in
theorem as_hit (e t : Addr) (old : Value) (w : World) (hg : w.cell? ⟨0, 0, none⟩ = some (.iface 118 (.agg #[.pointer (some ⟨12, 53, none⟩)]))) (ht0 : w.cell? t = some old) (hf0 : w.frozen? t = false) :
    Calls Tryz.prog 44 #[.iface 72 (.pointer (some e)), .iface 76 (.pointer (some t))] w fun ev w' => ev = .returned (.bool true) ∧ w' = ((((w.alloc (.cells #[.pointer (some t)] 76)).alloc (.cells #[.pointer (some ⟨12, 76, none⟩), .pointer (some ⟨w.heap.size, 0, none⟩), .int .u64 150] 95)).alloc (.cells #[.pointer (some ⟨12, 76, none⟩), .pointer (some ⟨w.heap.size, 0, none⟩), .int .u64 150] 95)).alloc (.cells #[.pointer (some e)] 72)).setCell t (.pointer (some e)) := by
  have h53 := @run_callFunc_extern Tryz.prog 53 _ (fun args => ReflectliteValue.unpack (args.getD 0 (.tuple #[]))) Tryz.func53 (by kernel_rfl) (by kernel_rfl) (by kernel_rfl) (by kernel_rfl)
  have h54 := @run_callFunc_extern Tryz.prog 54 _ (ReflectliteValue.methodAny (ReflectliteValue.valueError "reflectlite.Value.Type" 0) (fun t _ _ _ => ReflectliteType.toType t)) Tryz.func54 (by kernel_rfl) (by kernel_rfl) (by kernel_rfl) (by kernel_rfl)
  have h55 := @run_callFunc_extern Tryz.prog 55 _ (ReflectliteValue.method (ReflectliteValue.valueError "reflectlite.Value.IsNil" 0) ReflectliteValue.isNil) Tryz.func55 (by kernel_rfl) (by kernel_rfl) (by kernel_rfl) (by kernel_rfl)
  have h161 := @run_callFunc_extern Tryz.prog 161 _ (ReflectliteType.abiMethod fun t => do pure (.int .u8 (← Rtype.kind t))) Tryz.func161 (by kernel_rfl) (by kernel_rfl) (by kernel_rfl) (by kernel_rfl)
  have h173 := @run_callFunc_extern Tryz.prog 173 _ (ReflectliteType.method ReflectliteType.elem) Tryz.func173 (by kernel_rfl) (by kernel_rfl) (by kernel_rfl) (by kernel_rfl)
  have h174 := @run_callFunc_extern Tryz.prog 174 _ (ReflectliteType.relation "Implements" ReflectliteType.implements_) Tryz.func174 (by kernel_rfl) (by kernel_rfl) (by kernel_rfl) (by kernel_rfl)
  have h78 := @run_callFunc_extern Tryz.prog 78 _ ReflectliteType.typeOf Tryz.func78 (by kernel_rfl) (by kernel_rfl) (by kernel_rfl) (by kernel_rfl)
  have h171 := @run_callFunc_extern Tryz.prog 171 _ (ReflectliteType.relation "AssignableTo" ReflectliteType.assignableTo) Tryz.func171 (by kernel_rfl) (by kernel_rfl) (by kernel_rfl) (by kernel_rfl)
  have h79 := @run_callFunc_extern Tryz.prog 79 _ (ReflectliteValue.method (ReflectliteValue.valueError "reflectlite.Value.Elem" 0) ReflectliteValue.elem) Tryz.func79 (by kernel_rfl) (by kernel_rfl) (by kernel_rfl) (by kernel_rfl)
  have h80 := @run_callFunc_extern Tryz.prog 80 _ ReflectliteValue.set Tryz.func80 (by kernel_rfl) (by kernel_rfl) (by kernel_rfl) (by kernel_rfl)
  have tO := As.typeOfP
  have aP := As.assignableP
  have vP := As.valueOfP
  have mA := As.mAssignableTo
  have f53 := As.valueOfPP
  have f54 := As.typePP
  have mK := As.mKind
  have mE := As.mElem
  have mI := As.mImplements
  have kPP := As.kindPP
  have kP := As.kindP
  have ePP := As.elemPP
  have iP := As.implementsP
  have n55 := As.isNilPP ⟨w.heap.size, 0, none⟩ t ((w.alloc (.cells #[.pointer (some t)] 76)).alloc (.cells #[.pointer (some ⟨12, 76, none⟩), .pointer (some ⟨w.heap.size, 0, none⟩), .int .u64 150] 95)) (by simp)
  have hlt : 0 < w.heap.size := by
    rcases Nat.eq_zero_or_pos w.heap.size with h0 | h
    · simp [World.cell?, h0] at hg
    · exact h
  have hg2 : ((w.alloc (.cells #[.pointer (some t)] 76)).alloc (.cells #[.pointer (some ⟨12, 76, none⟩), .pointer (some ⟨w.heap.size, 0, none⟩), .int .u64 150] 95)).cell? ⟨0, 0, none⟩ = some (.iface 118 (.agg #[.pointer (some ⟨12, 53, none⟩)])) := by
    rw [World.cell?_alloc_lt _ _ ⟨0, 0, none⟩ (by simp), World.cell?_alloc_lt _ _ ⟨0, 0, none⟩ hlt]; exact hg
  have htl : t.block < w.heap.size := by
    rcases Nat.lt_or_ge t.block w.heap.size with h | h
    · exact h
    · simp [World.cell?, Array.getElem?_eq_none h] at ht0
  have el := As.elemVPP ⟨w.heap.size, 0, none⟩ t (((w.alloc (.cells #[.pointer (some t)] 76)).alloc (.cells #[.pointer (some ⟨12, 76, none⟩), .pointer (some ⟨w.heap.size, 0, none⟩), .int .u64 150] 95)).alloc (.cells #[.pointer (some ⟨12, 76, none⟩), .pointer (some ⟨w.heap.size, 0, none⟩), .int .u64 150] 95)) (by rw [World.cell?_alloc_lt _ _ ⟨w.heap.size, 0, none⟩ (by simp; omega)]; simp)
  have st := As.setP t ⟨w.heap.size + 1 + 1 + 1, 0, none⟩ e old ((((w.alloc (.cells #[.pointer (some t)] 76)).alloc (.cells #[.pointer (some ⟨12, 76, none⟩), .pointer (some ⟨w.heap.size, 0, none⟩), .int .u64 150] 95)).alloc (.cells #[.pointer (some ⟨12, 76, none⟩), .pointer (some ⟨w.heap.size, 0, none⟩), .int .u64 150] 95)).alloc (.cells #[.pointer (some e)] 72))
    (by rw [World.cell?_alloc_at _ _ _ _ (by simp)]; rfl)
    (by rw [World.cell?_alloc_lt _ _ t (by simp; omega), World.cell?_alloc_lt _ _ t (by simp; omega), World.cell?_alloc_lt _ _ t (by simp; omega), World.cell?_alloc_lt _ _ t htl]; exact ht0)
    (by rw [World.frozen?_alloc_old _ _ t (by simp; omega), World.frozen?_alloc_old _ _ t (by simp; omega), World.frozen?_alloc_old _ _ t (by simp; omega), World.frozen?_alloc_old _ _ t (Nat.ne_of_lt htl)]; exact hf0)
  go_enter Tryz.func44, Tryz.ntmps44
  go_wp2
  refine wp_loop_rounds 1 ?_
  rw [rounds_succ]
  go_wp2
  go_ret
  exact ⟨rfl, rfl⟩
end Go.Proofs.YtcelnnjjakiehaaGreatDoor
