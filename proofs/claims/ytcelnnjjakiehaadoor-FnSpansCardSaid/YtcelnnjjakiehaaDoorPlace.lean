/-
  The contracts of impl.Position and impl.Source.
-/
import Derived.Test.YtcelnnjjakiehaaDoorPos
import Derived.Test.YtcelnnjjakiehaaDoorResolve
namespace Go.Proofs.YtcelnnjjakiehaaDoor
open Go.RowKit
set_option linter.unusedVariables false
set_option maxRecDepth 20000
set_option maxHeartbeats 1000000

theorem tab_mono {W w w' : World} (h : Below W.heap.size W w) (h' : Below w.heap.size w w') : Below W.heap.size W w' := h.trans (h'.mono h.size)
/-- the value of a place -/
def placeV (l : List UInt8) (pos fin : Nat) : Value := .agg #[.int .i64 ((lc (l.take pos)).1 : Int), .int .i64 ((lc (l.take pos)).2 : Int), .int .i64 ((lc (l.take fin)).1 : Int), .int .i64 ((lc (l.take fin)).2 : Int)]
theorem implPosition_any (pos fin : Nat) (s : ByteArray) (W w : World) (hW : Tab W) (hB : Below W.heap.size W w) (hs : s.size ≤ 1048576) (hpf : pos ≤ fin) (hf : fin ≤ s.size) :
    Calls Tryd.prog 8 #[.string s, .int .i64 pos, .int .i64 fin] w fun e w' => e = .returned (placeV s.data.toList pos fin) ∧ Below w.heap.size w w' := by
  have hc : ∀ w1 b, Below W.heap.size W w1 → W.heap.size ≤ b → FileAt w1 b ⟨#[]⟩ s (.slice none 0 0) → Calls _ _ _ w1 _ := fun w1 b h1 h2 h3 => position_any b pos fin ⟨#[]⟩ s W w1 hW h1 h2 hs hpf hf (.inl h3)
  unfold PosMade at hc
  unfold placeV
  generalize lc (s.data.toList.take pos) = A at *
  generalize lc (s.data.toList.take fin) = Z at *
  generalize srcText s.data.toList pos fin = src at *
  obtain ⟨l1, c1⟩ := A
  obtain ⟨l2, c2⟩ := Z
  simp only at hc ⊢
  have HC := Lib.hid hc; have HB := Lib.hid hB
  clear hc hB
  have hwa : Below W.heap.size W ((w.alloc (.cells #[.int .i64 0, .int .i64 0, .int .i64 0, .int .i64 0] 27)).alloc (.cells #[.string ⟨#[]⟩, .string s, .slice none 0 0] 34)) := (HB.out.alloc HB.out.size _).alloc (by simp; have := HB.out.size; omega) _
  have hfa : FileAt ((w.alloc (.cells #[.int .i64 0, .int .i64 0, .int .i64 0, .int .i64 0] 27)).alloc (.cells #[.string ⟨#[]⟩, .string s, .slice none 0 0] 34)) (w.heap.size + 1) ⟨#[]⟩ s (.slice none 0 0) := by
    have := heap_alloc_new (w.alloc (.cells #[.int .i64 0, .int .i64 0, .int .i64 0, .int .i64 0] 27)) (.cells #[.string ⟨#[]⟩, .string s, .slice none 0 0] 34)
    simpa [FileAt] using this
  have hx0 : ((w.alloc (.cells #[.int .i64 0, .int .i64 0, .int .i64 0, .int .i64 0] 27)).alloc (.cells #[.string ⟨#[]⟩, .string s, .slice none 0 0] 34)).heap[w.heap.size]? = some (.cells #[.int .i64 0, .int .i64 0, .int .i64 0, .int .i64 0] 27) := by
    rw [Below.heap_alloc _ _ _ (by simp)]
    exact heap_alloc_new w _
  have hsz0 : ((w.alloc (.cells #[.int .i64 0, .int .i64 0, .int .i64 0, .int .i64 0] 27)).alloc (.cells #[.string ⟨#[]⟩, .string s, .slice none 0 0] 34)).heap.size = w.heap.size + 2 := by simp
  have hbw : Below w.heap.size w ((w.alloc (.cells #[.int .i64 0, .int .i64 0, .int .i64 0, .int .i64 0] 27)).alloc (.cells #[.string ⟨#[]⟩, .string s, .slice none 0 0] 34)) := ((Below.refl _ _).alloc (Nat.le_refl _) _).alloc (by simp) _
  have HX0 := Lib.hid hx0; have HSZ0 := Lib.hid hsz0; have HFA := Lib.hid hfa; have HWA := Lib.hid hwa; have HBW := Lib.hid hbw
  clear hx0 hsz0 hfa hwa hbw
  go_enter Tryd.func8, Tryd.ntmps8
  go_wp2_with fail
  refine (HC.out _ _ HWA.out (by have := HB.out.size; omega) HFA.out).mono ?_
  rintro e w1 ⟨N, rfl, hN, hcell, _, hg⟩
  have hsz1 := hg.size
  rw [HSZ0.out] at hN hsz1
  have hx1 : w1.heap[w.heap.size]? = _ := (hg.block w.heap.size (by rw [HSZ0.out]; omega) (by simp)).trans HX0.out
  have HBW1 : Hid (Below w.heap.size w w1) := Lib.hid (HBW.out.grown hg (by rw [HSZ0.out]; omega) (fun k hk => by injection hk with hk; omega))
  have n3 : w1.cell? ⟨N, 3, none⟩ = some (.int .i64 (l1 : Int)) := by simp [World.cell?, hcell]
  have n4 : w1.cell? ⟨N, 4, none⟩ = some (.int .i64 (c1 : Int)) := by simp [World.cell?, hcell]
  have n5 : w1.cell? ⟨N, 5, none⟩ = some (.int .i64 (l2 : Int)) := by simp [World.cell?, hcell]
  have n6 : w1.cell? ⟨N, 6, none⟩ = some (.int .i64 (c2 : Int)) := by simp [World.cell?, hcell]
  have m0 : ∀ k, k < 4 → w1.cell? ⟨w.heap.size, k, none⟩ = some (.int .i64 0) := by
    intro k hk
    have : k = 0 ∨ k = 1 ∨ k = 2 ∨ k = 3 := by omega
    rcases this with rfl | rfl | rfl | rfl <;> simp [World.cell?, hx1]
  have f0 : ∀ k, w1.frozen? ⟨w.heap.size, k, none⟩ = false := by intro k; simp [World.frozen?, hx1]
  have m00 := m0 0 (by omega); have m01 := m0 1 (by omega); have m02 := m0 2 (by omega); have m03 := m0 3 (by omega)
  have f00 := f0 0; have f01 := f0 1; have f02 := f0 2; have f03 := f0 3
  clear m0 f0 hcell hx1 hg
  have hne : ¬ N = w.heap.size := by omega
  have hne2 : ¬ w.heap.size = N := by omega
  have hltN : w.heap.size < w1.heap.size := by omega
  go_wp2_with fail
  go_region_held3 (fun w' => w'.cell? ⟨N, 3, none⟩ = some (.int .i64 (l1 : Int)) ∧ w'.cell? ⟨N, 4, none⟩ = some (.int .i64 (c1 : Int)) ∧ w'.cell? ⟨N, 5, none⟩ = some (.int .i64 (l2 : Int)) ∧ w'.cell? ⟨N, 6, none⟩ = some (.int .i64 (c2 : Int))) (go_keep) (fail)
  go_wp2_with fail
  refine bodyPost_ret (v := .agg #[.int .i64 (l1 : Int), .int .i64 (c1 : Int), .int .i64 (l2 : Int), .int .i64 (c2 : Int)]) (by simp [results, Tryd.results8, go_sem, m00, m01, m02, m03]) rfl ⟨rfl, ?_⟩
  show Below w.heap.size w _
  exact ((((HBW1.out.setCell (Nat.le_refl _) _).setCell (Nat.le_refl _) _).setCell (Nat.le_refl _) _).setCell (Nat.le_refl _) _).drew
end Go.Proofs.YtcelnnjjakiehaaDoor
