/-
  FnSpans returns true at every text and every span of it, and leaves its arguments as they were; and the tied card of that row. Conditions: none beyond the row's own (the listed package variables read as the program's text lays them; the tie is the given one).
-/
import Derived.Test.YtcelnnjjakiehaaDoorCards
import Derived.Test.YtcelnnjjakiehaaDoorTie
import Derived.Test.YtcelnnjjakiehaaDoorPlace
import Derived.ProofKit
import Derived.LaidMore
import Derived.OpenShut
import Derived.ShutString
import Derived.Lib.LaidTab
import Derived.Stop.Joined
import Derived.Stop.LaidErr
namespace Go.Proofs.YtcelnnjjakiehaaDoor.fnSpans
open Go.ChangeShapes Go.WideShapes Go.ChangeAt Go.RowKit
open Go.ChangeMaps (open_string shut_string)
set_option linter.unusedVariables false
set_option maxRecDepth 20000
set_option maxHeartbeats 1000000

theorem walk_in (s : ByteArray) (pos fin : Nat) (W : World) (hW : Tab W) (hs : s.size ≤ 16384) (hpf : pos ≤ fin) (hf : fin ≤ s.size) :
    Calls Tryd.prog 4 #[.string s, .int .i64 pos, .int .i64 fin] W fun e w' => e = .returned (.bool true) ∧ Below W.heap.size W w' := by
  have hc1 := implPosition_any pos fin s W W hW (Below.refl _ _) (by omega) hpf hf
  have hc2 := fun w => implResolve_any pos s w (by omega) (by omega)
  have hc3 := fun w => implResolve_any fin s w (by omega) hf
  have hc4 : ∀ w, Below W.heap.size W w → Calls Tryd.prog 8 #[.string ⟨#[10, 120]⟩, .int .i64 1, .int .i64 2] w _ := fun w h => implPosition_any 1 2 ⟨#[10, 120]⟩ W w hW h (by decide) (by omega) (by decide)
  unfold placeV at hc1
  unfold ToldLC at hc2 hc3
  have hx : (placeV (⟨#[10, 120]⟩ : ByteArray).data.toList 1 2) = .agg #[.int .i64 1, .int .i64 0, .int .i64 1, .int .i64 1] := rfl
  rw [hx] at hc4
  generalize lc (s.data.toList.take pos) = A at *
  generalize lc (s.data.toList.take fin) = Z at *
  obtain ⟨l1, c1⟩ := A
  obtain ⟨l2, c2⟩ := Z
  simp only at hc1 hc2 hc3
  have HC1 := Lib.hid hc1; have HC2 := Lib.hid hc2; have HC3 := Lib.hid hc3; have HC4 := Lib.hid hc4
  clear hc1 hc2 hc3 hc4 hx
  go_enter Tryd.func4, Tryd.ntmps4
  go_wp2_with fail
  refine HC1.out.mono ?_
  rintro e w1 ⟨rfl, hb1⟩
  go_wp2_with fail
  have hx : (w1.alloc (.cells #[.int .i64 (l1 : Int), .int .i64 (c1 : Int), .int .i64 (l2 : Int), .int .i64 (c2 : Int)] 27)).heap[w1.heap.size]? = some (.cells #[.int .i64 (l1 : Int), .int .i64 (c1 : Int), .int .i64 (l2 : Int), .int .i64 (c2 : Int)] 27) := heap_alloc_new w1 _
  have hbw : Below W.heap.size W (w1.alloc (.cells #[.int .i64 (l1 : Int), .int .i64 (c1 : Int), .int .i64 (l2 : Int), .int .i64 (c2 : Int)] 27)) := hb1.alloc hb1.size _
  have hlt : w1.heap.size < (w1.alloc (.cells #[.int .i64 (l1 : Int), .int .i64 (c1 : Int), .int .i64 (l2 : Int), .int .i64 (c2 : Int)] 27)).heap.size := by simp
  clear hb1
  generalize hw2 : (w1.alloc (.cells #[.int .i64 (l1 : Int), .int .i64 (c1 : Int), .int .i64 (l2 : Int), .int .i64 (c2 : Int)] 27)) = w2 at *
  clear hw2
  refine (HC2.out _).mono ?_
  rintro e w3 ⟨rfl, hb3⟩
  have hx3 := (hb3.block _ hlt).trans hx
  have hbw3 := tab_mono hbw hb3
  have hlt3 : w1.heap.size < w3.heap.size := Nat.lt_of_lt_of_le hlt hb3.size
  clear hx hbw hlt hb3
  go_wp2_with fail
  refine (HC3.out _).mono ?_
  rintro e w4 ⟨rfl, hb4⟩
  have hx4 := (hb4.block _ hlt3).trans hx3
  have hbw4 := tab_mono hbw3 hb4
  have hlt4 : w1.heap.size < w4.heap.size := Nat.lt_of_lt_of_le hlt3 hb4.size
  clear hx3 hbw3 hlt3 hb4
  go_wp2_with fail
  refine (HC4.out _ hbw4).mono ?_
  rintro e w5 ⟨rfl, hb5⟩
  have hx5 := (hb5.block _ hlt4).trans hx4
  have hbw5 := tab_mono hbw4 hb5
  have hlt5 : w1.heap.size < w5.heap.size := Nat.lt_of_lt_of_le hlt4 hb5.size
  clear hx4 hbw4 hlt4 hb5
  have m0 : w5.cell? ⟨w1.heap.size, 0, none⟩ = some (.int .i64 (l1 : Int)) := by simp [World.cell?, hx5]
  have m1 : w5.cell? ⟨w1.heap.size, 1, none⟩ = some (.int .i64 (c1 : Int)) := by simp [World.cell?, hx5]
  have m2 : w5.cell? ⟨w1.heap.size, 2, none⟩ = some (.int .i64 (l2 : Int)) := by simp [World.cell?, hx5]
  have m3 : w5.cell? ⟨w1.heap.size, 3, none⟩ = some (.int .i64 (c2 : Int)) := by simp [World.cell?, hx5]
  clear hx5
  have hne : ¬ w1.heap.size = w5.heap.size := by omega
  generalize w1.heap.size = pb at *
  go_wp2_with fail
  go_ret
  exact ⟨rfl, hbw5.alloc hbw5.size _⟩
theorem walk (a0 : ByteArray) (a1 a2 : Int) (w0 : a0.size ≤ maxLen) (w1 : (Lit.int .i64 a1).wf = true) (w2 : (Lit.int .i64 a2).wf = true) (W : World) (hW : Tab W) :
    Calls Tryd.prog 4 #[.string a0, .int .i64 a1, .int .i64 a2] W fun e w' => e = .returned (.bool true) ∧ Below W.heap.size W w' := by
  by_cases h : a0.size ≤ 16384 ∧ 0 ≤ a1 ∧ a1 ≤ a2 ∧ a2 ≤ a0.size
  · obtain ⟨h1, h2, h3, h4⟩ := h
    obtain ⟨pos, rfl⟩ := Int.eq_ofNat_of_zero_le h2
    obtain ⟨fin, rfl⟩ := Int.eq_ofNat_of_zero_le (Int.le_trans h2 h3)
    exact walk_in a0 pos fin W hW h1 (by omega) (by omega)
  · unfold maxLen at w0
    have hh : ¬ ((a0.size : Int) ≤ 16384 ∧ 0 ≤ a1 ∧ a1 ≤ a2 ∧ a2 ≤ (a0.size : Int)) := by omega
    clear h w1 w2 hW
    by_cases h0 : 2147483647 < (a0.size : Int)
    · go_enter Tryd.func4, Tryd.ntmps4
      go_wp2_with fail
      go_ret
      exact ⟨rfl, Below.refl _ _⟩
    by_cases h1 : 16384 < (a0.size : Int)
    · go_enter Tryd.func4, Tryd.ntmps4
      go_wp2_with fail
      go_ret
      exact ⟨rfl, Below.refl _ _⟩
    by_cases h2 : a1 < 0
    · go_enter Tryd.func4, Tryd.ntmps4
      go_wp2_with fail
      go_ret
      exact ⟨rfl, Below.refl _ _⟩
    by_cases h3 : a2 < a1
    · clear hh
      go_enter Tryd.func4, Tryd.ntmps4
      go_wp2_with fail
      go_ret
      exact ⟨rfl, Below.refl _ _⟩
    · have h4 : (a0.size : Int) < a2 := by omega
      clear hh
      go_enter Tryd.func4, Tryd.ntmps4
      go_wp2_with fail
      go_ret
      exact ⟨rfl, Below.refl _ _⟩

theorem own : ownKnob Tryd.prog.godebug = none := by kernel_rfl
theorem door_met (os : Os) (args : Array Value) : laidMetH Tryd.prog Rows.fnSpansRow.laid ((World.doorLaid Tryd.prog 400 os).forCall (fun _ _ => 0) ⟨#[], args, []⟩).memory :=
  laidMetH_of_parts3 (fuel := 8) (laidMet_of_run' 8 (by kernel_rfl) (by kernel_rfl)) (by kernel_rfl) (by kernel_rfl)
theorem gTabType : (Tryd.prog.globals[2]?).map (·.type) = some 87 := by kernel_rfl
theorem tab_of {W : World} (h : laidMetH Tryd.prog Rows.fnSpansRow.laid W) : Tab W := by
  rw [MakeChecks.laidMetH_plain _ _ _ (by kernel_rfl)] at h
  have h' : laidMet Tryd.prog (("internal/strconv.uint64pow10", Lib.tabData .u64 Lib.pow10Tab) :: [("bytes.ErrTooLarge", Rows.laid_bytes_ErrTooLarge)]) W := laidMet.tail (laidMet.tail h)
  exact Lib.tabIs_of_head glob_tab gTabType Tryd.underlying87 Tryd.underlying72 (by kernel_rfl) (by kernel_rfl) h'

set_option maxRecDepth 100000 in
theorem lifted (os : Os) (started : os.Started) (H : Type) (enc : TypeId × Value → H) :
    ReturnsInHanded {} Tryd.checked os 4 .any (fun w args => (Rows.fnSpansSpec.pre enc Tryd.prog Tryd.f4 [] false w args ∧ laidMetH Tryd.prog Rows.fnSpansRow.laid w) ∧ sizedMet enc Tryd.prog Tryd.f4 (OpenSpec.ofChange Rows.fnSpansSpec) false w args)
      (Rows.fnSpansSpec.post enc Tryd.prog Tryd.f4 false true false false) := by
  refine returnsInHanded_of_change_and (C := Tryd.checked) (X := fun w _ => laidMetH Tryd.prog Rows.fnSpansRow.laid w) (fun _ _ _ hh h => h.of_heap hh) own started (by kernel_rfl) Tryd.func4
    (ChangeSpec.witness_shaped (enc := enc) (C := Tryd.checked) (os := os) (X := fun w _ => laidMetH Tryd.prog Rows.fnSpansRow.laid w) false (World.doorLaid Tryd.prog 400 os) #[.string ByteArray.empty, .int .i64 0, .int .i64 0] 8 rfl (World.shaped_of_RefB (by kernel_rfl) (by kernel_rfl)) (by kernel_rfl) (by kernel_rfl) (by kernel_rfl) (door_met os _)) ?_
  intro W base args ds gs before hval0 hW _ _ hL _
  have hval : ∀ (j : Nat) t v, Tryd.f4.params[j]? = some t → args[j]? = some v → Value.okWide Tryd.prog W .any base t v := hval0
  have hW' := hW
  obtain ⟨p, q, hA0, hV, rfl, hfz, hnd⟩ := hW
  have hA : DataW.TrodAll enc Tryd.prog W 0 (fun _ => true) true Tryd.f4.params.toList args.toList ds p := hA0
  rw [Tryd.params4] at hA hval
  obtain ⟨v0, vs0, d0, ds0, p0, q0, hargs, rfl, rfl, h0, r0⟩ := trodAll_cons hA
  obtain ⟨v1, vs1, d1, ds1, p1, q1, rfl, rfl, rfl, h1, r1⟩ := trodAll_cons r0
  obtain ⟨v2, vs2, d2, ds2, p2, q2, rfl, rfl, rfl, h2, r2⟩ := trodAll_cons r1
  obtain ⟨rfl, rfl, rfl⟩ := trodAll_nil r2
  obtain rfl : args = #[v0, v1, v2] := by cases args; simp_all
  obtain ⟨rfl, rfl⟩ := trodVars_none hV
  obtain ⟨a0, rfl, rfl, rfl, w0⟩ := open_string Tryd.underlying9 (hval 0 9 v0 rfl rfl) h0
  obtain ⟨a1, rfl, rfl, rfl, w1⟩ := open_int Tryd.underlying3 (hval 1 3 v1 rfl rfl) h1
  obtain ⟨a2, rfl, rfl, rfl, w2⟩ := open_int Tryd.underlying3 (hval 2 3 v2 rfl rfl) h2
  clear hA0 hval0
  simp only [List.append_nil] at hW'
  refine (walk a0 a1 a2 w0 w1 w2 W (tab_of hL)).mono fun e W' ⟨he, hg⟩ => ?_
  subst he
  exact ⟨_, rfl, post_of_below (pa := []) (pv := []) hW' (fun _ _ _ => (trodAll_cons_mk (shut_bool Tryd.underlying4 _) trodAll_mk0)) (fun sp _ => (trodAll_cons_mk (shut_string Tryd.underlying9 w0) (trodAll_cons_mk (shut_int Tryd.underlying3 w1) (trodAll_cons_mk (shut_int Tryd.underlying3 w2) trodAll_mk0)))) (fun _ _ => rfl) rfl hg⟩

theorem said : Rows.FnSpansSaid :=
  OpenClaim.holds_of_wide 4 Tryd.f4 rfl rfl rfl rfl rfl rfl rfl ⟨rfl, rfl, rfl, rfl, rfl⟩ rfl rfl rfl rfl rfl (by kernel_rfl) Tryd.func4 (by kernel_rfl)
    (of_decide_eq_true (by kernel_rfl)) (by unfold Func.isWrapper; first | (rw [if_pos (by decide +kernel)]; kernel_rfl) | (rw [if_neg (by decide +kernel)]; exact ⟨rfl, rfl⟩))
    (fun os started H enc _ => lifted os started H enc)
theorem plain (f : FuncId) (fn : Func) (hf : Tryd.pinned.checked.prog.funcNamed "pub-dabber/laws.FnSpans" = some f) (hfn : Tryd.pinned.checked.prog.funcs[f]? = some fn) :
    false = Tryd.pinned.checked.prog.looks [] ∧ ∀ (j : Nat) t, fn.params[j]? = some t → Tryd.pinned.checked.prog.wantsStandIn t = false := by
  obtain rfl : f = 4 := Option.some.inj ((show Tryd.prog.funcNamed "pub-dabber/laws.FnSpans" = some 4 by kernel_rfl).symm.trans hf) |>.symm
  obtain rfl : fn = Tryd.f4 := (Option.some.inj (Tryd.func4.symm.trans hfn)).symm
  refine ⟨by kernel_rfl, fun j t ht => ?_⟩
  rw [Tryd.params4] at ht
  have hm : t ∈ [9, 3, 3] := by simpa using Array.mem_of_getElem? ht
  have hall : ([9, 3, 3].all fun u => !Tryd.prog.wantsStandIn u) = true := by kernel_rfl
  exact (show Tryd.prog.wantsStandIn t = false by simpa using List.all_eq_true.1 hall t hm)
/-- THE CARD -/
theorem proved : Rows.FnSpansCardSaid :=
  Claim7.holds_tied_plain_at .later [] _ _ _ _ said (fun _ h => by cases h) (by kernel_rfl) (fun _ h => by cases h) fnSpans_row_tie rfl ⟨rfl, rfl⟩ (by kernel_rfl) rfl plain (by kernel_rfl)
#print axioms proved
end Go.Proofs.YtcelnnjjakiehaaDoor.fnSpans
