/-
  FnUpper returns true at every string, and leaves its argument as it was. Conditions: none beyond the row's own.
-/
import Derived.Test.YtcelnnjjakiehaaRows
import Derived.WalkKit
import Derived.Test.YtcelnnjjakiehaaUpper
import Derived.ProofKit
import Derived.OpenShut
import Derived.ShutString
namespace Go.Proofs.Ytcelnnjjakiehaa.fnUpper
open Go.ChangeShapes Go.WideShapes Go.ChangeAt Go.RowKit
open Go.ChangeMaps (open_string shut_string)
set_option linter.unusedVariables false      -- a walk need not use every 'w<i>' (that an integer argument fits its kind)

theorem own : ownKnob Try.prog.godebug = none := by kernel_rfl

set_option maxRecDepth 20000 in
set_option maxHeartbeats 400000 in
theorem implUpper_any (s : ByteArray) (w : World) (hs : s.size ≤ 140737488355328) :
    Calls Try.prog 6 #[.string s] w fun e w' => e = .returned (.string ⟨(upL s.data.toList).toArray⟩) ∧ Below w.heap.size w w' := by
  go_enter Try.func6, Try.ntmps6
  go_wp2_with fail
  refine (charUpper_any s w hs).mono ?_
  rintro e w' ⟨rfl, hb⟩
  go_wp2_with fail
  go_ret
  exact ⟨rfl, hb⟩
theorem capitals (s : ByteArray) : (⟨(upL (s ++ ⟨#[97]⟩).data.toList).toArray⟩ : ByteArray) = ⟨(upL s.data.toList).toArray⟩ ++ ⟨#[65]⟩ := by
  apply ba_ext
  simp [upL, upB]
set_option maxRecDepth 20000 in
set_option maxHeartbeats 400000 in
theorem walk (a0 : ByteArray) (w0 : a0.size ≤ maxLen) (w : World) :
    Calls Try.prog 3 #[.string a0] w fun e w' => e = .returned (.bool true) ∧ Below w.heap.size w w' := by
  have hmx := w0
  unfold maxLen at hmx
  by_cases h0 : 2147483647 < (a0.size : Int)
  · go_enter Try.func3, Try.ntmps3
    go_wp2_with fail
    go_ret
    exact ⟨rfl, Below.refl _ _⟩
  cases hA : asc a0.data.toList with
  | false =>
    have HA := Lib.hid hA; clear hA
    go_enter Try.func3, Try.ntmps3
    go_wp2_with fail
    refine (ascii_any a0 w w0).mono ?_
    rintro e w' ⟨rfl, rfl⟩
    rw [HA.out]
    go_wp2_with fail
    go_ret
    exact ⟨rfl, Below.refl _ _⟩
  | true =>
    have HA := Lib.hid hA; clear hA
    by_cases h1 : 16384 < (a0.size : Int)
    · go_enter Try.func3, Try.ntmps3
      go_wp2_with fail
      refine (ascii_any a0 w w0).mono ?_
      rintro e w' ⟨rfl, rfl⟩
      rw [HA.out]
      go_wp2_with fail
      go_ret
      exact ⟨rfl, Below.refl _ _⟩
    · go_enter Try.func3, Try.ntmps3
      go_wp2_with fail
      refine (ascii_any a0 w w0).mono ?_
      rintro e w' ⟨rfl, rfl⟩
      rw [HA.out]
      go_wp2_with fail
      have hsz : (a0 ++ ⟨#[97]⟩ : ByteArray).size ≤ 140737488355328 := by
        rw [ByteArray.size_append]; show a0.size + 1 ≤ _; omega
      refine (implUpper_any _ w hsz).mono ?_
      rintro e w1 ⟨rfl, hb1⟩
      rw [capitals]
      go_wp2_with fail
      refine (upper_any a0 w1 w0).mono ?_
      rintro e w2 ⟨rfl, hb2⟩
      have hb := hb1.trans (hb2.mono hb1.size)
      clear hb1 hb2
      have hus : (⟨(upL a0.data.toList).toArray⟩ : ByteArray).size ≤ 16384 := by
        show (upL a0.data.toList).toArray.size ≤ _
        have := ba_toList_length a0
        simp only [List.size_toArray, upL, List.length_map]; omega
      generalize (⟨(upL a0.data.toList).toArray⟩ : ByteArray) = u at *
      go_wp2_with fail
      go_ret
      exact ⟨rfl, hb⟩

/-! ### THE ROW's STEP: WRITTEN OUT: LEAVE IT -/
set_option maxRecDepth 100000 in
theorem lifted (os : Os) (started : os.Started) (H : Type) (enc : TypeId × Value → H) :
    ReturnsInHanded {} Try.checked os 3 .any (Rows.fnUpperSpec.pre6 enc Try.prog Try.f3 Rows.fnUpperRow.domain false) (Rows.fnUpperSpec.post enc Try.prog Try.f3 false true false false) := by
  refine returnsInHanded_of_change (C := Try.checked) own started (by kernel_rfl) Try.func3
    (ChangeSpec.witness6 (enc := enc) (C := Try.checked) false ⟨#[], #[.string ByteArray.empty], []⟩ 8 (by kernel_rfl) (by kernel_rfl) (by kernel_rfl) (by kernel_rfl)) ?_
  intro W base args ds gs before hval0 hW hcnd _
  have hval : ∀ (j : Nat) t v, Try.f3.params[j]? = some t → args[j]? = some v → Value.okWide Try.prog W .any base t v := hval0
  have hW' := hW
  obtain ⟨p, q, hA0, hV, rfl, hfz, hnd⟩ := hW
  have hA : DataW.TrodAll enc Try.prog W 0 (fun _ => true) true Try.f3.params.toList args.toList ds p := hA0
  rw [Try.params3] at hA hval
  obtain ⟨v0, vs0, d0, ds0, p0, q0, hargs, rfl, rfl, h0, r0⟩ := trodAll_cons hA
  obtain ⟨rfl, rfl, rfl⟩ := trodAll_nil r0
  obtain rfl : args = #[v0] := by cases args; simp_all
  obtain ⟨rfl, rfl⟩ := trodVars_none hV
  obtain ⟨a0, rfl, rfl, rfl, w0⟩ := open_string Try.underlying9 (hval 0 9 v0 rfl rfl) h0
  clear hA0 hval0
  simp only [List.append_nil] at hW'
  refine (walk a0 w0 W).mono fun e W' ⟨he, hg⟩ => ?_
  subst he
  exact ⟨_, rfl, post_of_below (pa := []) (pv := []) hW' (fun _ _ _ => (trodAll_cons_mk (shut_bool Try.underlying4 _) trodAll_mk0)) (fun sp _ => (trodAll_cons_mk (shut_string Try.underlying9 w0) trodAll_mk0)) (fun _ _ => rfl) rfl hg⟩

theorem over : Rows.fnUpperRow.holds Try.pinned (OpenSpec.ofChange Rows.fnUpperSpec) :=
  OpenClaim.holds_of_wide 3 Try.f3 rfl rfl rfl rfl rfl rfl rfl ⟨rfl, rfl, rfl, rfl, rfl⟩ rfl rfl rfl rfl rfl (by kernel_rfl) Try.func3 (by kernel_rfl)
    (of_decide_eq_true (by kernel_rfl)) (by unfold Func.isWrapper; first | (rw [if_pos (by decide +kernel)]; kernel_rfl) | (rw [if_neg (by decide +kernel)]; exact ⟨rfl, rfl⟩))
    (fun os started H enc _ => lifted os started H enc)

/-- ████ THE STATEMENT ████ -/
theorem proved : Rows.FnUpperSaid :=
  over
#print axioms proved
end Go.Proofs.Ytcelnnjjakiehaa.fnUpper
