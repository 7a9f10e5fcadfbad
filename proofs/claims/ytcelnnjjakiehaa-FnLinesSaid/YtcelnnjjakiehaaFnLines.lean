/-
  FnLines returns true at every text and every place, and leaves its arguments as they were. Conditions: none beyond the row's own.
-/
import Derived.Test.YtcelnnjjakiehaaRows
import Derived.WalkKit
import Derived.Test.YtcelnnjjakiehaaResolve
import Derived.ProofKit
import Derived.OpenShut
import Derived.ShutString
namespace Go.Proofs.Ytcelnnjjakiehaa.fnLines
open Go.ChangeShapes Go.WideShapes Go.ChangeAt Go.RowKit
open Go.ChangeMaps (open_string shut_string)
set_option linter.unusedVariables false      -- a walk need not use every 'w<i>' (that an integer argument fits its kind)

theorem own : ownKnob Try.prog.godebug = none := by kernel_rfl

/-- what the law reckons for the first k letters -/
theorem lc_snoc (s : ByteArray) (k : Nat) (h : k < s.size) : lc (s.data.toList.take (k + 1)) = if s[k] = 10 then ((lc (s.data.toList.take k)).1 + 1, 0) else ((lc (s.data.toList.take k)).1, (lc (s.data.toList.take k)).2 + 1) := by
  rw [take_snoc s k h]; exact lcFrom_snoc 0 0 _ _
theorem lc_le (l : List UInt8) : (lc l).1 + (lc l).2 ≤ l.length := by
  suffices h : ∀ a b, (lcFrom a b l).1 + (lcFrom a b l).2 ≤ a + b + l.length by have := h 0 0; unfold lc; omega
  induction l with
  | nil => intro a b; simp [lcFrom]
  | cons c r ih =>
    intro a b
    simp only [lcFrom]
    split
    · have := ih (a + 1) 0; simp; omega
    · have := ih a (b + 1); simp; omega
theorem lc_feed (s : ByteArray) (pos : Nat) : (lc ((⟨#[10]⟩ ++ s : ByteArray).data.toList.take (pos + 1))).1 = (lc (s.data.toList.take pos)).1 + 1 := by
  have e : (⟨#[10]⟩ ++ s : ByteArray).data.toList = 10 :: s.data.toList := by simp
  rw [e, List.take_succ_cons]
  show (lcFrom 0 0 (10 :: _)).1 = _
  simp only [lcFrom, if_true]
  rw [lcFrom_eq]; simp only; omega
set_option maxRecDepth 20000 in
set_option maxHeartbeats 1000000 in
theorem walk_in (s : ByteArray) (pos : Nat) (w : World) (hs : s.size ≤ 16384) (hp : pos ≤ s.size) :
    Calls Try.prog 4 #[.string s, .int .i64 pos] w fun e w' => e = .returned (.bool true) ∧ Below w.heap.size w w' := by
  go_enter Try.func4, Try.ntmps4
  go_wp2_with fail
  go_loop [5, 6, 7] (fun l c i => ∃ k : Nat, k ≤ pos ∧ i = .int .i64 k ∧ l = .int .i64 ((lc (s.data.toList.take k)).1 : Int) ∧ c = .int .i64 ((lc (s.data.toList.take k)).2 : Int)) (fun _ _ i => pos - (intOf i).toNat)
  case atStart => exact ⟨0, Nat.zero_le _, rfl, rfl, rfl⟩
  case round =>
    obtain ⟨k, hk, rfl, rfl, rfl⟩ := hrel
    have hle := lc_le (s.data.toList.take k)
    rw [List.length_take] at hle
    have hle2 : (lc (s.data.toList.take k)).1 + (lc (s.data.toList.take k)).2 ≤ 16384 := by
      rw [ba_toList_length] at hle; omega
    clear hle
    by_cases hlt : k < pos
    · have hks : k < s.size := by omega
      have HS := Lib.hid (lc_snoc s k hks)
      generalize lc (s.data.toList.take k) = q at *
      obtain ⟨a, b⟩ := q
      simp only at hle2
      go_wp2_with fail
      · have ht : (((s[k].toNat : Nat) : Int) == 10) = true := by assumption
        have ht : s[k] = 10 := by rw [← UInt8.toNat_inj]; have := beq_iff_eq.1 ht; show _ = 10; omega
        have h := HS.out
        rw [if_pos ht] at h
        go_round
        case rel => exact ⟨k + 1, by omega, by go_num, by rw [h]; go_num, by rw [h]; rfl⟩
        case measure => simp [intOf]; omega
      · have ht : (((s[k].toNat : Nat) : Int) == 10) = false := by assumption
        have ht : ¬ s[k] = 10 := by
          rw [← UInt8.toNat_inj]
          have h1 := beq_eq_false_iff_ne.1 ht
          show ¬ s[k].toNat = 10
          omega
        have h := HS.out
        rw [if_neg ht] at h
        go_round
        case rel => exact ⟨k + 1, by omega, by go_num, by rw [h], by rw [h]; go_num⟩
        case measure => simp [intOf]; omega
    · obtain rfl : k = pos := by omega
      have HF := Lib.hid (lc_feed s k)
      have hfs : (⟨#[10]⟩ ++ s : ByteArray).size = s.size + 1 := by rw [ByteArray.size_append]; show 1 + _ = _; omega
      have HFS := Lib.hid hfs; clear hfs
      have hc1 := fun W => implResolve_any k s W (by omega) hp
      have hc2 := fun W => implResolve_any (k + 1) (⟨#[10]⟩ ++ s) W (by rw [HFS.out]; omega) (by rw [HFS.out]; omega)
      have HC1 := Lib.hid hc1; have HC2 := Lib.hid hc2
      clear hc1 hc2
      unfold ToldLC at HC1 HC2
      generalize lc (s.data.toList.take k) = q at *
      generalize lc ((⟨#[10]⟩ ++ s : ByteArray).data.toList.take (k + 1)) = r at *
      obtain ⟨a, b⟩ := q
      obtain ⟨c, d⟩ := r
      obtain rfl : c = a + 1 := HF.out
      clear HF
      simp only at hle2 HC1 HC2
      go_wp2_with fail
      refine (HC1.out _).mono ?_
      rintro e w1 ⟨rfl, hb1⟩
      go_wp2_with fail
      refine (HC2.out _).mono ?_
      rintro e w2 ⟨rfl, hb2⟩
      have hb := hb1.trans (hb2.mono hb1.size)
      clear hb1 hb2
      go_wp2_with fail
      go_ret
      exact ⟨rfl, hb⟩
set_option maxRecDepth 20000 in
set_option maxHeartbeats 1000000 in
theorem walk (a0 : ByteArray) (a1 : Int) (w0 : a0.size ≤ maxLen) (w1 : (Lit.int .i64 a1).wf = true) (w : World) :
    Calls Try.prog 4 #[.string a0, .int .i64 a1] w fun e w' => e = .returned (.bool true) ∧ Below w.heap.size w w' := by
  by_cases h : a0.size ≤ 16384 ∧ 0 ≤ a1 ∧ a1 ≤ a0.size
  · obtain ⟨h1, h2, h3⟩ := h
    obtain ⟨pos, rfl⟩ := Int.eq_ofNat_of_zero_le h2
    exact walk_in a0 pos w h1 (by omega)
  · unfold maxLen at w0
    have hh : ¬ ((a0.size : Int) ≤ 16384 ∧ 0 ≤ a1 ∧ a1 ≤ (a0.size : Int)) := by omega
    clear h w1
    by_cases h0 : 2147483647 < (a0.size : Int)
    · go_enter Try.func4, Try.ntmps4
      go_wp2_with fail
      go_ret
      exact ⟨rfl, Below.refl _ _⟩
    by_cases h1 : 16384 < (a0.size : Int)
    · go_enter Try.func4, Try.ntmps4
      go_wp2_with fail
      go_ret
      exact ⟨rfl, Below.refl _ _⟩
    by_cases h2 : a1 < 0
    · go_enter Try.func4, Try.ntmps4
      go_wp2_with fail
      go_ret
      exact ⟨rfl, Below.refl _ _⟩
    · have h3 : (a0.size : Int) < a1 := by omega
      clear hh
      go_enter Try.func4, Try.ntmps4
      go_wp2_with fail
      go_ret
      exact ⟨rfl, Below.refl _ _⟩

/-! ### THE ROW's STEP: WRITTEN OUT: LEAVE IT -/
set_option maxRecDepth 100000 in
theorem lifted (os : Os) (started : os.Started) (H : Type) (enc : TypeId × Value → H) :
    ReturnsInHanded {} Try.checked os 4 .any (Rows.fnLinesSpec.pre6 enc Try.prog Try.f4 Rows.fnLinesRow.domain false) (Rows.fnLinesSpec.post enc Try.prog Try.f4 false true false false) := by
  refine returnsInHanded_of_change (C := Try.checked) own started (by kernel_rfl) Try.func4
    (ChangeSpec.witness6 (enc := enc) (C := Try.checked) false ⟨#[], #[.string ByteArray.empty, .int .i64 0], []⟩ 8 (by kernel_rfl) (by kernel_rfl) (by kernel_rfl) (by kernel_rfl)) ?_
  intro W base args ds gs before hval0 hW hcnd _
  have hval : ∀ (j : Nat) t v, Try.f4.params[j]? = some t → args[j]? = some v → Value.okWide Try.prog W .any base t v := hval0
  have hW' := hW
  obtain ⟨p, q, hA0, hV, rfl, hfz, hnd⟩ := hW
  have hA : DataW.TrodAll enc Try.prog W 0 (fun _ => true) true Try.f4.params.toList args.toList ds p := hA0
  rw [Try.params4] at hA hval
  obtain ⟨v0, vs0, d0, ds0, p0, q0, hargs, rfl, rfl, h0, r0⟩ := trodAll_cons hA
  obtain ⟨v1, vs1, d1, ds1, p1, q1, rfl, rfl, rfl, h1, r1⟩ := trodAll_cons r0
  obtain ⟨rfl, rfl, rfl⟩ := trodAll_nil r1
  obtain rfl : args = #[v0, v1] := by cases args; simp_all
  obtain ⟨rfl, rfl⟩ := trodVars_none hV
  obtain ⟨a0, rfl, rfl, rfl, w0⟩ := open_string Try.underlying9 (hval 0 9 v0 rfl rfl) h0
  obtain ⟨a1, rfl, rfl, rfl, w1⟩ := open_int Try.underlying3 (hval 1 3 v1 rfl rfl) h1
  clear hA0 hval0
  simp only [List.append_nil] at hW'
  refine (walk a0 a1 w0 w1 W).mono fun e W' ⟨he, hg⟩ => ?_
  subst he
  exact ⟨_, rfl, post_of_below (pa := []) (pv := []) hW' (fun _ _ _ => (trodAll_cons_mk (shut_bool Try.underlying4 _) trodAll_mk0)) (fun sp _ => (trodAll_cons_mk (shut_string Try.underlying9 w0) (trodAll_cons_mk (shut_int Try.underlying3 w1) trodAll_mk0))) (fun _ _ => rfl) rfl hg⟩

theorem over : Rows.fnLinesRow.holds Try.pinned (OpenSpec.ofChange Rows.fnLinesSpec) :=
  OpenClaim.holds_of_wide 4 Try.f4 rfl rfl rfl rfl rfl rfl rfl ⟨rfl, rfl, rfl, rfl, rfl⟩ rfl rfl rfl rfl rfl (by kernel_rfl) Try.func4 (by kernel_rfl)
    (of_decide_eq_true (by kernel_rfl)) (by unfold Func.isWrapper; first | (rw [if_pos (by decide +kernel)]; kernel_rfl) | (rw [if_neg (by decide +kernel)]; exact ⟨rfl, rfl⟩))
    (fun os started H enc _ => lifted os started H enc)

/-- ████ THE STATEMENT ████ -/
theorem proved : Rows.FnLinesSaid :=
  over
#print axioms proved
end Go.Proofs.Ytcelnnjjakiehaa.fnLines
