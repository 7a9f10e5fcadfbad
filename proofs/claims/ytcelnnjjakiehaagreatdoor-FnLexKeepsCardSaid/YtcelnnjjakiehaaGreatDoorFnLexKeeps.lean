/-
  FnLexKeeps returns true at every text, and leaves its argument as it was; and the tied card of that row. Conditions: none beyond the row's own (the listed package variables read as the program's text lays them; the tie is the given one).
-/
import Derived.Test.YtcelnnjjakiehaaGreatDoorCards
import Derived.Test.YtcelnnjjakiehaaGreatDoorTie
import Derived.Test.YtcelnnjjakiehaaGreatDoorLaid
import Derived.Test.YtcelnnjjakiehaaGreatDoorLaw0
import Derived.Test.YtcelnnjjakiehaaGreatDoorPlaw
import Derived.ProofKit
import Derived.LaidMore
import Derived.OpenShut
import Derived.ShutString
namespace Go.Proofs.YtcelnnjjakiehaaGreatDoor.fnLexKeeps
open Go.ChangeShapes Go.WideShapes Go.ChangeAt Go.RowKit
open Go.ChangeMaps (open_string shut_string)
set_option linter.unusedVariables false
set_option maxRecDepth 1000000
set_option maxHeartbeats 4000000

theorem walk (a0 : ByteArray) (w0 : a0.size ≤ maxLen) (W : World) (hW : LaidE W) :
    Calls Tryz.prog 5 #[.string a0] W fun e w' => e = .returned (.bool true) ∧ Below W.heap.size W w' := by
  unfold maxLen at w0
  have HL := Lib.hid (fun w (hb : Below W.heap.size W w) => lexes_any hW hb)
  by_cases h0 : 2147483647 < (a0.size : Int)
  · go_enter Tryz.func5, Tryz.ntmps5
    go_wp2_with fail
    go_ret
    exact ⟨rfl, Below.refl _ _⟩
  by_cases h1 : 16384 < (a0.size : Int)
  · go_enter Tryz.func5, Tryz.ntmps5
    go_wp2_with fail
    refine (HL.out _ (Below.refl _ _)).mono ?_
    rintro e w1 ⟨rfl, hb⟩
    have HB := Lib.hid hb; clear hb
    go_wp2_with fail
    go_ret
    exact ⟨rfl, HB.out⟩
  have hB := brittle_any a0 W (by omega)
  cases hbr : brit a0.data.toList with
  | true =>
    rw [hbr] at hB
    have HBR := Lib.hid hB; clear hB hbr
    go_enter Tryz.func5, Tryz.ntmps5
    go_wp2_with fail
    refine HBR.out.mono ?_
    rintro e w1 ⟨rfl, rfl⟩
    go_wp2_with fail
    refine (HL.out _ (Below.refl _ _)).mono ?_
    rintro e w1 ⟨rfl, hb⟩
    have HB := Lib.hid hb; clear hb
    go_wp2_with fail
    go_ret
    exact ⟨rfl, HB.out⟩
  | false =>
    rw [hbr] at hB
    have hsz : a0.size ≤ 16384 := by omega
    have hcalm := calm_of_brit _ hbr
    have hX := Lex_any a0 hW (Below.refl _ W) (by omega) (lexGood_calm _ hcalm _ _ _ _ (Nat.zero_le _))
    obtain ⟨fin, hf1, hf2, hf3, hf4⟩ := lexRun_whole a0.data.toList (a0.data.toList.length + 1) [] false 0 (Nat.zero_le _) (by omega)
    have hlen := lexRun_len a0.data.toList (a0.data.toList.length + 1) [] false 0
    change (lexAll a0.data.toList).1.length ≤ _ at hlen
    change wholeT (lexAll a0.data.toList).1 = _ at hf3
    change (lexAll a0.data.toList).2 = none → _ at hf4
    rw [ba_toList_length] at hlen hf2 hf4
    rw [List.drop_zero, Nat.sub_zero] at hf3
    have HBR := Lib.hid hB; have HX := Lib.hid hX
    clear hB hbr hcalm hX
    have hwl : (wholeT (lexAll a0.data.toList).1).length ≤ 16384 := by rw [hf3, List.length_take]; omega
    generalize lexAll a0.data.toList = R at *
    obtain ⟨T, o⟩ := R
    simp only at hlen hf3 hf4 hwl
    have HF3 := Lib.hid hf3; have HF4 := Lib.hid hf4
    clear hf3 hf4 hf1
    cases o with
    | none =>
      go_enter Tryz.func5, Tryz.ntmps5
      go_wp2_with fail
      refine HBR.out.mono ?_
      rintro e w1 ⟨rfl, rfl⟩
      go_wp2_with fail
      refine HX.out.mono ?_
      rintro e w1 ⟨v, l, at_, rfl, hl, hT, hb1⟩
      rw [show (none : Option Nat).isNone = true from rfl]
      have hl : l.map (·.1) = T := hl
      have hwh := whole_any hT (by have := congrArg List.length hl; rw [List.length_map] at this; omega) (by rw [hl]; omega)
      rw [hl] at hwh
      have hs : (⟨(wholeT T).toArray⟩ : ByteArray) = a0 := by
        apply ba_ext
        rw [HF3.out, HF4.out (by trivial), List.take_of_length_le (by rw [ba_toList_length]; exact Nat.le_refl _)]
      rw [hs] at hwh
      have HW := Lib.hid hwh; have HB1 := Lib.hid hb1
      clear hwh hb1 hT hl hs HX
      go_wp2_with fail
      refine HW.out.mono ?_
      rintro e w2 ⟨rfl, hb2⟩
      have HB2 := Lib.hid (HB1.out.trans (hb2.mono HB1.out.size)); clear hb2
      go_wp2_with fail
      refine (HL.out _ HB2.out).mono ?_
      rintro e w3 ⟨rfl, hb3⟩
      have HB3 := Lib.hid (HB2.out.trans (hb3.mono HB2.out.size)); clear hb3
      go_wp2_with fail
      go_ret
      exact ⟨rfl, HB3.out⟩
    | some q =>
      go_enter Tryz.func5, Tryz.ntmps5
      go_wp2_with fail
      refine HBR.out.mono ?_
      rintro e w1 ⟨rfl, rfl⟩
      go_wp2_with fail
      refine HX.out.mono ?_
      rintro e w1 ⟨v, l, at_, rfl, hl, hT, hb1⟩
      rw [show (some q).isNone = false from rfl]
      have hl : l.map (·.1) = T := hl
      have hwh := whole_any hT (by have := congrArg List.length hl; rw [List.length_map] at this; omega) (by rw [hl]; omega)
      rw [hl] at hwh
      have hbg := fun w => begins_any a0 ⟨(wholeT T).toArray⟩ w (by omega) (by rw [ba_size]; omega)
      have hp : (⟨(wholeT T).toArray⟩ : ByteArray).data.toList.isPrefixOf a0.data.toList = true := by
        rw [List.isPrefixOf_iff_prefix]
        show wholeT T <+: _
        rw [HF3.out]
        exact List.take_prefix _ _
      simp only [hp] at hbg
      have HW := Lib.hid hwh; have HB1 := Lib.hid hb1; have HG := Lib.hid hbg
      clear hwh hb1 hT hl hbg hp HX
      go_wp2_with fail
      refine HW.out.mono ?_
      rintro e w2 ⟨rfl, hb2⟩
      have HB2 := Lib.hid (HB1.out.trans (hb2.mono HB1.out.size)); clear hb2
      go_wp2_with fail
      refine (HG.out _).mono ?_
      rintro e w3 ⟨rfl, rfl⟩
      go_wp2_with fail
      refine (HL.out _ HB2.out).mono ?_
      rintro e w3 ⟨rfl, hb3⟩
      have HB3 := Lib.hid (HB2.out.trans (hb3.mono HB2.out.size)); clear hb3
      go_wp2_with fail
      go_ret
      exact ⟨rfl, HB3.out⟩
set_option maxRecDepth 100000 in
theorem lifted (os : Os) (started : os.Started) (H : Type) (enc : TypeId × Value → H) :
    ReturnsInHanded {} Tryz.checked os 5 .any (fun w args => (Rows.fnLexKeepsSpec.pre enc Tryz.prog Tryz.f5 [] false w args ∧ laidMetH Tryz.prog Rows.fnLexKeepsRow.laid w) ∧ sizedMet enc Tryz.prog Tryz.f5 (OpenSpec.ofChange Rows.fnLexKeepsSpec) false w args)
      (Rows.fnLexKeepsSpec.post enc Tryz.prog Tryz.f5 false true false false) := by
  refine returnsInHanded_of_change_and (C := Tryz.checked) (X := fun w _ => laidMetH Tryz.prog Rows.fnLexKeepsRow.laid w) (fun _ _ _ hh h => h.of_heap hh) own started (by kernel_rfl) Tryz.func5
    (ChangeSpec.witness_shaped (enc := enc) (C := Tryz.checked) (os := os) (X := fun w _ => laidMetH Tryz.prog Rows.fnLexKeepsRow.laid w) false (laidW os) #[.string ByteArray.empty] 8 (laidW_os os) (laidW_shaped os) (by kernel_rfl) (by kernel_rfl) (by kernel_rfl) (laidW_met os _)) ?_
  intro W base args ds gs before hval0 hW _ _ hL _
  have hval : ∀ (j : Nat) t v, Tryz.f5.params[j]? = some t → args[j]? = some v → Value.okWide Tryz.prog W .any base t v := hval0
  have hW' := hW
  obtain ⟨p, q, hA0, hV, rfl, hfz, hnd⟩ := hW
  have hA : DataW.TrodAll enc Tryz.prog W 0 (fun _ => true) true Tryz.f5.params.toList args.toList ds p := hA0
  rw [Tryz.params5] at hA hval
  obtain ⟨v0, vs0, d0, ds0, p0, q0, hargs, rfl, rfl, h0, r0⟩ := trodAll_cons hA
  obtain ⟨rfl, rfl, rfl⟩ := trodAll_nil r0
  obtain rfl : args = #[v0] := by cases args; simp_all
  obtain ⟨rfl, rfl⟩ := trodVars_none hV
  obtain ⟨a0, rfl, rfl, rfl, w0⟩ := open_string Tryz.underlying9 (hval 0 9 v0 rfl rfl) h0
  clear hA0 hval0
  simp only [List.append_nil] at hW'
  refine (walk a0 w0 W (laidE_of hL)).mono fun e W' ⟨he, hg⟩ => ?_
  subst he
  exact ⟨_, rfl, post_of_below (pa := []) (pv := []) hW' (fun _ _ _ => (trodAll_cons_mk (shut_bool Tryz.underlying4 _) trodAll_mk0)) (fun sp _ => (trodAll_cons_mk (shut_string Tryz.underlying9 w0) trodAll_mk0)) (fun _ _ => rfl) rfl hg⟩

theorem said : Rows.FnLexKeepsSaid :=
  OpenClaim.holds_of_wide 5 Tryz.f5 rfl rfl rfl rfl rfl rfl rfl ⟨rfl, rfl, rfl, rfl, rfl⟩ rfl rfl rfl rfl rfl (by kernel_rfl) Tryz.func5 (by kernel_rfl)
    (of_decide_eq_true (by kernel_rfl)) (by unfold Func.isWrapper; first | (rw [if_pos (by decide +kernel)]; kernel_rfl) | (rw [if_neg (by decide +kernel)]; exact ⟨rfl, rfl⟩))
    (fun os started H enc _ => lifted os started H enc)
theorem plain (f : FuncId) (fn : Func) (hf : Tryz.pinned.checked.prog.funcNamed "pub-dabber/laws.FnLexKeeps" = some f) (hfn : Tryz.pinned.checked.prog.funcs[f]? = some fn) :
    true = Tryz.pinned.checked.prog.looks [] ∧ ∀ (j : Nat) t, fn.params[j]? = some t → Tryz.pinned.checked.prog.wantsStandIn t = false := by
  obtain rfl : f = 5 := Option.some.inj ((show Tryz.prog.funcNamed "pub-dabber/laws.FnLexKeeps" = some 5 by kernel_rfl).symm.trans hf) |>.symm
  obtain rfl : fn = Tryz.f5 := (Option.some.inj (Tryz.func5.symm.trans hfn)).symm
  refine ⟨by kernel_rfl, fun j t ht => ?_⟩
  rw [Tryz.params5] at ht
  have hm : t ∈ [9] := by simpa using Array.mem_of_getElem? ht
  have hall : ([9].all fun u => !Tryz.prog.wantsStandIn u) = true := by kernel_rfl
  exact (show Tryz.prog.wantsStandIn t = false by simpa using List.all_eq_true.1 hall t hm)
/-- THE CARD -/
theorem proved : Rows.FnLexKeepsCardSaid :=
  Claim7.holds_tied_plain_at .later [] _ _ _ _ said (fun _ h => by cases h) (by kernel_rfl) (fun _ h => by cases h) fnLexKeeps_row_tie rfl ⟨rfl, rfl⟩ (by kernel_rfl) rfl plain (by kernel_rfl)
#print axioms proved
end Go.Proofs.YtcelnnjjakiehaaGreatDoor.fnLexKeeps
