/-
  FnLooseAhead returns true at every text, and leaves its argument as it was; and the tied card of that row. Conditions: none beyond the row's own (the listed package variables read as the program's text lays them; the tie is the given one).
-/
import Derived.Test.YtcelnnjjakiehaaGreatDoorCards
import Derived.Test.YtcelnnjjakiehaaGreatDoorTie
import Derived.Test.YtcelnnjjakiehaaGreatDoorLaid
import Derived.Test.YtcelnnjjakiehaaGreatDoorLaw0
import Derived.Test.YtcelnnjjakiehaaGreatDoorLoo
import Derived.ProofKit
import Derived.LaidMore
import Derived.OpenShut
import Derived.ShutString
namespace Go.Proofs.YtcelnnjjakiehaaGreatDoor.fnLooseAhead
open Go.ChangeShapes Go.WideShapes Go.ChangeAt Go.RowKit
open Go.ChangeMaps (open_string shut_string)
set_option linter.unusedVariables false
set_option maxRecDepth 1000000
set_option maxHeartbeats 4000000

theorem walk (a0 : ByteArray) (w0 : a0.size ≤ maxLen) (W : World) (hW : LaidE W) :
    Calls Tryz.prog 7 #[.string a0] W fun e w' => e = .returned (.bool true) ∧ Below W.heap.size W w' := by
  unfold maxLen at w0
  have HL := Lib.hid (fun w (hb : Below W.heap.size W w) => lexes_any hW hb)
  by_cases h0 : 2147483647 < (a0.size : Int)
  · go_enter Tryz.func7, Tryz.ntmps7
    go_wp2_with fail
    go_ret
    exact ⟨rfl, Below.refl _ _⟩
  by_cases h1 : 16384 < (a0.size : Int)
  · go_enter Tryz.func7, Tryz.ntmps7
    go_wp2_with fail
    refine (HL.out _ (Below.refl W.heap.size W)).mono ?_
    rintro e w9 ⟨rfl, hb9⟩
    have HB9 := Lib.hid ((Below.refl W.heap.size W).trans (hb9.mono (Below.refl W.heap.size W).size)); clear hb9
    go_wp2_with fail
    go_ret
    exact ⟨rfl, HB9.out⟩
  have hB := brittle_any a0 W (by omega)
  cases hbr : brit a0.data.toList with
  | true =>
    rw [hbr] at hB
    have HBR := Lib.hid hB; clear hB hbr
    go_enter Tryz.func7, Tryz.ntmps7
    go_wp2_with fail
    refine HBR.out.mono ?_
    rintro e w1 ⟨rfl, rfl⟩
    go_wp2_with fail
    refine (HL.out _ (Below.refl W.heap.size W)).mono ?_
    rintro e w9 ⟨rfl, hb9⟩
    have HB9 := Lib.hid ((Below.refl W.heap.size W).trans (hb9.mono (Below.refl W.heap.size W).size)); clear hb9
    go_wp2_with fail
    go_ret
    exact ⟨rfl, HB9.out⟩
  | false =>
    rw [hbr] at hB
    have hsz : a0.size ≤ 16384 := by omega
    have hcalm := calm_of_brit _ hbr
    have hX := Lex_any a0 hW (Below.refl _ W) (by omega) (lexGood_calm _ hcalm _ _ _ _ (Nat.zero_le _))
    have hLo := fun w (hb : Below W.heap.size W w) => Loose_any a0 hW hb (by omega) hcalm
    have hlen := lexRun_len a0.data.toList (a0.data.toList.length + 1) [] false 0
    change (lexAll a0.data.toList).1.length ≤ _ at hlen
    rw [ba_toList_length] at hlen
    have HBR := Lib.hid hB; have HX := Lib.hid hX; have HLO := Lib.hid hLo
    clear hB hbr hcalm hX hLo
    generalize lexAll a0.data.toList = R at *
    obtain ⟨T, o⟩ := R
    simp only at hlen
    cases o with
    | none =>
      go_enter Tryz.func7, Tryz.ntmps7
      go_wp2_with fail
      refine HBR.out.mono ?_
      rintro e w1 ⟨rfl, rfl⟩
      go_wp2_with fail
      refine HX.out.mono ?_
      rintro e w1 ⟨v, l, at_, rfl, hl, hT, hb1⟩
      rw [show (none : Option Nat).isNone = true from rfl]
      have hl : l.map (·.1) = T := hl
      have hln : l.length ≤ 16385 := by have := congrArg List.length hl; rw [List.length_map] at this; omega
      obtain ⟨pl, cl, rfl⟩ := own_shape2 hT.own
      have HB1 := Lib.hid hb1; have HT := Lib.hid hT; have HLM := Lib.hid hl
      clear hb1 hT hl HX HBR
      go_wp2_with fail
      refine (HLO.out _ HB1.out).mono ?_
      rintro e w2 ⟨u, m, rfl, hpre, hU, hb2, hm0, hml⟩
      have hpre : T <+: m.map (·.1) := hpre
      obtain ⟨pm, cm, rfl⟩ := own_shape2 hU.own
      have HB2 := Lib.hid (HB1.out.trans (hb2.mono HB1.out.size)); have HT2 := Lib.hid (HT.out.below hb2); have HU := Lib.hid hU; have HPRE := Lib.hid hpre
      clear hb2 hU hpre HLO HT HB1
      go_wp2_with fail
      refine (HL.out _ HB2.out).mono ?_
      rintro e w9 ⟨rfl, hb9⟩
      have HB9 := Lib.hid (HB2.out.trans (hb9.mono HB2.out.size)); clear hb9
      go_wp2_with fail
      go_ret
      exact ⟨rfl, HB9.out⟩
    | some q =>
      go_enter Tryz.func7, Tryz.ntmps7
      go_wp2_with fail
      refine HBR.out.mono ?_
      rintro e w1 ⟨rfl, rfl⟩
      go_wp2_with fail
      refine HX.out.mono ?_
      rintro e w1 ⟨v, l, at_, rfl, hl, hT, hb1⟩
      rw [show (some q : Option Nat).isNone = false from rfl]
      have hl : l.map (·.1) = T := hl
      have hln : l.length ≤ 16385 := by have := congrArg List.length hl; rw [List.length_map] at this; omega
      obtain ⟨pl, cl, rfl⟩ := own_shape2 hT.own
      have HB1 := Lib.hid hb1; have HT := Lib.hid hT; have HLM := Lib.hid hl
      clear hb1 hT hl HX HBR
      go_wp2_with fail
      refine (HLO.out _ HB1.out).mono ?_
      rintro e w2 ⟨u, m, rfl, hpre, hU, hb2, hm0, hml⟩
      have hpre : T <+: m.map (·.1) := hpre
      obtain ⟨pm, cm, rfl⟩ := own_shape2 hU.own
      have HB2 := Lib.hid (HB1.out.trans (hb2.mono HB1.out.size)); have HT2 := Lib.hid (HT.out.below hb2); have HU := Lib.hid hU; have HPRE := Lib.hid hpre
      clear hb2 hU hpre HLO HT HB1
      have hle : l.length ≤ m.length := by
        have h1 := HPRE.out.length_le
        have h2 := congrArg List.length HLM.out
        rw [List.length_map] at h1 h2
        omega
      have hle2 : (l.length : Int) ≤ (m.length : Int) := by omega
      obtain ⟨gm, rfl⟩ : ∃ g, pm = some ⟨g, 0, none⟩ := by
        rcases HU.out.own.shape with ⟨_, h2, _⟩ | ⟨g, _, h1, _⟩
        · omega
        · injection h1 with h1; exact ⟨g, h1⟩
      have hcm : m.length ≤ cm := by
        rcases HU.out.own.shape with ⟨_, h2, _⟩ | ⟨g, _, h1, _, _, h5, _⟩
        · omega
        · injection h1 with _ _ h1; omega
      have htl : (m.take l.length).length = l.length := by rw [List.length_take]; omega
      have hpo := HU.out.own.takes (m := l.length) hle (by omega)
      rw [tksCells_take] at hpo
      have hUm : Toks w2 w1.heap.size (.slice (some ⟨gm, 0, none⟩) l.length cm) (m.take l.length) := ⟨by rw [htl]; exact hpo, fun p hp => HU.out.coms p (List.mem_of_mem_take hp)⟩
      have hkey : l.map (fun p => p.1.key) = (m.take l.length).map (fun p => p.1.key) := by
        have h1 : (m.take l.length).map (·.1) = T := by
          rw [List.map_take]
          have h2 := congrArg List.length HLM.out
          rw [List.length_map] at h2
          rw [h2]
          exact (List.prefix_iff_eq_take.1 HPRE.out).symm
        have h3 : ∀ z : List (TkF × Value), z.map (fun p => p.1.key) = (z.map (·.1)).map TkF.key := fun z => by rw [List.map_map]; rfl
        rw [h3, h3, h1, HLM.out]
      have hal := allAlike_any HT2.out hUm (by omega) (by rw [htl]; omega)
      rw [decide_eq_true hkey] at hal
      have HAL := Lib.hid hal
      clear hal hUm hpo htl hkey HPRE HLM HU
      go_wp2_with fail
      refine HAL.out.mono ?_
      rintro e w3 ⟨rfl, hb3⟩
      have HB3 := Lib.hid (HB2.out.trans (hb3.mono HB2.out.size)); clear hb3
      go_wp2_with fail
      refine (HL.out _ HB3.out).mono ?_
      rintro e w9 ⟨rfl, hb9⟩
      have HB9 := Lib.hid (HB3.out.trans (hb9.mono HB3.out.size)); clear hb9
      go_wp2_with fail
      go_ret
      exact ⟨rfl, HB9.out⟩
set_option maxRecDepth 100000 in
theorem lifted (os : Os) (started : os.Started) (H : Type) (enc : TypeId × Value → H) :
    ReturnsInHanded {} Tryz.checked os 7 .any (fun w args => (Rows.fnLooseAheadSpec.pre enc Tryz.prog Tryz.f7 [] false w args ∧ laidMetH Tryz.prog Rows.fnLooseAheadRow.laid w) ∧ sizedMet enc Tryz.prog Tryz.f7 (OpenSpec.ofChange Rows.fnLooseAheadSpec) false w args)
      (Rows.fnLooseAheadSpec.post enc Tryz.prog Tryz.f7 false true false false) := by
  refine returnsInHanded_of_change_and (C := Tryz.checked) (X := fun w _ => laidMetH Tryz.prog Rows.fnLooseAheadRow.laid w) (fun _ _ _ hh h => h.of_heap hh) own started (by kernel_rfl) Tryz.func7
    (ChangeSpec.witness_shaped (enc := enc) (C := Tryz.checked) (os := os) (X := fun w _ => laidMetH Tryz.prog Rows.fnLooseAheadRow.laid w) false (laidW os) #[.string ByteArray.empty] 8 (laidW_os os) (laidW_shaped os) (by kernel_rfl) (by kernel_rfl) (by kernel_rfl) (laidW_met os _)) ?_
  intro W base args ds gs before hval0 hW _ _ hL _
  have hval : ∀ (j : Nat) t v, Tryz.f7.params[j]? = some t → args[j]? = some v → Value.okWide Tryz.prog W .any base t v := hval0
  have hW' := hW
  obtain ⟨p, q, hA0, hV, rfl, hfz, hnd⟩ := hW
  have hA : DataW.TrodAll enc Tryz.prog W 0 (fun _ => true) true Tryz.f7.params.toList args.toList ds p := hA0
  rw [Tryz.params7] at hA hval
  obtain ⟨v0, vs0, d0, ds0, p0, q0, hargs, rfl, rfl, h0, r0⟩ := trodAll_cons hA
  obtain ⟨rfl, rfl, rfl⟩ := trodAll_nil r0
  obtain rfl : args = #[v0] := by cases args; simp_all
  obtain ⟨rfl, rfl⟩ := trodVars_none hV
  obtain ⟨a0, rfl, rfl, rfl, w0⟩ := open_string Tryz.underlying9 (hval 0 9 v0 rfl rfl) h0
  clear hA0 hval0
  simp only [List.append_nil] at hW'
  refine (walk a0 w0 W (laidE_of hL)).mono fun e W' ⟨he, hg⟩ => ?_
  subst he
  exact ⟨_, rfl, post_of_below (pa := []) (pv := []) hW' (fun _ _ _ => (trodAll_cons_mk (shut_bool Tryz.underlying4 _) trodAll_mk0)) (fun sp sp9 => (trodAll_cons_mk (shut_string Tryz.underlying9 w0) trodAll_mk0)) (fun _ _ => rfl) rfl hg⟩

theorem said : Rows.FnLooseAheadSaid :=
  OpenClaim.holds_of_wide 7 Tryz.f7 rfl rfl rfl rfl rfl rfl rfl ⟨rfl, rfl, rfl, rfl, rfl⟩ rfl rfl rfl rfl rfl (by kernel_rfl) Tryz.func7 (by kernel_rfl)
    (of_decide_eq_true (by kernel_rfl)) (by unfold Func.isWrapper; first | (rw [if_pos (by decide +kernel)]; kernel_rfl) | (rw [if_neg (by decide +kernel)]; exact ⟨rfl, rfl⟩))
    (fun os started H enc _ => lifted os started H enc)
theorem plain (f : FuncId) (fn : Func) (hf : Tryz.pinned.checked.prog.funcNamed "pub-dabber/laws.FnLooseAhead" = some f) (hfn : Tryz.pinned.checked.prog.funcs[f]? = some fn) :
    true = Tryz.pinned.checked.prog.looks [] ∧ ∀ (j : Nat) t, fn.params[j]? = some t → Tryz.pinned.checked.prog.wantsStandIn t = false := by
  obtain rfl : f = 7 := Option.some.inj ((show Tryz.prog.funcNamed "pub-dabber/laws.FnLooseAhead" = some 7 by kernel_rfl).symm.trans hf) |>.symm
  obtain rfl : fn = Tryz.f7 := (Option.some.inj (Tryz.func7.symm.trans hfn)).symm
  refine ⟨by kernel_rfl, fun j t ht => ?_⟩
  rw [Tryz.params7] at ht
  have hm : t ∈ [9] := by simpa using Array.mem_of_getElem? ht
  have hall : ([9].all fun u => !Tryz.prog.wantsStandIn u) = true := by kernel_rfl
  exact (show Tryz.prog.wantsStandIn t = false by simpa using List.all_eq_true.1 hall t hm)
/-- THE CARD -/
theorem proved : Rows.FnLooseAheadCardSaid :=
  Claim7.holds_tied_plain_at .later [] _ _ _ _ said (fun _ h => by cases h) (by kernel_rfl) (fun _ h => by cases h) fnLooseAhead_row_tie rfl ⟨rfl, rfl⟩ (by kernel_rfl) rfl plain (by kernel_rfl)
#print axioms proved
end Go.Proofs.YtcelnnjjakiehaaGreatDoor.fnLooseAhead
