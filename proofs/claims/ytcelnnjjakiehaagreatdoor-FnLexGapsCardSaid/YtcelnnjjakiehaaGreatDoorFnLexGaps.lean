/-
  FnLexGaps returns true at every text and every list of numbers of gaps, and leaves its arguments as they were; and the tied card of that row. Conditions: none beyond the row's own (the listed package variables read as the program's text lays them; the tie is the given one).
-/
import Derived.Test.YtcelnnjjakiehaaGreatDoorCards
import Derived.Test.YtcelnnjjakiehaaGreatDoorTie
import Derived.Test.YtcelnnjjakiehaaGreatDoorLaid
import Derived.Test.YtcelnnjjakiehaaGreatDoorLaw0
import Derived.Test.YtcelnnjjakiehaaGreatDoorGap
import Derived.ProofKit
import Derived.LaidMore
import Derived.OpenShut
import Derived.ShutString
import Derived.ChangeSlices
namespace Go.Proofs.YtcelnnjjakiehaaGreatDoor.fnLexGaps
open Go.ChangeShapes Go.WideShapes Go.ChangeAt Go.RowKit
open Go.ChangeMaps (open_string shut_string)
set_option linter.unusedVariables false
set_option maxRecDepth 1000000
set_option maxHeartbeats 4000000

theorem walk (a0 : ByteArray) (gv : Value) (G : List UInt8) (w0 : a0.size ≤ maxLen) (hGm : G.length ≤ maxLen) (W : World) (hG : GapsV W gv G) (hW : LaidE W) :
    Calls Tryz.prog 4 #[.string a0, gv] W fun e w' => e = .returned (.bool true) ∧ Below W.heap.size W w' := by
  unfold maxLen at w0 hGm
  have hG0 := hG
  obtain ⟨pg, gcap, rfl, hgc, _⟩ := hG0.at_
  have HL := Lib.hid (fun w (hb : Below W.heap.size W w) => lexes_any hW hb)
  have HG := Lib.hid hG
  clear hG hG0
  by_cases h0 : 2147483647 < (a0.size : Int)
  · go_enter Tryz.func4, Tryz.ntmps4
    go_wp2_with fail
    go_ret
    exact ⟨rfl, Below.refl _ _⟩
  by_cases h00 : 2147483647 < (G.length : Int)
  · go_enter Tryz.func4, Tryz.ntmps4
    go_wp2_with fail
    go_ret
    exact ⟨rfl, Below.refl _ _⟩
  by_cases h1 : 16384 < (a0.size : Int)
  · go_enter Tryz.func4, Tryz.ntmps4
    go_wp2_with fail
    refine (HL.out _ (Below.refl W.heap.size W)).mono ?_
    rintro e w9 ⟨rfl, hb9⟩
    have HB9 := Lib.hid ((Below.refl W.heap.size W).trans (hb9.mono (Below.refl W.heap.size W).size)); clear hb9
    go_wp2_with fail
    go_ret
    exact ⟨rfl, HB9.out⟩
  have hB := brittle_any a0 W (by omega)
  cases hbr : brit a0.data.toList with
  | true =>
    rw [hbr] at hB
    have HBR := Lib.hid hB; clear hB hbr
    go_enter Tryz.func4, Tryz.ntmps4
    go_wp2_with fail
    refine HBR.out.mono ?_
    rintro e w1 ⟨rfl, rfl⟩
    go_wp2_with fail
    refine (HL.out _ (Below.refl W.heap.size W)).mono ?_
    rintro e w9 ⟨rfl, hb9⟩
    have HB9 := Lib.hid ((Below.refl W.heap.size W).trans (hb9.mono (Below.refl W.heap.size W).size)); clear hb9
    go_wp2_with fail
    go_ret
    exact ⟨rfl, HB9.out⟩
  | false =>
    rw [hbr] at hB
    have hsz : a0.size ≤ 16384 := by omega
    have hcalm := calm_of_brit _ hbr
    have hX := Lex_any a0 hW (Below.refl _ W) (by omega) (lexGood_calm _ hcalm _ _ _ _ (Nat.zero_le _))
    have hlen := lexRun_len a0.data.toList (a0.data.toList.length + 1) [] false 0
    have hst := lexRun_size a0.data.toList (a0.data.toList.length + 1) [] false 0 (Nat.zero_le _)
    obtain ⟨fin, _, hf2, hf3, _⟩ := lexRun_whole a0.data.toList (a0.data.toList.length + 1) [] false 0 (Nat.zero_le _) (by omega)
    have hwl : (wholeT (lexRun a0.data.toList (a0.data.toList.length + 1) [] false 0).1).length ≤ a0.data.toList.length := by rw [hf3, List.length_take, List.length_drop]; omega
    have hgl := gaps_law a0.data.toList (gapOf G) (fun i => (gapOf_gap G i).1) (fun i hi => (gapOf_gap G i).2.1 hi) (a0.data.toList.length + 1) [] 0
    change (lexAll a0.data.toList).1.length ≤ _ at hlen
    change ∀ t ∈ (lexAll a0.data.toList).1, _ at hst
    change (wholeT (lexAll a0.data.toList).1).length ≤ _ at hwl
    have hall : lexAll a0.data.toList = lexRun a0.data.toList (a0.data.toList.length + 1) [] false 0 := rfl
    rw [← hall] at hgl
    clear hf2 hf3 hall
    rw [ba_toList_length] at hlen hst hwl
    have HBR := Lib.hid hB; have HX := Lib.hid hX; have HGL := Lib.hid hgl
    clear hB hbr hcalm hX hgl
    generalize lexAll a0.data.toList = R at *
    obtain ⟨T, o⟩ := R
    simp only at hlen hst hwl
    have HST := Lib.hid hst
    clear hst
    cases o with
    | some q =>
      go_enter Tryz.func4, Tryz.ntmps4
      go_wp2_with fail
      refine HBR.out.mono ?_
      rintro e w1 ⟨rfl, rfl⟩
      go_wp2_with fail
      refine HX.out.mono ?_
      rintro e w1 ⟨v, l, at_, rfl, hl, hT, hb1⟩
      rw [show (some q).isNone = false from rfl]
      have HB1 := Lib.hid hb1
      clear hb1 hT hl HX HBR HGL HST
      go_wp2_with fail
      refine (HL.out _ HB1.out).mono ?_
      rintro e w9 ⟨rfl, hb9⟩
      have HB9 := Lib.hid (HB1.out.trans (hb9.mono HB1.out.size)); clear hb9
      go_wp2_with fail
      go_ret
      exact ⟨rfl, HB9.out⟩
    | none =>
      go_enter Tryz.func4, Tryz.ntmps4
      go_wp2_with fail
      refine HBR.out.mono ?_
      rintro e w1 ⟨rfl, rfl⟩
      go_wp2_with fail
      refine HX.out.mono ?_
      rintro e w1 ⟨v, l, at_, rfl, hl, hT, hb1⟩
      rw [show (none : Option Nat).isNone = true from rfl]
      have hl : l.map (·.1) = T := hl
      have hln : l.length ≤ 16385 := by have := congrArg List.length hl; rw [List.length_map] at this; omega
      have hfd := fields_any hT (by omega) (fun p hp => by
        have h9 := HST.out p.1 (by rw [← hl]; exact List.mem_map.2 ⟨p, hp, rfl⟩)
        have h8 : (tkText p.1).length = (cmText p.1.coms).length + p.1.space.length + p.1.raw.length := by unfold tkText; simp only [List.length_append]
        omega)
      rw [hl] at hfd
      have HFD := Lib.hid hfd; have HB1 := Lib.hid hb1; have HT := Lib.hid hT; have HLM := Lib.hid hl
      clear hb1 hT hl HX HBR HST hfd
      go_wp2_with fail
      refine HFD.out.mono ?_
      rintro e w2 ⟨rfl, hb2⟩
      have HT2 := Lib.hid (HT.out.below hb2)
      have HB2 := Lib.hid (HB1.out.trans (hb2.mono HB1.out.size))
      clear hb2 HFD HT HB1
      cases hf : T.any fieldT with
      | true =>
        go_wp2_with fail
        refine (HL.out _ HB2.out).mono ?_
        rintro e w9 ⟨rfl, hb9⟩
        have HB9 := Lib.hid (HB2.out.trans (hb9.mono HB2.out.size)); clear hb9
        go_wp2_with fail
        go_ret
        exact ⟨rfl, HB9.out⟩
      | false =>
        obtain ⟨T', hr', hk'⟩ := HGL.out T 0 (apartG (gapOf G) 0 T) [] ((apartG (gapOf G) 0 T).length + 1) 0 (Nat.zero_le _) (by omega) rfl hf (Nat.zero_le _) rfl (by omega)
        have hap := apart_any HT2.out HG.out HB2.out hln (by rw [HLM.out]; omega) (by omega)
        rw [HLM.out] at hap
        have hal := apartG_len (gapOf G) (fun i => (gapOf_gap G i).2.2) T 0
        have hX2 : ∀ w, Below W.heap.size W w → Calls _ _ _ _ _ := fun w hb => Lex_any ⟨(apartG (gapOf G) 0 T).toArray⟩ hW hb (by rw [ba_size]; omega) (by
          rw [ba_size]
          exact lexGood_done _ _ _ _ _ (Nat.zero_le _) (congrArg Prod.snd hr'))
        have hr2 : lexAll (⟨(apartG (gapOf G) 0 T).toArray⟩ : ByteArray).data.toList = (T', none) := hr'
        rw [hr2] at hX2
        have hlen' := lexRun_len (apartG (gapOf G) 0 T) ((apartG (gapOf G) 0 T).length + 1) [] false 0
        rw [hr'] at hlen'
        simp only at hlen'
        have HX2 := Lib.hid hX2; have HAP := Lib.hid hap; have HK := Lib.hid hk'
        clear hX2 hap hr' hr2 hk' hf HGL
        have htl : T'.length ≤ 300000 := by omega
        generalize apartG (gapOf G) 0 T = A at *
        clear hal hlen' hwl
        go_wp2_with fail
        refine HAP.out.mono ?_
        rintro e w3 ⟨rfl, hb3⟩
        have HT3 := Lib.hid (HT2.out.below hb3)
        have HB3 := Lib.hid (HB2.out.trans (hb3.mono HB2.out.size))
        clear hb3 HAP HT2 HB2
        go_wp2_with fail
        refine (HX2.out _ HB3.out).mono ?_
        rintro e w4 ⟨v', l', at_', rfl, hl', hU, hb4⟩
        have hl' : l'.map (·.1) = T' := hl'
        have hal := allAlike_any (HT3.out.below hb4) hU (by omega) (by have := congrArg List.length hl'; rw [List.length_map] at this; omega)
        have hkk : decide (l.map (fun p => p.1.key) = l'.map (fun p => p.1.key)) = true := by
          apply decide_eq_true
          have e1 : l.map (fun p => p.1.key) = T.map TkF.key := by rw [← HLM.out, List.map_map]; rfl
          have e2 : l'.map (fun p => p.1.key) = T'.map TkF.key := by rw [← hl', List.map_map]; rfl
          rw [e1, e2, HK.out]
        rw [hkk] at hal
        rw [show (none : Option Nat).isNone = true from rfl]
        have HAL := Lib.hid hal
        have HB4 := Lib.hid (HB3.out.trans (hb4.mono HB3.out.size))
        clear hal hkk hU hl' hb4 HT3 HB3 HX2
        go_wp2_with fail
        refine HAL.out.mono ?_
        rintro e w5 ⟨rfl, hb5⟩
        have HB5 := Lib.hid (HB4.out.trans (hb5.mono HB4.out.size))
        clear hb5
        go_wp2_with fail
        go_ret
        exact ⟨rfl, HB5.out⟩
set_option maxRecDepth 100000 in
theorem lifted (os : Os) (started : os.Started) (H : Type) (enc : TypeId × Value → H) :
    ReturnsInHanded {} Tryz.checked os 4 .any (fun w args => (Rows.fnLexGapsSpec.pre enc Tryz.prog Tryz.f4 [] false w args ∧ laidMetH Tryz.prog Rows.fnLexGapsRow.laid w) ∧ sizedMet enc Tryz.prog Tryz.f4 (OpenSpec.ofChange Rows.fnLexGapsSpec) false w args)
      (Rows.fnLexGapsSpec.post enc Tryz.prog Tryz.f4 false true false false) := by
  refine returnsInHanded_of_change_and (C := Tryz.checked) (X := fun w _ => laidMetH Tryz.prog Rows.fnLexGapsRow.laid w) (fun _ _ _ hh h => h.of_heap hh) own started (by kernel_rfl) Tryz.func4
    (ChangeSpec.witness_shaped (enc := enc) (C := Tryz.checked) (os := os) (X := fun w _ => laidMetH Tryz.prog Rows.fnLexGapsRow.laid w) false (laidW os) #[.string ByteArray.empty, .slice none 0 0] 8 (laidW_os os) (laidW_shaped os) (by kernel_rfl) (by kernel_rfl) (by kernel_rfl) (laidW_met os _)) ?_
  intro W base args ds gs before hval0 hW _ _ hL _
  have hval : ∀ (j : Nat) t v, Tryz.f4.params[j]? = some t → args[j]? = some v → Value.okWide Tryz.prog W .any base t v := hval0
  have hW' := hW
  obtain ⟨p, q, hA0, hV, rfl, hfz, hnd⟩ := hW
  have hA : DataW.TrodAll enc Tryz.prog W 0 (fun _ => true) true Tryz.f4.params.toList args.toList ds p := hA0
  rw [Tryz.params4] at hA hval
  obtain ⟨v0, vs0, d0, ds0, p0, q0, hargs, rfl, rfl, h0, r0⟩ := trodAll_cons hA
  obtain ⟨v1, vs1, d1, ds1, p1, q1, rfl, rfl, rfl, h1, r1⟩ := trodAll_cons r0
  obtain ⟨rfl, rfl, rfl⟩ := trodAll_nil r1
  obtain rfl : args = #[v0, v1] := by cases args; simp_all
  obtain ⟨rfl, rfl⟩ := trodVars_none hV
  obtain ⟨a0, rfl, rfl, rfl, w0⟩ := open_string Tryz.underlying9 (hval 0 9 v0 rfl rfl) h0
  obtain ⟨g1, a1, w1, k1⟩ := open_gaps h1 (okWide_slice Tryz.underlying33 (hval 1 33 v1 rfl rfl))
  clear hA0 hval0
  simp only [List.append_nil] at hW'
  refine (walk a0 v1 g1 w0 w1 W a1 (laidE_of hL)).mono fun e W' ⟨he, hg⟩ => ?_
  subst he
  exact ⟨_, rfl, post_of_below (pa := [] ++ (p1 ++ [])) (pv := []) hW' (fun _ _ _ => (trodAll_cons_mk (shut_bool Tryz.underlying4 _) trodAll_mk0)) (fun sp sp9 => (trodAll_cons_mk (shut_string Tryz.underlying9 w0) (trodAll_cons_mk (k1 _ sp hg (fun x hx => sp9 x (by simp [hx]))) trodAll_mk0))) (fun _ _ => rfl) (by simp) hg⟩

theorem said : Rows.FnLexGapsSaid :=
  OpenClaim.holds_of_wide 4 Tryz.f4 rfl rfl rfl rfl rfl rfl rfl ⟨rfl, rfl, rfl, rfl, rfl⟩ rfl rfl rfl rfl rfl (by kernel_rfl) Tryz.func4 (by kernel_rfl)
    (of_decide_eq_true (by kernel_rfl)) (by unfold Func.isWrapper; first | (rw [if_pos (by decide +kernel)]; kernel_rfl) | (rw [if_neg (by decide +kernel)]; exact ⟨rfl, rfl⟩))
    (fun os started H enc _ => lifted os started H enc)
theorem plain (f : FuncId) (fn : Func) (hf : Tryz.pinned.checked.prog.funcNamed "pub-dabber/laws.FnLexGaps" = some f) (hfn : Tryz.pinned.checked.prog.funcs[f]? = some fn) :
    true = Tryz.pinned.checked.prog.looks [] ∧ ∀ (j : Nat) t, fn.params[j]? = some t → Tryz.pinned.checked.prog.wantsStandIn t = false := by
  obtain rfl : f = 4 := Option.some.inj ((show Tryz.prog.funcNamed "pub-dabber/laws.FnLexGaps" = some 4 by kernel_rfl).symm.trans hf) |>.symm
  obtain rfl : fn = Tryz.f4 := (Option.some.inj (Tryz.func4.symm.trans hfn)).symm
  refine ⟨by kernel_rfl, fun j t ht => ?_⟩
  rw [Tryz.params4] at ht
  have hm : t ∈ [9, 33] := by simpa using Array.mem_of_getElem? ht
  have hall : ([9, 33].all fun u => !Tryz.prog.wantsStandIn u) = true := by kernel_rfl
  exact (show Tryz.prog.wantsStandIn t = false by simpa using List.all_eq_true.1 hall t hm)
/-- THE CARD -/
theorem proved : Rows.FnLexGapsCardSaid :=
  Claim7.holds_tied_plain_at .later [] _ _ _ _ said (fun _ h => by cases h) (by kernel_rfl) (fun _ h => by cases h) fnLexGaps_row_tie rfl ⟨rfl, rfl⟩ (by kernel_rfl) rfl plain (by kernel_rfl)
#print axioms proved
end Go.Proofs.YtcelnnjjakiehaaGreatDoor.fnLexGaps
