/-
  FnKeywordTokens returns true at every text, and leaves its argument as it was; and the tied card of that row. Conditions: none beyond the row's own (the listed package variables read as the program's text lays them; the tie is the given one).
-/
import Derived.Test.YtcelnnjjakiehaaGreatDoorCards
import Derived.Test.YtcelnnjjakiehaaGreatDoorTie
import Derived.Test.YtcelnnjjakiehaaGreatDoorLaid
import Derived.Test.YtcelnnjjakiehaaGreatDoorLaw0
import Derived.Test.YtcelnnjjakiehaaGreatDoorLaw1
import Derived.ProofKit
import Derived.Deep.RegionHeld3
import Derived.Deep.RegionLaw
import Derived.LaidMore
import Derived.OpenShut
import Derived.ShutString
namespace Go.Proofs.YtcelnnjjakiehaaGreatDoor.fnKeywordTokens
open Go.ChangeShapes Go.WideShapes Go.ChangeAt Go.RowKit
open Go.ChangeMaps (open_string shut_string)
set_option linter.unusedVariables false
set_option maxRecDepth 1000000
set_option maxHeartbeats 4000000

theorem walk (a0 : ByteArray) (w0 : a0.size ≤ maxLen) (W : World) (hW : LaidE W) :
    Calls Tryz.prog 6 #[.string a0] W fun e w' => e = .returned (.bool true) ∧ Below W.heap.size W w' := by
  unfold maxLen at w0
  by_cases h0 : 2147483647 < (a0.size : Int)
  · go_enter Tryz.func6, Tryz.ntmps6
    go_wp2_with fail
    go_ret
    exact ⟨rfl, Below.refl _ _⟩
  by_cases h1 : 16384 < (a0.size : Int)
  · go_enter Tryz.func6, Tryz.ntmps6
    go_wp2_with fail
    go_ret
    exact ⟨rfl, Below.refl _ _⟩
  have hB := word_any a0 W (by omega)
  cases hw : wordL a0.data.toList with
  | false =>
    rw [hw] at hB
    have HBR := Lib.hid hB; clear hB hw
    go_enter Tryz.func6, Tryz.ntmps6
    go_wp2_with fail
    refine HBR.out.mono ?_
    rintro e w1 ⟨rfl, rfl⟩
    go_wp2_with fail
    go_ret
    exact ⟨rfl, Below.refl _ _⟩
  | true =>
    rw [hw] at hB
    have hsz : a0.size ≤ 16384 := by omega
    have hlex := word_lex _ hw
    have hX := Lex_any a0 hW (Below.refl _ W) (by omega) (lexGood_done _ _ _ _ _ (Nat.zero_le _) (by
      have := congrArg Prod.snd hlex
      unfold lexAll at this
      rw [ba_toList_length] at this
      exact this))
    rw [hlex] at hX
    have hU := fun w => upper_any a0 w w0
    have hK := fun w => isKeyword_any a0 w (by omega)
    have hraw : (wordT a0.data.toList).raw = a0.data.toList := by unfold wordT; split <;> rfl
    have HBR := Lib.hid hB; have HX := Lib.hid hX; have HU := Lib.hid hU; have HK := Lib.hid hK
    clear hB hX hlex hU hK
    go_enter Tryz.func6, Tryz.ntmps6
    go_wp2_with fail
    refine HBR.out.mono ?_
    rintro e w1 ⟨rfl, rfl⟩
    go_wp2_with fail
    refine HX.out.mono ?_
    rintro e w1 ⟨v, l, at_, rfl, hl, hT, hb1⟩
    rw [show (none : Option Nat).isNone = true from rfl]
    obtain ⟨a, b, rfl, ha, _⟩ := two_of hl
    obtain ⟨g, cap, rfl, _, hcap, hcell⟩ := hT.at 0 (by simp)
    obtain ⟨c0, c1, c2, c3, c4, c5, c6, c7⟩ := eight (t := a.1) (cv := a.2) hcell
    rw [ha] at c0 c2 c3
    have ha0 : (⟨a0.data.toList.toArray⟩ : ByteArray) = a0 := by apply ba_ext; simp
    rw [hraw, ha0] at c2
    clear ha0
    have c0 : w1.cell? ⟨g, 0, none⟩ = _ := c0
    have c2 : w1.cell? ⟨g, 2, none⟩ = _ := c2
    have c3 : w1.cell? ⟨g, 3, none⟩ = _ := c3
    have hgl := (hT.own.lt g rfl).2
    have HB1 := Lib.hid hb1
    clear c1 c4 c5 c6 c7 hcell hT hb1 HX HBR hl hw
    go_wp2_with fail
    refine (HK.out _).mono ?_
    rintro e w2 ⟨rfl, hb2⟩
    have d0 : w2.cell? ⟨g, 0, none⟩ = _ := (hb2.cell (p := ⟨g, 0, none⟩) hgl).trans c0
    have d3 : w2.cell? ⟨g, 3, none⟩ = _ := (hb2.cell (p := ⟨g, 3, none⟩) hgl).trans c3
    have hgl2 : g < w2.heap.size := Nat.lt_of_lt_of_le hgl hb2.size
    have HB2 := Lib.hid (HB1.out.trans (hb2.mono HB1.out.size))
    clear hb2 c0 c2 c3 HK
    cases hk : kw (upL a0.data.toList) with
    | true =>
      have e1 : (wordT a0.data.toList).kind = upL a0.data.toList := by unfold wordT; rw [if_pos hk]
      have e2 : (wordT a0.data.toList).text = [] := by unfold wordT; rw [if_pos hk]
      rw [e1] at d0
      rw [e2] at d3
      change w2.cell? ⟨g, 3, none⟩ = some (.string ⟨#[]⟩) at d3
      clear e1 e2 ha hraw
      go_wp2_with fail
      go_region_held3 (fun w' => w'.cell? ⟨g, 0, none⟩ = some (.string ⟨(upL a0.data.toList).toArray⟩) ∧ w'.cell? ⟨g, 3, none⟩ = some (.string ⟨#[]⟩)) (first | go_keep | exact ⟨by assumption, by assumption⟩)
        (first | (go_at_call 23; refine (HU.out _).mono ?_; rintro e w3 ⟨rfl, hb3⟩; have k0 := (hb3.cell (p := ⟨g, 0, none⟩) hgl2).trans d0; have k3 := (hb3.cell (p := ⟨g, 3, none⟩) hgl2).trans d3))
      have HB3 := Lib.hid (HB2.out.trans ((below_drewN w2 1 W.heap.size).trans (hb3.mono HB2.out.size)))
      clear hb3
      go_wp2_with fail
      go_ret
      exact ⟨rfl, HB3.out⟩
    | false =>
      have e1 : (wordT a0.data.toList).kind = kIdent := by unfold wordT; rw [hk, if_neg (by decide)]
      have e2 : (wordT a0.data.toList).text = a0.data.toList := by unfold wordT; rw [hk, if_neg (by decide)]
      rw [e1] at d0
      rw [e2, show (⟨a0.data.toList.toArray⟩ : ByteArray) = a0 from by apply ba_ext; simp] at d3
      clear e1 e2 ha hraw
      go_wp2_with fail
      go_ret
      exact ⟨ret_bool (by simp), HB2.out⟩
set_option maxRecDepth 100000 in
theorem lifted (os : Os) (started : os.Started) (H : Type) (enc : TypeId × Value → H) :
    ReturnsInHanded {} Tryz.checked os 6 .any (fun w args => (Rows.fnKeywordTokensSpec.pre enc Tryz.prog Tryz.f6 [] false w args ∧ laidMetH Tryz.prog Rows.fnKeywordTokensRow.laid w) ∧ sizedMet enc Tryz.prog Tryz.f6 (OpenSpec.ofChange Rows.fnKeywordTokensSpec) false w args)
      (Rows.fnKeywordTokensSpec.post enc Tryz.prog Tryz.f6 false true false false) := by
  refine returnsInHanded_of_change_and (C := Tryz.checked) (X := fun w _ => laidMetH Tryz.prog Rows.fnKeywordTokensRow.laid w) (fun _ _ _ hh h => h.of_heap hh) own started (by kernel_rfl) Tryz.func6
    (ChangeSpec.witness_shaped (enc := enc) (C := Tryz.checked) (os := os) (X := fun w _ => laidMetH Tryz.prog Rows.fnKeywordTokensRow.laid w) false (laidW os) #[.string ByteArray.empty] 8 (laidW_os os) (laidW_shaped os) (by kernel_rfl) (by kernel_rfl) (by kernel_rfl) (laidW_met os _)) ?_
  intro W base args ds gs before hval0 hW _ _ hL _
  have hval : ∀ (j : Nat) t v, Tryz.f6.params[j]? = some t → args[j]? = some v → Value.okWide Tryz.prog W .any base t v := hval0
  have hW' := hW
  obtain ⟨p, q, hA0, hV, rfl, hfz, hnd⟩ := hW
  have hA : DataW.TrodAll enc Tryz.prog W 0 (fun _ => true) true Tryz.f6.params.toList args.toList ds p := hA0
  rw [Tryz.params6] at hA hval
  obtain ⟨v0, vs0, d0, ds0, p0, q0, hargs, rfl, rfl, h0, r0⟩ := trodAll_cons hA
  obtain ⟨rfl, rfl, rfl⟩ := trodAll_nil r0
  obtain rfl : args = #[v0] := by cases args; simp_all
  obtain ⟨rfl, rfl⟩ := trodVars_none hV
  obtain ⟨a0, rfl, rfl, rfl, w0⟩ := open_string Tryz.underlying9 (hval 0 9 v0 rfl rfl) h0
  clear hA0 hval0
  simp only [List.append_nil] at hW'
  refine (walk a0 w0 W (laidE_of hL)).mono fun e W' ⟨he, hg⟩ => ?_
  subst he
  exact ⟨_, rfl, post_of_below (pa := []) (pv := []) hW' (fun _ _ _ => (trodAll_cons_mk (shut_bool Tryz.underlying4 _) trodAll_mk0)) (fun sp _ => (trodAll_cons_mk (shut_string Tryz.underlying9 w0) trodAll_mk0)) (fun _ _ => rfl) rfl hg⟩

theorem said : Rows.FnKeywordTokensSaid :=
  OpenClaim.holds_of_wide 6 Tryz.f6 rfl rfl rfl rfl rfl rfl rfl ⟨rfl, rfl, rfl, rfl, rfl⟩ rfl rfl rfl rfl rfl (by kernel_rfl) Tryz.func6 (by kernel_rfl)
    (of_decide_eq_true (by kernel_rfl)) (by unfold Func.isWrapper; first | (rw [if_pos (by decide +kernel)]; kernel_rfl) | (rw [if_neg (by decide +kernel)]; exact ⟨rfl, rfl⟩))
    (fun os started H enc _ => lifted os started H enc)
theorem plain (f : FuncId) (fn : Func) (hf : Tryz.pinned.checked.prog.funcNamed "pub-dabber/laws.FnKeywordTokens" = some f) (hfn : Tryz.pinned.checked.prog.funcs[f]? = some fn) :
    true = Tryz.pinned.checked.prog.looks [] ∧ ∀ (j : Nat) t, fn.params[j]? = some t → Tryz.pinned.checked.prog.wantsStandIn t = false := by
  obtain rfl : f = 6 := Option.some.inj ((show Tryz.prog.funcNamed "pub-dabber/laws.FnKeywordTokens" = some 6 by kernel_rfl).symm.trans hf) |>.symm
  obtain rfl : fn = Tryz.f6 := (Option.some.inj (Tryz.func6.symm.trans hfn)).symm
  refine ⟨by kernel_rfl, fun j t ht => ?_⟩
  rw [Tryz.params6] at ht
  have hm : t ∈ [9] := by simpa using Array.mem_of_getElem? ht
  have hall : ([9].all fun u => !Tryz.prog.wantsStandIn u) = true := by kernel_rfl
  exact (show Tryz.prog.wantsStandIn t = false by simpa using List.all_eq_true.1 hall t hm)
/-- THE CARD -/
theorem proved : Rows.FnKeywordTokensCardSaid :=
  Claim7.holds_tied_plain_at .later [] _ _ _ _ said (fun _ h => by cases h) (by kernel_rfl) (fun _ h => by cases h) fnKeywordTokens_row_tie rfl ⟨rfl, rfl⟩ (by kernel_rfl) rfl plain (by kernel_rfl)
#print axioms proved
end Go.Proofs.YtcelnnjjakiehaaGreatDoor.fnKeywordTokens
