/-
  FnLexBetween returns true at every text, and leaves its argument as it was; and the tied card of that row. Conditions: none beyond the row's own (the listed package variables read as the program's text lays them; the tie is the given one).
-/
import Derived.Test.YtcelnnjjakiehaaGreatDoorCards
import Derived.Test.YtcelnnjjakiehaaGreatDoorTie
import Derived.Test.YtcelnnjjakiehaaGreatDoorLaid
import Derived.Test.YtcelnnjjakiehaaGreatDoorLaw0
import Derived.Test.YtcelnnjjakiehaaGreatDoorLaw1
import Derived.ProofKit
import Derived.LaidMore
import Derived.OpenShut
import Derived.ShutString
namespace Go.Proofs.YtcelnnjjakiehaaGreatDoor.fnLexBetween
open Go.ChangeShapes Go.WideShapes Go.ChangeAt Go.RowKit
open Go.ChangeMaps (open_string shut_string)
set_option linter.unusedVariables false
set_option maxRecDepth 1000000
set_option maxHeartbeats 4000000

theorem walk (a0 : ByteArray) (w0 : a0.size ≤ maxLen) (W : World) (hW : LaidE W) :
    Calls Tryz.prog 3 #[.string a0] W fun e w' => e = .returned (.bool true) ∧ Below W.heap.size W w' := by
  unfold maxLen at w0
  have HL := Lib.hid (fun w (hb : Below W.heap.size W w) => lexes_any hW hb)
  by_cases h0 : 2147483647 < (a0.size : Int)
  · go_enter Tryz.func3, Tryz.ntmps3
    go_wp2_with fail
    go_ret
    exact ⟨rfl, Below.refl _ _⟩
  by_cases h1 : 16384 < (a0.size : Int)
  · go_enter Tryz.func3, Tryz.ntmps3
    go_wp2_with fail
    refine (HL.out _ (Below.refl _ _)).mono ?_
    rintro e w1 ⟨rfl, hb⟩
    have HB := Lib.hid hb; clear hb
    go_wp2_with fail
    go_ret
    exact ⟨rfl, HB.out⟩
  have hB := brittle_any a0 W (by omega)
  cases hbr : brit a0.data.toList with
  | true =>
    rw [hbr] at hB
    have HBR := Lib.hid hB; clear hB hbr
    go_enter Tryz.func3, Tryz.ntmps3
    go_wp2_with fail
    refine HBR.out.mono ?_
    rintro e w1 ⟨rfl, rfl⟩
    go_wp2_with fail
    refine (HL.out _ (Below.refl _ _)).mono ?_
    rintro e w1 ⟨rfl, hb⟩
    have HB := Lib.hid hb; clear hb
    go_wp2_with fail
    go_ret
    exact ⟨rfl, HB.out⟩
  | false =>
    have hI := within_any a0 ⟨#[47, 42, 47]⟩ W (by omega) (by decide)
    rw [hbr] at hB
    cases hwi : has [47, 42, 47] a0.data.toList with
    | true =>
      change Calls _ _ _ _ (fun e w' => e = .returned (.bool (has [47, 42, 47] a0.data.toList)) ∧ _) at hI
      rw [hwi] at hI
      have HBR := Lib.hid hB; have HI := Lib.hid hI; clear hB hbr hI hwi
      go_enter Tryz.func3, Tryz.ntmps3
      go_wp2_with fail
      refine HBR.out.mono ?_
      rintro e w1 ⟨rfl, rfl⟩
      go_wp2_with fail
      refine HI.out.mono ?_
      rintro e w1 ⟨rfl, rfl⟩
      go_wp2_with fail
      refine (HL.out _ (Below.refl _ _)).mono ?_
      rintro e w1 ⟨rfl, hb⟩
      have HB := Lib.hid hb; clear hb
      go_wp2_with fail
      go_ret
      exact ⟨rfl, HB.out⟩
    | false =>
      change Calls _ _ _ _ (fun e w' => e = .returned (.bool (has [47, 42, 47] a0.data.toList)) ∧ _) at hI
      rw [hwi] at hI
      have hsz : a0.size ≤ 16384 := by omega
      have hcalm := calm_of_brit _ hbr
      have hX := Lex_any a0 hW (Below.refl _ W) (by omega) (lexGood_calm _ hcalm _ _ _ _ (Nat.zero_le _))
      have hlen := lexRun_len a0.data.toList (a0.data.toList.length + 1) [] false 0
      have hbt := lexRun_between a0.data.toList hwi (a0.data.toList.length + 1) [] false 0 (Nat.zero_le _)
      have hst := lexRun_size a0.data.toList (a0.data.toList.length + 1) [] false 0 (Nat.zero_le _)
      change (lexAll a0.data.toList).1.length ≤ _ at hlen
      change ∀ t ∈ (lexAll a0.data.toList).1, _ at hbt
      change ∀ t ∈ (lexAll a0.data.toList).1, _ at hst
      rw [ba_toList_length] at hlen hbt hst
      have HBR := Lib.hid hB; have HX := Lib.hid hX; have HI := Lib.hid hI
      clear hB hbr hcalm hX hI hwi
      generalize lexAll a0.data.toList = R at *
      obtain ⟨T, o⟩ := R
      simp only at hlen hbt hst
      have HBT := Lib.hid hbt; have HST := Lib.hid hst
      clear hbt hst
      go_enter Tryz.func3, Tryz.ntmps3
      go_wp2_with fail
      refine HBR.out.mono ?_
      rintro e w1 ⟨rfl, rfl⟩
      go_wp2_with fail
      refine HI.out.mono ?_
      rintro e w1 ⟨rfl, rfl⟩
      go_wp2_with fail
      refine HX.out.mono ?_
      rintro e w1 ⟨v, l, at_, rfl, hl, hT, hb1⟩
      have hl : l.map (·.1) = T := hl
      have hall : ∀ p ∈ l, blankL p.1.space = true ∧ (∀ c ∈ p.1.coms, CmOk a0.size c) ∧ (tkText p.1).length ≤ a0.size := by
        intro p hp
        have hm : p.1 ∈ T := by rw [← hl]; exact List.mem_map.2 ⟨p, hp, rfl⟩
        exact ⟨(HBT.out _ hm).1, (HBT.out _ hm).2, HST.out _ hm⟩
      have hln : l.length ≤ 16385 := by have := congrArg List.length hl; rw [List.length_map] at this; omega
      obtain ⟨pv, cap, rfl⟩ := own_shape2 hT.own
      have HB1 := Lib.hid hb1; have HA := Lib.hid hall; have HT := Lib.hid hT
      clear hb1 hall hT hl HBT HST HX HI HBR
      go_wp2_with fail
      go_loopw [33] (fun i wr => ∃ k : Nat, i = .int .i64 k ∧ k ≤ l.length ∧ Below w1.heap.size w1 wr) (fun i _ => l.length - (intOf i).toNat)
      case atStart => exact ⟨0, rfl, Nat.zero_le _, Below.refl _ _⟩
      case round =>
        obtain ⟨k, rfl, hk, hb⟩ := hrel
        by_cases hlt : k < l.length
        · have hTr := HT.out.below hb
          obtain ⟨g, cap2, he, hBg, hcap, hcell⟩ := hTr.at k hlt
          injection he with he1 he2 he3
          subst he1 he3
          have hco := hTr.coms l[k] (List.getElem_mem hlt)
          obtain ⟨hp1, hp2, hp3⟩ := HA.out l[k] (List.getElem_mem hlt)
          generalize l[k] = p at *
          obtain ⟨t, cv⟩ := p
          simp only at hco hp1 hp2 hp3
          obtain ⟨pc, cc, rfl⟩ := own_shape2 hco
          obtain ⟨c0, c1, c2, c3, c4, c5, c6, c7⟩ := eight hcell
          have htl : (tkText t).length = (cmText t.coms).length + t.space.length + t.raw.length := by unfold tkText; simp only [List.length_append]
          have hbl := fun w => blank_any ⟨t.space.toArray⟩ w (by rw [ba_size]; omega)
          change ∀ w, Calls _ _ _ _ (fun e w' => e = .returned (.bool (blankL t.space)) ∧ _) at hbl
          rw [hp1] at hbl
          have HBL := Lib.hid hbl; have HCO := Lib.hid hco; have HP2 := Lib.hid hp2; have HB := Lib.hid hb
          clear hbl hco hp2 hb hTr hcell
          go_wp2_with fail
          refine (HBL.out _).mono ?_
          rintro e w3 ⟨rfl, hb3⟩
          have r7 : w3.cell? ⟨wr.heap.size, 7, none⟩ = some (.slice pc t.coms.length cc) := by
            rw [hb3.cell (p := ⟨wr.heap.size, 7, none⟩) (by simp)]
            exact cell_new _ _ _ _ _ rfl
          have hwr : Below wr.heap.size wr w3 := ((Below.refl _ _).alloc (Nat.le_refl _) _).trans (hb3.mono (by simp))
          have hco3 := HCO.out.below hwr (fun g' hg' => (HCO.out.lt g' hg').2)
          have hb3' : Below w1.heap.size w1 w3 := HB.out.trans (hwr.mono HB.out.size)
          have HB3 := Lib.hid hb3'; have HC3 := Lib.hid hco3
          clear hb3 hwr hb3' hco3 HB HCO c0 c1 c2 c3 c4 c5 c6 c7 HBL
          go_wp2_with fail
          go_loopw [44] (fun i wx => ∃ j : Nat, i = .int .i64 j ∧ j ≤ t.coms.length ∧ Below w3.heap.size w3 wx) (fun i _ => t.coms.length - (intOf i).toNat)
          case atStart => exact ⟨0, rfl, Nat.zero_le _, Below.refl _ _⟩
          case round =>
            obtain ⟨j, rfl, hj, hb2⟩ := hrel
            by_cases hjl : j < t.coms.length
            · have hcx := HC3.out.below hb2 (fun g' hg' => (HC3.out.lt g' hg').2)
              obtain ⟨gc, rfl⟩ : ∃ gc, pc = some ⟨gc, 0, none⟩ := by
                rcases hcx.shape with ⟨_, h2, _⟩ | ⟨gc, _, h1, _⟩
                · omega
                · injection h1 with h1; exact ⟨gc, h1⟩
              have hcc : ∀ i, i < 4 → wr.cell? ⟨gc, j * 4 + i, none⟩ = t.coms[j].cells[i]? := by
                intro i hi
                rw [hcx.cellAt (j * 4 + i) (by omega), ← cmCells_at t.coms j t.coms[j] (List.getElem?_eq_getElem hjl) i hi, Nat.mul_comm]
              have q0 : wr.cell? ⟨gc, j * 4, none⟩ = _ := hcc 0 (by omega)
              have q1 := hcc 1 (by omega)
              have q2 := hcc 2 (by omega)
              have q3 := hcc 3 (by omega)
              have hcap3 : j < cc := by
                rcases hcx.shape with ⟨_, h2, _⟩ | ⟨gc, _, h1, _, _, h5, _⟩
                · omega
                · injection h1 with _ _ h1; omega
              have hjm := hcx.le
              unfold maxLen at hjm
              obtain ⟨hsp, hform⟩ := HP2.out t.coms[j] (List.getElem_mem hjl)
              have hcl := cm_le t.coms t.coms[j] (List.getElem_mem hjl)
              generalize t.coms[j] = c at *
              simp only [Cm.cells, List.getElem?_cons_zero, List.getElem?_cons_succ] at q0 q1 q2 q3
              have hcr : c.raw.length ≤ 16384 := by omega
              have hbc := fun w => blank_any ⟨c.space.toArray⟩ w (by rw [ba_size]; omega)
              have hg1 := fun w => begins_any ⟨c.raw.toArray⟩ ⟨#[47, 42]⟩ w (by rw [ba_size]; omega) (by decide)
              have hg2 := fun w => begins_any ⟨c.raw.toArray⟩ ⟨#[35]⟩ w (by rw [ba_size]; omega) (by decide)
              have hg3 := fun w => begins_any ⟨c.raw.toArray⟩ ⟨#[45, 45]⟩ w (by rw [ba_size]; omega) (by decide)
              have hg4 := fun w => ends_any ⟨c.raw.toArray⟩ ⟨#[42, 47]⟩ w (by rw [ba_size]; omega) (by decide)
              have hg5 := fun w => ends_any ⟨c.raw.toArray⟩ ⟨#[10]⟩ w (by rw [ba_size]; omega) (by decide)
              change ∀ w, Calls _ _ _ _ (fun e w' => e = .returned (.bool (blankL c.space)) ∧ _) at hbc
              change ∀ w, Calls _ _ _ _ (fun e w' => e = .returned (.bool ([47, 42].isPrefixOf c.raw)) ∧ _) at hg1
              change ∀ w, Calls _ _ _ _ (fun e w' => e = .returned (.bool ([35].isPrefixOf c.raw)) ∧ _) at hg2
              change ∀ w, Calls _ _ _ _ (fun e w' => e = .returned (.bool ([45, 45].isPrefixOf c.raw)) ∧ _) at hg3
              change ∀ w, Calls _ _ _ _ (fun e w' => e = .returned (.bool ([42, 47].isSuffixOf c.raw)) ∧ _) at hg4
              change ∀ w, Calls _ _ _ _ (fun e w' => e = .returned (.bool ([10].isSuffixOf c.raw)) ∧ _) at hg5
              rw [hsp] at hbc
              have hlen5 : (c.raw.length : Int) = (((⟨c.raw.toArray⟩ : ByteArray).size : Nat) : Int) := by rw [ba_size]
              have hba := ba_size c.raw
              have HB2 := Lib.hid hb2; have HBC := Lib.hid hbc; have HG1 := Lib.hid hg1; have HG2 := Lib.hid hg2; have HG3 := Lib.hid hg3; have HG4 := Lib.hid hg4; have HG5 := Lib.hid hg5
              clear hb2 hbc hg1 hg2 hg3 hg4 hg5 hcx hcc hsp hcl
              go_wp2_with fail
              refine (HBC.out _).mono ?_
              rintro e w4 ⟨rfl, hb4⟩
              have r1 : w4.cell? ⟨wr.heap.size, 1, none⟩ = some (.string ⟨c.raw.toArray⟩) := by
                rw [hb4.cell (p := ⟨wr.heap.size, 1, none⟩) (by simp)]
                exact cell_new _ _ _ _ _ rfl
              have r3 : w4.cell? ⟨wr.heap.size, 3, none⟩ = some (.int .i64 ((c.pos + c.raw.length : Nat) : Int)) := by
                rw [hb4.cell (p := ⟨wr.heap.size, 3, none⟩) (by simp)]
                exact cell_new _ _ _ _ _ rfl
              have hwx : Below wr.heap.size wr w4 := ((Below.refl _ _).alloc (Nat.le_refl _) _).trans (hb4.mono (by simp))
              have HB4 := Lib.hid (HB2.out.trans (hwx.mono HB2.out.size))
              clear hb4 hwx q0 q1 q2 q3 HB2 HBC
              rcases hform with ⟨f1, f2, f3⟩ | ⟨f1, f2, f3⟩
              · rw [f1] at HG1; rw [f3] at HG4
                clear f1 f3 HG2 HG3 HG5
                go_wp2_with fail
                refine (HG1.out _).mono ?_
                rintro e w5 ⟨rfl, rfl⟩
                go_wp2_with fail
                refine (HG4.out _).mono ?_
                rintro e w5 ⟨rfl, rfl⟩
                go_wp2_with fail
                exact ⟨⟨j + 1, by go_num, by omega, HB4.out⟩, by simp [intOf]; omega⟩
              · rw [f1] at HG1
                clear f1 HG4
                go_wp2_with fail
                refine (HG1.out _).mono ?_
                rintro e w5 ⟨rfl, rfl⟩
                go_wp2_with fail
                cases hn2 : [35].isPrefixOf c.raw with
                | true =>
                  rw [hn2] at HG2
                  clear hn2 f2 HG3
                  refine (HG2.out _).mono ?_
                  rintro e w5 ⟨rfl, rfl⟩
                  cases hn5 : [10].isSuffixOf c.raw with
                  | true =>
                    rw [hn5] at HG5
                    clear hn5 f3
                    go_wp2_with fail
                    refine (HG5.out _).mono ?_
                    rintro e w5 ⟨rfl, rfl⟩
                    go_wp2_with fail
                    exact ⟨⟨j + 1, by go_num, by omega, HB4.out⟩, by simp [intOf]; omega⟩
                  | false =>
                    have hfe : (((c.pos + c.raw.length : Nat) : Int) != (a0.size : Int)) = false := by
                      rcases f3 with f3 | f3
                      · rw [hn5] at f3; cases f3
                      · rw [f3]; simp
                    rw [hn5] at HG5
                    generalize ((c.pos + c.raw.length : Nat) : Int) = ce at *
                    clear hn5 f3
                    go_wp2_with fail
                    refine (HG5.out _).mono ?_
                    rintro e w5 ⟨rfl, rfl⟩
                    go_wp2_with fail
                    exact ⟨⟨j + 1, by go_num, by omega, HB4.out⟩, by simp [intOf]; omega⟩
                | false =>
                  rw [hn2] at HG2
                  have hn3 : [45, 45].isPrefixOf c.raw = true := by
                    rcases f2 with f2 | f2
                    · rw [hn2] at f2; cases f2
                    · exact f2
                  rw [hn3] at HG3
                  clear hn2 hn3 f2
                  refine (HG2.out _).mono ?_
                  rintro e w5 ⟨rfl, rfl⟩
                  go_wp2_with fail
                  refine (HG3.out _).mono ?_
                  rintro e w5 ⟨rfl, rfl⟩
                  cases hn5 : [10].isSuffixOf c.raw with
                  | true =>
                    rw [hn5] at HG5
                    clear hn5 f3
                    go_wp2_with fail
                    refine (HG5.out _).mono ?_
                    rintro e w5 ⟨rfl, rfl⟩
                    go_wp2_with fail
                    exact ⟨⟨j + 1, by go_num, by omega, HB4.out⟩, by simp [intOf]; omega⟩
                  | false =>
                    have hfe : (((c.pos + c.raw.length : Nat) : Int) != (a0.size : Int)) = false := by
                      rcases f3 with f3 | f3
                      · rw [hn5] at f3; cases f3
                      · rw [f3]; simp
                    rw [hn5] at HG5
                    generalize ((c.pos + c.raw.length : Nat) : Int) = ce at *
                    clear hn5 f3
                    go_wp2_with fail
                    refine (HG5.out _).mono ?_
                    rintro e w5 ⟨rfl, rfl⟩
                    go_wp2_with fail
                    exact ⟨⟨j + 1, by go_num, by omega, HB4.out⟩, by simp [intOf]; omega⟩
            · go_wp2_with fail
              exact ⟨⟨k + 1, by go_num, by omega, HB3.out.trans (hb2.mono HB3.out.size)⟩, by simp [intOf]; omega⟩
        · go_wp2_with fail
          refine (HL.out _ (HB1.out.trans (hb.mono HB1.out.size))).mono ?_
          rintro e w2 ⟨rfl, hb2⟩
          have HB2 := Lib.hid ((HB1.out.trans (hb.mono HB1.out.size)).trans (hb2.mono (HB1.out.trans (hb.mono HB1.out.size)).size)); clear hb2
          go_wp2_with fail
          go_ret
          exact ⟨rfl, HB2.out⟩
set_option maxRecDepth 100000 in
theorem lifted (os : Os) (started : os.Started) (H : Type) (enc : TypeId × Value → H) :
    ReturnsInHanded {} Tryz.checked os 3 .any (fun w args => (Rows.fnLexBetweenSpec.pre enc Tryz.prog Tryz.f3 [] false w args ∧ laidMetH Tryz.prog Rows.fnLexBetweenRow.laid w) ∧ sizedMet enc Tryz.prog Tryz.f3 (OpenSpec.ofChange Rows.fnLexBetweenSpec) false w args)
      (Rows.fnLexBetweenSpec.post enc Tryz.prog Tryz.f3 false true false false) := by
  refine returnsInHanded_of_change_and (C := Tryz.checked) (X := fun w _ => laidMetH Tryz.prog Rows.fnLexBetweenRow.laid w) (fun _ _ _ hh h => h.of_heap hh) own started (by kernel_rfl) Tryz.func3
    (ChangeSpec.witness_shaped (enc := enc) (C := Tryz.checked) (os := os) (X := fun w _ => laidMetH Tryz.prog Rows.fnLexBetweenRow.laid w) false (laidW os) #[.string ByteArray.empty] 8 (laidW_os os) (laidW_shaped os) (by kernel_rfl) (by kernel_rfl) (by kernel_rfl) (laidW_met os _)) ?_
  intro W base args ds gs before hval0 hW _ _ hL _
  have hval : ∀ (j : Nat) t v, Tryz.f3.params[j]? = some t → args[j]? = some v → Value.okWide Tryz.prog W .any base t v := hval0
  have hW' := hW
  obtain ⟨p, q, hA0, hV, rfl, hfz, hnd⟩ := hW
  have hA : DataW.TrodAll enc Tryz.prog W 0 (fun _ => true) true Tryz.f3.params.toList args.toList ds p := hA0
  rw [Tryz.params3] at hA hval
  obtain ⟨v0, vs0, d0, ds0, p0, q0, hargs, rfl, rfl, h0, r0⟩ := trodAll_cons hA
  obtain ⟨rfl, rfl, rfl⟩ := trodAll_nil r0
  obtain rfl : args = #[v0] := by cases args; simp_all
  obtain ⟨rfl, rfl⟩ := trodVars_none hV
  obtain ⟨a0, rfl, rfl, rfl, w0⟩ := open_string Tryz.underlying9 (hval 0 9 v0 rfl rfl) h0
  clear hA0 hval0
  simp only [List.append_nil] at hW'
  refine (walk a0 w0 W (laidE_of hL)).mono fun e W' ⟨he, hg⟩ => ?_
  subst he
  exact ⟨_, rfl, post_of_below (pa := []) (pv := []) hW' (fun _ _ _ => (trodAll_cons_mk (shut_bool Tryz.underlying4 _) trodAll_mk0)) (fun sp _ => (trodAll_cons_mk (shut_string Tryz.underlying9 w0) trodAll_mk0)) (fun _ _ => rfl) rfl hg⟩

theorem said : Rows.FnLexBetweenSaid :=
  OpenClaim.holds_of_wide 3 Tryz.f3 rfl rfl rfl rfl rfl rfl rfl ⟨rfl, rfl, rfl, rfl, rfl⟩ rfl rfl rfl rfl rfl (by kernel_rfl) Tryz.func3 (by kernel_rfl)
    (of_decide_eq_true (by kernel_rfl)) (by unfold Func.isWrapper; first | (rw [if_pos (by decide +kernel)]; kernel_rfl) | (rw [if_neg (by decide +kernel)]; exact ⟨rfl, rfl⟩))
    (fun os started H enc _ => lifted os started H enc)
theorem plain (f : FuncId) (fn : Func) (hf : Tryz.pinned.checked.prog.funcNamed "pub-dabber/laws.FnLexBetween" = some f) (hfn : Tryz.pinned.checked.prog.funcs[f]? = some fn) :
    true = Tryz.pinned.checked.prog.looks [] ∧ ∀ (j : Nat) t, fn.params[j]? = some t → Tryz.pinned.checked.prog.wantsStandIn t = false := by
  obtain rfl : f = 3 := Option.some.inj ((show Tryz.prog.funcNamed "pub-dabber/laws.FnLexBetween" = some 3 by kernel_rfl).symm.trans hf) |>.symm
  obtain rfl : fn = Tryz.f3 := (Option.some.inj (Tryz.func3.symm.trans hfn)).symm
  refine ⟨by kernel_rfl, fun j t ht => ?_⟩
  rw [Tryz.params3] at ht
  have hm : t ∈ [9] := by simpa using Array.mem_of_getElem? ht
  have hall : ([9].all fun u => !Tryz.prog.wantsStandIn u) = true := by kernel_rfl
  exact (show Tryz.prog.wantsStandIn t = false by simpa using List.all_eq_true.1 hall t hm)
/-- THE CARD -/
theorem proved : Rows.FnLexBetweenCardSaid :=
  Claim7.holds_tied_plain_at .later [] _ _ _ _ said (fun _ h => by cases h) (by kernel_rfl) (fun _ h => by cases h) fnLexBetween_row_tie rfl ⟨rfl, rfl⟩ (by kernel_rfl) rfl plain (by kernel_rfl)
#print axioms proved
end Go.Proofs.YtcelnnjjakiehaaGreatDoor.fnLexBetween
