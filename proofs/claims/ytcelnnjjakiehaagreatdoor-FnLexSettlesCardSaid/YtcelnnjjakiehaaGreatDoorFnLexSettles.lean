/-
  FnLexSettles returns true at every text and every number, and leaves its arguments as they were; and the tied card of that row. Conditions: none beyond the row's own (the listed package variables read as the program's text lays them; the tie is the given one).
-/
import Derived.Test.YtcelnnjjakiehaaGreatDoorCards
import Derived.Test.YtcelnnjjakiehaaGreatDoorTie
import Derived.Test.YtcelnnjjakiehaaGreatDoorLaid
import Derived.Test.YtcelnnjjakiehaaGreatDoorLaw0
import Derived.Test.YtcelnnjjakiehaaGreatDoorFrom
import Derived.Deep.RegionHeld3
import Derived.Deep.RegionLaw
import Derived.ProofKit
import Derived.LaidMore
import Derived.OpenShut
import Derived.ShutString
namespace Go.Proofs.YtcelnnjjakiehaaGreatDoor.fnLexSettles
open Go.ChangeShapes Go.WideShapes Go.ChangeAt Go.RowKit
open Go.ChangeMaps (open_string shut_string)
set_option linter.unusedVariables false
set_option maxRecDepth 1000000
set_option maxHeartbeats 4000000

theorem walk (a0 : ByteArray) (a1 : Int) (w0 : a0.size ≤ maxLen) (w1' : (Lit.int .u8 a1).wf = true) (W : World) (hW : LaidE W) :
    Calls Tryz.prog 8 #[.string a0, .int .u8 a1] W fun e w' => e = .returned (.bool true) ∧ Below W.heap.size W w' := by
  unfold maxLen at w0
  have hr1 := byte_range2 w1'
  clear w1'
  obtain ⟨nn, rfl⟩ := Int.eq_ofNat_of_zero_le hr1.1
  have HL := Lib.hid (fun w (hb : Below W.heap.size W w) => lexes_any hW hb)
  by_cases h0 : 2147483647 < (a0.size : Int)
  · go_enter Tryz.func8, Tryz.ntmps8
    go_wp2_with fail
    go_ret
    exact ⟨rfl, Below.refl _ _⟩
  by_cases h1 : 16384 < (a0.size : Int)
  · go_enter Tryz.func8, Tryz.ntmps8
    go_wp2_with fail
    refine (HL.out _ (Below.refl W.heap.size W)).mono ?_
    rintro e w9 ⟨rfl, hb9⟩
    have HB9 := Lib.hid ((Below.refl W.heap.size W).trans (hb9.mono (Below.refl W.heap.size W).size)); clear hb9
    go_wp2_with fail
    go_ret
    exact ⟨rfl, HB9.out⟩
  have hB := brittle_any a0 W (by omega)
  cases hbr : brit a0.data.toList with
  | true =>
    rw [hbr] at hB
    have HBR := Lib.hid hB; clear hB hbr
    go_enter Tryz.func8, Tryz.ntmps8
    go_wp2_with fail
    refine HBR.out.mono ?_
    rintro e w1 ⟨rfl, rfl⟩
    go_wp2_with fail
    refine (HL.out _ (Below.refl W.heap.size W)).mono ?_
    rintro e w9 ⟨rfl, hb9⟩
    have HB9 := Lib.hid ((Below.refl W.heap.size W).trans (hb9.mono (Below.refl W.heap.size W).size)); clear hb9
    go_wp2_with fail
    go_ret
    exact ⟨rfl, HB9.out⟩
  | false =>
    rw [hbr] at hB
    have hsz : a0.size ≤ 16384 := by omega
    have hcalm := calm_of_brit _ hbr
    have hX := Lex_any a0 hW (Below.refl _ W) (by omega) (lexGood_calm _ hcalm _ _ _ _ (Nat.zero_le _))
    have hlen := lexRun_len a0.data.toList (a0.data.toList.length + 1) [] false 0
    have hst := lexRun_size a0.data.toList (a0.data.toList.length + 1) [] false 0 (Nat.zero_le _)
    obtain ⟨fin, _, hf2, hf3, _⟩ := lexRun_whole a0.data.toList (a0.data.toList.length + 1) [] false 0 (Nat.zero_le _) (by omega)
    have hwl : (wholeT (lexRun a0.data.toList (a0.data.toList.length + 1) [] false 0).1).length ≤ a0.data.toList.length := by rw [hf3, List.length_take, List.length_drop]; omega
    have hset := lexRun_at a0.data.toList (a0.data.toList.length + 1)
    change (lexAll a0.data.toList).1.length ≤ _ at hlen
    change ∀ t ∈ (lexAll a0.data.toList).1, _ at hst
    change (wholeT (lexAll a0.data.toList).1).length ≤ _ at hwl
    have hall : lexAll a0.data.toList = lexRun a0.data.toList (a0.data.toList.length + 1) [] false 0 := rfl
    have hlast := lexRun_last a0.data.toList (a0.data.toList.length + 1) [] false 0 (Nat.zero_le _) (by omega)
    rw [← hall] at hlast
    have hset0 : ∀ (j : Nat) (T : List TkF), lexAll a0.data.toList = (T, none) → _ → _ → _ := fun j T h1 h2 h3 => hset j [] 0 T (Nat.zero_le _) (by omega) (hall ▸ h1) h2 h3
    clear hf2 hf3 hall hset
    rw [ba_toList_length] at hlen hst hwl
    have HBR := Lib.hid hB; have HX := Lib.hid hX; have HSET := Lib.hid hset0; have HLA := Lib.hid hlast
    clear hB hbr hcalm hX hset0 hlast
    generalize lexAll a0.data.toList = R at *
    obtain ⟨T, o⟩ := R
    simp only at hlen hst hwl
    have HST := Lib.hid hst
    clear hst
    cases o with
    | some q =>
      go_enter Tryz.func8, Tryz.ntmps8
      go_wp2_with fail
      refine HBR.out.mono ?_
      rintro e w1 ⟨rfl, rfl⟩
      go_wp2_with fail
      refine HX.out.mono ?_
      rintro e w1 ⟨v, l, at_, rfl, hl, hT, hb1⟩
      rw [show (some q).isNone = false from rfl]
      have HB1 := Lib.hid hb1
      clear hb1 hT hl HX HBR HSET HLA HST
      go_wp2_with fail
      refine (HL.out _ HB1.out).mono ?_
      rintro e w9 ⟨rfl, hb9⟩
      have HB9 := Lib.hid (HB1.out.trans (hb9.mono HB1.out.size)); clear hb9
      go_wp2_with fail
      go_ret
      exact ⟨rfl, HB9.out⟩
    | none =>
      go_enter Tryz.func8, Tryz.ntmps8
      go_wp2_with fail
      refine HBR.out.mono ?_
      rintro e w1 ⟨rfl, rfl⟩
      go_wp2_with fail
      refine HX.out.mono ?_
      rintro e w1 ⟨v, l, at_, rfl, hl, hT, hb1⟩
      rw [show (none : Option Nat).isNone = true from rfl]
      have hl : l.map (·.1) = T := hl
      obtain ⟨pv, cap, rfl⟩ := own_shape2 hT.own
      have hln : l.length ≤ 16385 := by have := congrArg List.length hl; rw [List.length_map] at this; omega
      have hfd := fields_any hT (by omega) (fun p hp => by
        have h9 := HST.out p.1 (by rw [← hl]; exact List.mem_map.2 ⟨p, hp, rfl⟩)
        have h8 : (tkText p.1).length = (cmText p.1.coms).length + p.1.space.length + p.1.raw.length := by unfold tkText; simp only [List.length_append]
        omega)
      rw [hl] at hfd
      have HFD := Lib.hid hfd; have HB1 := Lib.hid hb1; have HT := Lib.hid hT; have HLM := Lib.hid hl
      clear hb1 hT hl HX HBR hfd
      go_wp2_with fail
      refine HFD.out.mono ?_
      rintro e w2 ⟨rfl, hb2⟩
      have HT2 := Lib.hid (HT.out.below hb2)
      have HB2 := Lib.hid (HB1.out.trans (hb2.mono HB1.out.size))
      clear hb2 HFD HT HB1
      cases hf : T.any fieldT with
      | true =>
        go_wp2_with fail
        refine (HL.out _ HB2.out).mono ?_
        rintro e w9 ⟨rfl, hb9⟩
        have HB9 := Lib.hid (HB2.out.trans (hb9.mono HB2.out.size)); clear hb9
        go_wp2_with fail
        go_ret
        exact ⟨rfl, HB9.out⟩
      | false =>
        by_cases hl2 : l.length < 2
        · have hl2i : (l.length : Int) < 2 := by omega
          go_wp2_with fail
          refine (HL.out _ HB2.out).mono ?_
          rintro e w9 ⟨rfl, hb9⟩
          have HB9 := Lib.hid (HB2.out.trans (hb9.mono HB2.out.size)); clear hb9
          go_wp2_with fail
          go_ret
          exact ⟨rfl, HB9.out⟩
        have hl2i : ¬ (l.length : Int) < 2 := by omega
        have hjl : nn % (l.length - 1) < l.length - 1 := Nat.mod_lt _ (by omega)
        have hmod : (nn : Int).tmod ((l.length : Int) - 1) = ((nn % (l.length - 1) : Nat) : Int) := by
          rw [show (l.length : Int) - 1 = ((l.length - 1 : Nat) : Int) from by omega]
          exact (Int.ofNat_tmod _ _).symm
        have hw1 : IntKind.i64.wrap ((l.length : Int) - 1) = (l.length : Int) - 1 := IntWalk.i64_in _ (by omega)
        have hwc : IntKind.i64.wrap (nn : Int) = (nn : Int) := IntWalk.i64_in _ (by omega)
        have hne0 : ((l.length : Int) - 1 == 0) = false := by rw [beq_eq_false_iff_ne]; omega
        generalize nn % (l.length - 1) = j at *
        have hlm : l.length = T.length := by rw [← HLM.out, List.length_map]
        obtain ⟨lst, p', q1, q2, q3⟩ := HSET.out j T rfl hf (by omega)
        obtain ⟨Ta, e9, q4', q5, q6, q7, q8⟩ := HLA.out (by trivial)
        have q4 : T = Ta ++ [e9] := q4'
        have hTa : Ta.length = T.length - 1 := by have := congrArg List.length q4; simp at this; omega
        have htj : T.drop j = T[j] :: T.drop (j + 1) := List.drop_eq_getElem_cons (by omega)
        rw [htj] at q3
        have hkj : T[j].kind ≠ kEof := by
          have : T[j] ∈ Ta := by
            have e1 : T[j] = Ta[j]'(by omega) := by simp only [q4]; rw [List.getElem_append_left (by omega)]
            rw [e1]; exact List.getElem_mem _
          exact q8 _ this
        have hfj : fieldT T[j] = false := by
          have := List.any_eq_false.1 hf T[j] (List.getElem_mem _)
          simpa using this
        obtain ⟨s1, ⟨t0, s2, s3, s4, s5⟩, t1, R1, s6, s7, s8⟩ := settle_law _ _ _ _ _ _ q1 q2 q3 hfj hkj
        have hlj : T[j] = (l[j]'(by omega)).1 := by
          have := HLM.out
          subst this
          rw [List.getElem_map]
        obtain ⟨g, cap2, he, hBg, hcap, hcell⟩ := HT2.out.at j (by omega)
        obtain ⟨c0, c1, c2, c3, c4, c5, c6, c7⟩ := eight hcell
        rw [← hlj] at c0 c1 c2 c3 c4 c5 c6
        have hcom := HT2.out.coms (l[j]'(by omega)) (List.getElem_mem _)
        obtain ⟨pcj, ccj, hcvj⟩ := own_shape2 hcom
        generalize (l[j]'(by omega)).1.coms.length = cn at hcvj
        generalize (l[j]'(by omega)).2 = cvj at *
        subst hcvj
        generalize T[j] = t at *
        clear q1 q2 q3 q4' q4 q5 q6 q7 q8 htj hkj hfj hlj hcell HSET HLA hTa hcom
        injection he with he1 he2 he3
        subst he1 he3
        rw [ba_toList_length] at s1
        have hext : (a0.extract t.pos a0.size).data.toList = a0.data.toList.drop t.pos := by
          rw [Lib.extract_data, List.take_of_length_le (by rw [List.length_drop, ba_toList_length]; exact Nat.le_refl _)]
        have hesz : (a0.extract t.pos a0.size).size = (a0.data.toList.drop t.pos).length := by rw [← ba_toList_length, hext]
        have hX2 : ∀ w, Below W.heap.size W w → Calls _ _ _ _ _ := fun w hb => Lex_any (a0.extract t.pos a0.size) hW hb (by rw [hesz, List.length_drop, ba_toList_length]; omega) (by
          rw [hesz, hext]
          exact lexGood_done _ _ _ _ _ (Nat.zero_le _) (congrArg Prod.snd s6))
        have hr2 : lexAll (a0.extract t.pos a0.size).data.toList = (t1 :: R1, none) := by rw [hext]; exact s6
        rw [hr2] at hX2
        have htx := next_text _ _ _ _ _ _ (by rw [ba_toList_length]; exact s1) s2
        have hct := next_count _ _ _ _ _ _ s2
        rw [ba_toList_length] at htx
        have hF : ∀ w, Below W.heap.size W w → Calls _ _ _ _ _ := fun w hb => lexFrom_any a0 t.pos hW.laid hb (by omega) s1 s2 htx.2.2.1 (by omega)
        have hR1 : R1.length ≤ a0.size := by
          have := lexRun_len (a0.data.toList.drop t.pos) ((a0.data.toList.drop t.pos).length + 1) [] false 0
          rw [s6] at this
          simp only [List.length_cons, List.length_drop, ba_toList_length] at this
          omega
        have HX2 := Lib.hid hX2; have HF := Lib.hid hF
        have HK1 := Lib.hid s7; have HK0 := Lib.hid s3; have H4 := Lib.hid s4; have H5 := Lib.hid s5; have H8 := Lib.hid s8
        clear hX2 hF hr2 hext hesz htx hct s2 s3 s4 s5 s6 s7 s8 hf
        have hHT := HT2.out.own.lt g rfl
        clear hlm hl HLM HST hlen hwl
        go_wp2_with fail
        have hbw : Below W.heap.size W (w2.alloc (.cells (tkCells t (.slice pcj cn ccj)).toArray 30)) := HB2.out.alloc HB2.out.size _
        have hA : TkAt (w2.alloc (.cells (tkCells t (.slice pcj cn ccj)).toArray 30)) w2.heap.size t (.slice pcj cn ccj) := TkAt.new _ _ _
        change Calls _ _ _ (w2.alloc (.cells (tkCells t (.slice pcj cn ccj)).toArray 30)) _
        generalize hw3 : w2.alloc (.cells (tkCells t (.slice pcj cn ccj)).toArray 30) = w3 at *
        have htb : w2.heap.size < w3.heap.size := by rw [← hw3]; simp
        have A := Lib.hid hA; have HB3 := Lib.hid hbw
        obtain ⟨e0, e1, e2, e3, e4, e5, e6, e7⟩ := eightL A.out
        clear hw3 hA hbw c0 c1 c2 c3 c4 c5 c6 c7 HT2 HB2 hHT
        refine (HX2.out _ HB3.out).mono ?_
        rintro e w4 ⟨v', m, at2, rfl, hm, hU, hb4⟩
        rw [show (none : Option Nat).isNone = true from rfl]
        obtain ⟨a1, m', rfl⟩ : ∃ a m', m = a :: m' := by
          cases m with
          | nil => cases hm
          | cons a m' => exact ⟨a, m', rfl⟩
        have ha1 : a1.1 = t1 := by injection hm
        obtain ⟨gm, cm, rfl, _, hcm, hcellm⟩ := hU.at 0 (by simp)
        have hcm1 := hU.coms a1 (by simp)
        obtain ⟨pc1, cc1, hcv1⟩ := own_shape2 hcm1
        have hM : TkAt w4 gm t1 (.slice pc1 a1.1.coms.length cc1) := by
          refine ⟨(hU.own.lt gm rfl).2, fun j hj => ?_⟩
          have h9 := hcellm j hj
          rw [Nat.zero_mul, Nat.zero_add] at h9
          rw [h9, ← ha1, ← hcv1]
          rfl
        have hlm : ([a1] ++ m').length = m'.length + 1 := by simp
        have hml : m'.length ≤ 16384 := by
          have h9 : m'.map (·.1) = R1 := by injection hm
          have := congrArg List.length h9
          rw [List.length_map] at this
          omega
        generalize a1.1.coms.length = cn1 at *
        have A4 := Lib.hid (A.out.below hb4)
        have M := Lib.hid hM
        have HB4 := Lib.hid (HB3.out.trans (hb4.mono HB3.out.size))
        clear A e0 e1 e2 e3 e4 e5 e6 e7 hM hcm1 hcv1 hcellm hU hm ha1 hb4 HB3 htb
        obtain ⟨e0, e1, e2, e3, e4, e5, e6, e7⟩ := eightL A4.out
        go_wp2_with fail
        refine (HF.out _ HB4.out).mono ?_
        rintro e w5 ⟨⟨pc0, cc0, rfl⟩, hb5⟩
        have hb6 : Below w5.heap.size w5 (w5.alloc (.cells (tkCells t0 (.slice pc0 t0.coms.length cc0)).toArray 30)) := (Below.refl _ _).alloc (Nat.le_refl _) _
        have hU6 : TkAt (w5.alloc (.cells (tkCells t0 (.slice pc0 t0.coms.length cc0)).toArray 30)) w5.heap.size t0 (.slice pc0 t0.coms.length cc0) := TkAt.new _ _ _
        have hA6 := (A4.out.below hb5).below hb6
        have hM6 := (M.out.below hb5).below hb6
        have hB5 := HB4.out.trans (hb5.mono HB4.out.size)
        have hB6 := hB5.trans (hb6.mono hB5.size)
        have hal1 := fun w => alike_any t t1 (.slice pcj cn ccj) (.slice pc1 cn1 cc1) w
        have hal0 := fun w => alike_any t t0 (.slice pcj cn ccj) (.slice pc0 t0.coms.length cc0) w
        rw [decide_eq_true HK1.out.symm] at hal1
        rw [decide_eq_true HK0.out.symm] at hal0
        unfold tkVal tkCells at hal1 hal0
        have z1 : ((t1.pos : Nat) : Int) = 0 := by rw [H8.out]; rfl
        have z0 : ((t0.pos : Nat) : Int) = (t.pos : Int) := by rw [H4.out]
        have z5 : ((t0.fin : Nat) : Int) = (t.fin : Int) := by rw [H5.out]
        simp only [z1] at hal1
        simp only [z0, z5] at hal0
        clear z1 z0 z5
        have HA1 := Lib.hid hal1; have HA0 := Lib.hid hal0
        have A6 := Lib.hid hA6; have M6 := Lib.hid hM6; have U6 := Lib.hid hU6; have HB6 := Lib.hid hB6
        clear hA6 hM6 hU6 hB6 hB5 hb6 hb5 A4 M HB4 hal1 hal0 e0 e1 e2 e3 e4 e5 e6 e7
        unfold tkVal tkCells
        go_wp2_with fail
        change Code.wp _ _ _ _ (w5.alloc (.cells (tkCells t0 (.slice pc0 t0.coms.length cc0)).toArray 30))
        generalize w5.alloc (.cells (tkCells t0 (.slice pc0 t0.coms.length cc0)).toArray 30) = w6 at *
        obtain ⟨e0, e1, e2, e3, e4, e5, e6, e7⟩ := eightL A6.out; obtain ⟨m0, m1, m2, m3, m4, m5, m6, m7⟩ := eightL M6.out; obtain ⟨u0, u1, u2, u3, u4, u5, u6, u7⟩ := eightL U6.out; rw [H4.out] at u5; rw [H5.out] at u6; rw [H8.out, show (((0 : Nat) : Int)) = 0 from rfl] at m5
        go_region_held3 (fun w' => w'.cell? ⟨w2.heap.size, 0, none⟩ = some (.string ⟨t.kind.toArray⟩) ∧ w'.cell? ⟨w2.heap.size, 1, none⟩ = some (.string ⟨t.space.toArray⟩) ∧ w'.cell? ⟨w2.heap.size, 2, none⟩ = some (.string ⟨t.raw.toArray⟩) ∧ w'.cell? ⟨w2.heap.size, 3, none⟩ = some (.string ⟨t.text.toArray⟩) ∧ w'.cell? ⟨w2.heap.size, 4, none⟩ = some (.int .i64 t.base) ∧ w'.cell? ⟨w2.heap.size, 5, none⟩ = some (.int .i64 (t.pos : Int)) ∧ w'.cell? ⟨w2.heap.size, 6, none⟩ = some (.int .i64 (t.fin : Int)) ∧ w'.cell? ⟨w2.heap.size, 7, none⟩ = some (.slice pcj cn ccj) ∧ w'.cell? ⟨gm, 0, none⟩ = some (.string ⟨t1.kind.toArray⟩) ∧ w'.cell? ⟨gm, 1, none⟩ = some (.string ⟨t1.space.toArray⟩) ∧ w'.cell? ⟨gm, 2, none⟩ = some (.string ⟨t1.raw.toArray⟩) ∧ w'.cell? ⟨gm, 3, none⟩ = some (.string ⟨t1.text.toArray⟩) ∧ w'.cell? ⟨gm, 4, none⟩ = some (.int .i64 t1.base) ∧ w'.cell? ⟨gm, 5, none⟩ = some (.int .i64 0) ∧ w'.cell? ⟨gm, 6, none⟩ = some (.int .i64 (t1.fin : Int)) ∧ w'.cell? ⟨gm, 7, none⟩ = some (.slice pc1 cn1 cc1) ∧ w'.cell? ⟨w5.heap.size, 0, none⟩ = some (.string ⟨t0.kind.toArray⟩) ∧ w'.cell? ⟨w5.heap.size, 1, none⟩ = some (.string ⟨t0.space.toArray⟩) ∧ w'.cell? ⟨w5.heap.size, 2, none⟩ = some (.string ⟨t0.raw.toArray⟩) ∧ w'.cell? ⟨w5.heap.size, 3, none⟩ = some (.string ⟨t0.text.toArray⟩) ∧ w'.cell? ⟨w5.heap.size, 4, none⟩ = some (.int .i64 t0.base) ∧ w'.cell? ⟨w5.heap.size, 5, none⟩ = some (.int .i64 (t.pos : Int)) ∧ w'.cell? ⟨w5.heap.size, 6, none⟩ = some (.int .i64 (t.fin : Int)) ∧ w'.cell? ⟨w5.heap.size, 7, none⟩ = some (.slice pc0 t0.coms.length cc0)) (first | exact ⟨e0, e1, e2, e3, e4, e5, e6, e7, m0, m1, m2, m3, m4, m5, m6, m7, u0, u1, u2, u3, u4, u5, u6, u7⟩ | exact ⟨by assumption, by assumption, by assumption, by assumption, by assumption, by assumption, by assumption, by assumption, by assumption, by assumption, by assumption, by assumption, by assumption, by assumption, by assumption, by assumption, by assumption, by assumption, by assumption, by assumption, by assumption, by assumption, by assumption, by assumption⟩)
          (first | (go_at_call 26; first | (with_reducible refine (HA1.out _).mono ?_; rintro e w7 ⟨rfl, hb7⟩; (first | (have A7 := Lib.hid (A6.out.belowD hb7); have M7 := Lib.hid (M6.out.belowD hb7); have U7 := Lib.hid (U6.out.belowD hb7); have HB7 := Lib.hid (below_thenD HB6.out hb7)) | (have A7 := Lib.hid (A6.out.below hb7); have M7 := Lib.hid (M6.out.below hb7); have U7 := Lib.hid (U6.out.below hb7); have HB7 := Lib.hid (below_then HB6.out hb7))); clear A6 M6 U6 HB6 hb7; have A6 := A7; have M6 := M7; have U6 := U7; have HB6 := HB7; clear A7 M7 U7 HB7; obtain ⟨e0, e1, e2, e3, e4, e5, e6, e7⟩ := eightL A6.out; obtain ⟨m0, m1, m2, m3, m4, m5, m6, m7⟩ := eightL M6.out; obtain ⟨u0, u1, u2, u3, u4, u5, u6, u7⟩ := eightL U6.out; rw [H4.out] at u5; rw [H5.out] at u6; rw [H8.out, show (((0 : Nat) : Int)) = 0 from rfl] at m5) | (with_reducible refine (HA0.out _).mono ?_; rintro e w7 ⟨rfl, hb7⟩; (first | (have A7 := Lib.hid (A6.out.belowD hb7); have M7 := Lib.hid (M6.out.belowD hb7); have U7 := Lib.hid (U6.out.belowD hb7); have HB7 := Lib.hid (below_thenD HB6.out hb7)) | (have A7 := Lib.hid (A6.out.below hb7); have M7 := Lib.hid (M6.out.below hb7); have U7 := Lib.hid (U6.out.below hb7); have HB7 := Lib.hid (below_then HB6.out hb7))); clear A6 M6 U6 HB6 hb7; have A6 := A7; have M6 := M7; have U6 := U7; have HB6 := HB7; clear A7 M7 U7 HB7; obtain ⟨e0, e1, e2, e3, e4, e5, e6, e7⟩ := eightL A6.out; obtain ⟨m0, m1, m2, m3, m4, m5, m6, m7⟩ := eightL M6.out; obtain ⟨u0, u1, u2, u3, u4, u5, u6, u7⟩ := eightL U6.out; rw [H4.out] at u5; rw [H5.out] at u6; rw [H8.out, show (((0 : Nat) : Int)) = 0 from rfl] at m5)))
        go_wp2_with fail
        go_ret
        exact ⟨rfl, HB6.out⟩
set_option maxRecDepth 100000 in
theorem lifted (os : Os) (started : os.Started) (H : Type) (enc : TypeId × Value → H) :
    ReturnsInHanded {} Tryz.checked os 8 .any (fun w args => (Rows.fnLexSettlesSpec.pre enc Tryz.prog Tryz.f8 [] false w args ∧ laidMetH Tryz.prog Rows.fnLexSettlesRow.laid w) ∧ sizedMet enc Tryz.prog Tryz.f8 (OpenSpec.ofChange Rows.fnLexSettlesSpec) false w args)
      (Rows.fnLexSettlesSpec.post enc Tryz.prog Tryz.f8 false true false false) := by
  refine returnsInHanded_of_change_and (C := Tryz.checked) (X := fun w _ => laidMetH Tryz.prog Rows.fnLexSettlesRow.laid w) (fun _ _ _ hh h => h.of_heap hh) own started (by kernel_rfl) Tryz.func8
    (ChangeSpec.witness_shaped (enc := enc) (C := Tryz.checked) (os := os) (X := fun w _ => laidMetH Tryz.prog Rows.fnLexSettlesRow.laid w) false (laidW os) #[.string ByteArray.empty, .int .u8 0] 8 (laidW_os os) (laidW_shaped os) (by kernel_rfl) (by kernel_rfl) (by kernel_rfl) (laidW_met os _)) ?_
  intro W base args ds gs before hval0 hW _ _ hL _
  have hval : ∀ (j : Nat) t v, Tryz.f8.params[j]? = some t → args[j]? = some v → Value.okWide Tryz.prog W .any base t v := hval0
  have hW' := hW
  obtain ⟨p, q, hA0, hV, rfl, hfz, hnd⟩ := hW
  have hA : DataW.TrodAll enc Tryz.prog W 0 (fun _ => true) true Tryz.f8.params.toList args.toList ds p := hA0
  rw [Tryz.params8] at hA hval
  obtain ⟨v0, vs0, d0, ds0, p0, q0, hargs, rfl, rfl, h0, r0⟩ := trodAll_cons hA
  obtain ⟨v1, vs1, d1, ds1, p1, q1, rfl, rfl, rfl, h1, r1⟩ := trodAll_cons r0
  obtain ⟨rfl, rfl, rfl⟩ := trodAll_nil r1
  obtain rfl : args = #[v0, v1] := by cases args; simp_all
  obtain ⟨rfl, rfl⟩ := trodVars_none hV
  obtain ⟨a0, rfl, rfl, rfl, w0⟩ := open_string Tryz.underlying9 (hval 0 9 v0 rfl rfl) h0
  obtain ⟨a1, rfl, rfl, rfl, w1⟩ := open_int Tryz.underlying5 (hval 1 5 v1 rfl rfl) h1
  clear hA0 hval0
  simp only [List.append_nil] at hW'
  refine (walk a0 a1 w0 w1 W (laidE_of hL)).mono fun e W' ⟨he, hg⟩ => ?_
  subst he
  exact ⟨_, rfl, post_of_below (pa := []) (pv := []) hW' (fun _ _ _ => (trodAll_cons_mk (shut_bool Tryz.underlying4 _) trodAll_mk0)) (fun sp sp9 => (trodAll_cons_mk (shut_string Tryz.underlying9 w0) (trodAll_cons_mk (shut_int Tryz.underlying5 w1) trodAll_mk0))) (fun _ _ => rfl) rfl hg⟩

theorem said : Rows.FnLexSettlesSaid :=
  OpenClaim.holds_of_wide 8 Tryz.f8 rfl rfl rfl rfl rfl rfl rfl ⟨rfl, rfl, rfl, rfl, rfl⟩ rfl rfl rfl rfl rfl (by kernel_rfl) Tryz.func8 (by kernel_rfl)
    (of_decide_eq_true (by kernel_rfl)) (by unfold Func.isWrapper; first | (rw [if_pos (by decide +kernel)]; kernel_rfl) | (rw [if_neg (by decide +kernel)]; exact ⟨rfl, rfl⟩))
    (fun os started H enc _ => lifted os started H enc)
theorem plain (f : FuncId) (fn : Func) (hf : Tryz.pinned.checked.prog.funcNamed "pub-dabber/laws.FnLexSettles" = some f) (hfn : Tryz.pinned.checked.prog.funcs[f]? = some fn) :
    true = Tryz.pinned.checked.prog.looks [] ∧ ∀ (j : Nat) t, fn.params[j]? = some t → Tryz.pinned.checked.prog.wantsStandIn t = false := by
  obtain rfl : f = 8 := Option.some.inj ((show Tryz.prog.funcNamed "pub-dabber/laws.FnLexSettles" = some 8 by kernel_rfl).symm.trans hf) |>.symm
  obtain rfl : fn = Tryz.f8 := (Option.some.inj (Tryz.func8.symm.trans hfn)).symm
  refine ⟨by kernel_rfl, fun j t ht => ?_⟩
  rw [Tryz.params8] at ht
  have hm : t ∈ [9, 5] := by simpa using Array.mem_of_getElem? ht
  have hall : ([9, 5].all fun u => !Tryz.prog.wantsStandIn u) = true := by kernel_rfl
  exact (show Tryz.prog.wantsStandIn t = false by simpa using List.all_eq_true.1 hall t hm)
/-- THE CARD -/
theorem proved : Rows.FnLexSettlesCardSaid :=
  Claim7.holds_tied_plain_at .later [] _ _ _ _ said (fun _ h => by cases h) (by kernel_rfl) (fun _ h => by cases h) fnLexSettles_row_tie rfl ⟨rfl, rfl⟩ (by kernel_rfl) rfl plain (by kernel_rfl)
#print axioms proved
end Go.Proofs.YtcelnnjjakiehaaGreatDoor.fnLexSettles
