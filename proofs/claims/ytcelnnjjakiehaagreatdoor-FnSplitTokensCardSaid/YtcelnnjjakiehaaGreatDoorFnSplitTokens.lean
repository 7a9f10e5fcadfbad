/-
  FnSplitTokens returns true at every text, and leaves its argument as it was; and the tied card of that row. Conditions: none beyond the row's own (the listed package variables read as the program's text lays them; the tie is the given one).
-/
import Derived.Test.YtcelnnjjakiehaaGreatDoorCards
import Derived.Test.YtcelnnjjakiehaaGreatDoorTie
import Derived.Test.YtcelnnjjakiehaaGreatDoorLaid
import Derived.Test.YtcelnnjjakiehaaGreatDoorLaw0
import Derived.Test.YtcelnnjjakiehaaGreatDoorSpl3
import Derived.ProofKit
import Derived.LaidMore
import Derived.OpenShut
import Derived.ShutString
namespace Go.Proofs.YtcelnnjjakiehaaGreatDoor.fnSplitTokens
open Go.ChangeShapes Go.WideShapes Go.ChangeAt Go.RowKit
open Go.ChangeMaps (open_string shut_string)
set_option linter.unusedVariables false
set_option maxRecDepth 1000000
set_option maxHeartbeats 4000000

theorem walk (a0 : ByteArray) (w0 : a0.size ≤ maxLen) (W : World) (hW : LaidE W) :
    Calls Tryz.prog 9 #[.string a0] W fun e w' => e = .returned (.bool true) ∧ Below W.heap.size W w' := by
  unfold maxLen at w0
  have HL := Lib.hid (fun w (hb : Below W.heap.size W w) => lexes_any hW hb)
  by_cases h0 : 2147483647 < (a0.size : Int)
  · go_enter Tryz.func9, Tryz.ntmps9
    go_wp2_with fail
    go_ret
    exact ⟨rfl, Below.refl _ _⟩
  by_cases h1 : 16384 < (a0.size : Int)
  · go_enter Tryz.func9, Tryz.ntmps9
    go_wp2_with fail
    refine (HL.out _ (Below.refl W.heap.size W)).mono ?_
    rintro e w9 ⟨rfl, hb9⟩
    have HB9 := Lib.hid ((Below.refl W.heap.size W).trans (hb9.mono (Below.refl W.heap.size W).size)); clear hb9
    go_wp2_with fail
    go_ret
    exact ⟨rfl, HB9.out⟩
  have hB := brittle_any a0 W (by omega)
  cases hbr : brit a0.data.toList with
  | true =>
    rw [hbr] at hB
    have HBR := Lib.hid hB; clear hB hbr
    go_enter Tryz.func9, Tryz.ntmps9
    go_wp2_with fail
    refine HBR.out.mono ?_
    rintro e w1 ⟨rfl, rfl⟩
    go_wp2_with fail
    refine (HL.out _ (Below.refl W.heap.size W)).mono ?_
    rintro e w9 ⟨rfl, hb9⟩
    have HB9 := Lib.hid ((Below.refl W.heap.size W).trans (hb9.mono (Below.refl W.heap.size W).size)); clear hb9
    go_wp2_with fail
    go_ret
    exact ⟨rfl, HB9.out⟩
  | false =>
    rw [hbr] at hB
    have hsz : a0.size ≤ 16384 := by omega
    have hcalm := calm_of_brit _ hbr
    have hpad : pad a0.data.toList = a0.data.toList := by unfold pad; rw [hbr, if_neg (by decide)]
    have hgood := lexGood_calm a0.data.toList hcalm (a0.size + 1) [] false 0 (Nat.zero_le _)
    have hX := lexed_any a0 hW (Below.refl _ W) (by omega) (by rw [hpad, ba_toList_length]; exact hgood)
    rw [hpad] at hX
    have hSp := fun w (hb : Below W.heap.size W w) => lawSplit_any a0 hW hb (by omega) hbr hgood
    have hlaw := split_law a0.data.toList hbr
    have hlen := lexRun_len a0.data.toList (a0.data.toList.length + 1) [] false 0
    have hst := lexRun_size a0.data.toList (a0.data.toList.length + 1) [] false 0 (Nat.zero_le _)
    have hlast := lexRun_last a0.data.toList (a0.data.toList.length + 1) [] false 0 (Nat.zero_le _) (by omega)
    have hSl := splitAll_len a0.data.toList
    change (lexAll a0.data.toList).1.length ≤ _ at hlen
    change ∀ t ∈ (lexAll a0.data.toList).1, _ at hst
    change (lexAll a0.data.toList).2 = none → ∃ T e, (lexAll a0.data.toList).1 = T ++ [e] ∧ _ at hlast
    rw [ba_toList_length] at hlen hst hSl
    have HBR := Lib.hid hB; have HX := Lib.hid hX; have HSP := Lib.hid hSp; have HLAW := Lib.hid hlaw; have HLA := Lib.hid hlast
    clear hB hbr hcalm hX hSp hlaw hlast hpad hgood
    generalize lexAll a0.data.toList = R at *
    obtain ⟨T, o⟩ := R
    simp only at hlen hst
    have HST := Lib.hid hst
    clear hst
    cases o with
    | some q =>
      clear HLAW HLA
      go_enter Tryz.func9, Tryz.ntmps9
      go_wp2_with fail
      refine HBR.out.mono ?_
      rintro e w1 ⟨rfl, rfl⟩
      go_wp2_with fail
      refine HX.out.mono ?_
      rintro e w1 ⟨v, lt, at_, rfl, hl, hT, hb1⟩
      rw [show (some q).isNone = false from rfl]
      have HB1 := Lib.hid hb1
      clear hb1 hT hl HX HBR HST
      go_wp2_with fail
      refine (HSP.out _ HB1.out).mono ?_
      rintro e w2 ⟨vs, rfl, hb2, _⟩
      rw [show (some q).isNone = false from rfl]
      have HB2 := Lib.hid (HB1.out.trans (hb2.mono HB1.out.size))
      clear hb2 HSP
      go_wp2_with fail
      refine (HL.out _ HB2.out).mono ?_
      rintro e w9 ⟨rfl, hb9⟩
      have HB9 := Lib.hid (HB2.out.trans (hb9.mono HB2.out.size)); clear hb9
      go_wp2_with fail
      go_ret
      exact ⟨rfl, HB9.out⟩
    | none =>
      obtain ⟨hSne, hStok, hSkeys⟩ := HLAW.out (by trivial)
      obtain ⟨Ta, e9, q4, q5, q6, q7, q8⟩ := HLA.out (by trivial)
      have HSTOK := Lib.hid hStok; have HKEYS := Lib.hid hSkeys; have HTA := Lib.hid q4
      obtain ⟨i0, hinf, hz0, hz1, hz2⟩ := info_parts info_it
      clear HLAW HLA hStok hSkeys q4 q5 q6 q7 q8
      generalize hSS : splitAll a0.data.toList = S at *
      clear hSS
      go_enter Tryz.func9, Tryz.ntmps9
      go_wp2_with fail
      refine HBR.out.mono ?_
      rintro e w1 ⟨rfl, rfl⟩
      go_wp2_with fail
      refine HX.out.mono ?_
      rintro e w1 ⟨v, lt, at_, rfl, hl, hT, hb1⟩
      rw [show (none : Option Nat).isNone = true from rfl]
      have hl : lt.map (·.1) = T := hl
      have hln : lt.length ≤ 16385 := by have := congrArg List.length hl; rw [List.length_map] at this; omega
      have hlTa : lt.length = Ta.length + 1 := by have := congrArg List.length hl; rw [List.length_map, HTA.out] at this; simpa using this
      obtain ⟨pl, cl, rfl⟩ := own_shape2 hT.own
      have HB1 := Lib.hid hb1; have HT := Lib.hid hT; have HLM := Lib.hid hl; have HLTA := Lib.hid hlTa
      clear hb1 hT hl HX HBR hlTa
      go_wp2_with fail
      refine (HSP.out _ HB1.out).mono ?_
      rintro e w2 ⟨vs, rfl, hb2, hO⟩
      rw [show (none : Option Nat).isNone = true from rfl]
      have hO1 := hO (by trivial)
      clear hO
      have hO := hO1
      clear hO1
      obtain ⟨pr, cr, rfl⟩ := own_shape2 hO
      have HBW := Lib.hid (HB1.out.trans (hb2.mono HB1.out.size))
      have HT2 := Lib.hid (HT.out.below hb2)
      have HRO := Lib.hid hO
      clear hb2 HSP hO HT HB1
      go_wp2_with fail
      go_loopw [8, 50] (fun u i wr => ∃ (k : Nat) (L : List (TkF × Value)), i = .int .i64 k ∧ k ≤ S.length ∧ Own wr w2.heap.size 30 8 u L.length (tksCells L) ∧ L.map (fun p => p.1.key) = (preK a0.data.toList (S.take k)).tail ∧ L.length ≤ k * 16500 ∧ Below w2.heap.size w2 wr) (fun _ i _ => S.length - (intOf i).toNat)
      case atStart => exact ⟨0, [], rfl, Nat.zero_le _, Own.nil _ _ _ _, rfl, Nat.zero_le _, Below.refl _ _⟩
      case round =>
        obtain ⟨k, L, rfl, hk, hown, hkeys, hLl, hb⟩ := hrel
        obtain ⟨pu, cu, rfl⟩ := own_shape2 hown
        by_cases hlt : k < S.length
        · obtain ⟨gr, rfl⟩ : ∃ g, pr = some ⟨g, 0, none⟩ := by
            rcases HRO.out.shape with ⟨_, h2, _⟩ | ⟨g, _, h1, _⟩
            · omega
            · injection h1 with h1; exact ⟨g, h1⟩
          have hcr : S.length ≤ cr := by
            rcases HRO.out.shape with ⟨_, h2, _⟩ | ⟨g, _, h1, _, _, h5, _⟩
            · omega
            · injection h1 with _ _ h1; omega
          have hrcell : ∀ j, j < 3 → wr.cell? ⟨gr, k * 3 + j, none⟩ = (rawCells a0 S[k])[j]? := by
            intro j hj
            rw [hb.cell (p := ⟨gr, k * 3 + j, none⟩) (HRO.out.lt gr rfl).2, HRO.out.cellAt (k * 3 + j) (by omega)]
            exact rawsL_at a0 S k S[k] (List.getElem?_eq_getElem hlt) j hj
          obtain ⟨z1, z2, Tx, ex, z3⟩ := HSTOK.out S[k] (List.getElem_mem hlt)
          have hpk := preK_take a0.data.toList S k hlt
          have hsk : stKeys a0.data.toList S[k] = Tx.map TkF.key := by unfold stKeys; rw [z3]; simp
          rw [hsk] at hpk
          generalize hxx : S[k] = x at *
          have q0 : wr.cell? ⟨gr, k * 3, none⟩ = _ := hrcell 0 (by omega)
          have q1 := hrcell 1 (by omega)
          have q2 := hrcell 2 (by omega)
          simp only [rawCells, List.getElem?_toArray, List.getElem?_cons_succ, List.getElem?_cons_zero] at q0 q1 q2
          have hext : (a0.extract x.1 x.2).data.toList = (a0.data.toList.take x.2).drop x.1 := by rw [Lib.extract_data, List.drop_take]
          have hesz : (a0.extract x.1 x.2).size ≤ 16384 := by rw [← ba_toList_length, hext, List.length_drop, List.length_take, ba_toList_length]; omega
          have hpx : pad (a0.extract x.1 x.2).data.toList = stText a0.data.toList x := by rw [hext]; rfl
          have hpl : (stText a0.data.toList x).length ≤ 16400 := by
            unfold stText pad
            have h8 : ((a0.data.toList.take x.2).drop x.1).length ≤ 16384 := by rw [← hext, ba_toList_length]; exact hesz
            split
            · rw [List.length_append]; simp only [List.length_cons, List.length_nil]; omega
            · omega
          have hTxl : Tx.length ≤ 16400 := by
            have h8 := lexRun_len (stText a0.data.toList x) ((stText a0.data.toList x).length + 1) [] false 0
            change (lexAll (stText a0.data.toList x)).1.length ≤ _ at h8
            rw [z3] at h8
            simp only [List.length_append, List.length_singleton] at h8
            omega
          have hLX : ∀ w, Below W.heap.size W w → Calls _ _ _ _ _ := fun w hb => lexed_any (a0.extract x.1 x.2) hW hb (by omega) (by
            rw [hpx]
            exact lexGood_done _ _ _ _ _ (Nat.zero_le _) (congrArg Prod.snd z3))
          rw [hpx, z3] at hLX
          have HLX := Lib.hid hLX; have HPK := Lib.hid hpk; have HK := Lib.hid hkeys; have HB := Lib.hid hb; have HOWN := Lib.hid hown
          clear hLX hpk hkeys hb hown hrcell hext hpx hpl z1 z2 z3 hsk hxx
          go_wp2_with fail
          refine (HLX.out _ ((HBW.out.trans (HB.out.mono HBW.out.size)).alloc (by have := HBW.out.size; have := HB.out.size; omega) _)).mono ?_
          rintro e w4 ⟨vm, m, at2, rfl, hm, hM, hb4⟩
          rw [show (none : Option Nat).isNone = true from rfl]
          have hm : m.map (·.1) = Tx ++ [ex] := hm
          have hml : m.length = Tx.length + 1 := by have := congrArg List.length hm; rw [List.length_map] at this; simpa using this
          have hmk : (m.take Tx.length).map (fun p => p.1.key) = Tx.map TkF.key := by
            have h8 : (m.take Tx.length).map (fun p => p.1.key) = ((m.map (·.1)).take Tx.length).map TkF.key := by rw [← List.map_take, List.map_map]; rfl
            rw [h8, hm, List.take_left]
          obtain ⟨pm, cm, rfl⟩ := own_shape2 hM.own
          obtain ⟨gm, rfl⟩ : ∃ g, pm = some ⟨g, 0, none⟩ := by
            rcases hM.own.shape with ⟨_, h2, _⟩ | ⟨g, _, h1, _⟩
            · omega
            · injection h1 with h1; exact ⟨g, h1⟩
          have hcm : m.length ≤ cm := by
            rcases hM.own.shape with ⟨_, h2, _⟩ | ⟨g, _, h1, _, _, h5, _⟩
            · omega
            · injection h1 with _ _ h1; omega
          rw [hml] at hcm
          have hmp := (hml ▸ hM.own : Own w4 _ _ _ (.slice (some ⟨gm, 0, none⟩) (Tx.length + 1) cm) (Tx.length + 1) (tksCells m)).takes (m := Tx.length) (by omega) (by omega)
          rw [tksCells_take] at hmp
          have hww : Below wr.heap.size wr w4 := ((Below.refl _ _).alloc (Nat.le_refl _) _).trans (hb4.mono (by simp))
          have hb42 : Below w2.heap.size w2 w4 := HB.out.trans (hww.mono HB.out.size)
          have hO4 : Own w4 w2.heap.size 30 8 (.slice pu L.length cu) L.length (tksCells L) := HOWN.out.below hww (fun g hg => (HOWN.out.lt g hg).2)
          have HMP : Hid (∀ w' : World, (∀ b, wr.heap.size < b → b < w4.heap.size → w'.heap[b]? = w4.heap[b]?) → Own w' _ _ _ _ _ _) := Lib.hid (fun w' hb => hmp.keptB (fun g hg => hb g (by have := (hmp.lt g hg).1; simp at this; omega) (hmp.lt g hg).2))
          have HM1 : Hid (∀ p ∈ m.take Tx.length, p.2.oneCell' = true) := Lib.hid (fun p hp => hM.one p (List.mem_of_mem_take hp))
          have hpub : ∀ b, (Value.slice pu L.length cu).ownBlock = some b → b < wr.heap.size := fun b hb => (HOWN.out.lt b hb).2
          have hw4s : wr.heap.size ≤ w4.heap.size := hww.size
          have HPUB := Lib.hid hpub; clear hpub
          rw [hml]
          have HML := Lib.hid hml
          have HMK := Lib.hid hmk; have HB42 := Lib.hid hb42; have HO4 := Lib.hid hO4
          have hsub : IntKind.i64.wrap (((Tx.length + 1 : Nat) : Int) - 1) = (Tx.length : Int) := by rw [show ((Tx.length + 1 : Nat) : Int) - 1 = (Tx.length : Int) from by omega]; exact IntWalk.i64_in _ (by omega)
          clear hm hM hb4 hmk hmp hww hb42 hO4 HLX HOWN HB q0 q1 q2 hml
          by_cases hk0 : k = 0
          · have hL0 : L = [] := by
              have h8 : L.map (fun p => p.1.key) = [] := by rw [HK.out, hk0]; rfl
              exact List.map_eq_nil_iff.1 h8
            subst hk0
            have HL0 := Lib.hid hL0
            have hB2 := HB42.out
            have hkp : ∀ b, wr.heap.size < b → b < w4.heap.size → w4.heap[b]? = w4.heap[b]? := fun _ _ _ => rfl
            clear hL0
            have hmw := HMP.out w4 hkp
            have hsrc : ∀ j u, (tksCells (m.take Tx.length))[j]? = some u → w4.cell? ((⟨gm, 0, none⟩ : Addr).add j) = some u := fun j u hu => hmw.cells rfl j u hu
            have HSRC := Lib.hid hsrc; have HB2 := Lib.hid hB2
            clear hmw hkp hB2 hsrc
            go_wp2_with (at_builtin; go_loud (refine wpList_append_Own _ rfl (.tmp 75) (.tmp 80) 25 rfl w2.heap.size 30 i0 (.agg #[.string ⟨#[]⟩, .string ⟨#[]⟩, .string ⟨#[]⟩, .string ⟨#[]⟩, .int .i64 0, .int .i64 0, .int .i64 0, .slice none 0 0]) 8 112 Tryz.underlying25 hinf hz0 hz1 hz2 rfl (by decide) _ _ _ rfl HO4.out ⟨gm, 0, none⟩ Tx.length cm (tksCells (m.take Tx.length)) (by simp [Act.eval]) (by rw [tksCells_length, List.length_take, HML.out, Nat.min_eq_left (Nat.le_succ _)]) HSRC.out (tksCells_one _ HM1.out) (by unfold maxLen; omega) (by omega) HB2.out.size ?_))
            intro v9 w9 hown9 hg9 hbk9 hne9
            have hL9 : (L ++ m.take Tx.length).length = (L).length + Tx.length := by rw [List.length_append, List.length_take, HML.out, Nat.min_eq_left (Nat.le_succ _)]
            have hO9 : Own w9 w2.heap.size 30 8 v9 (L ++ m.take Tx.length).length (tksCells (L ++ m.take Tx.length)) := by
              rw [hL9, tksCells_append]
              exact hown9
            have hb9 : Below w2.heap.size w2 w9 := ⟨hg9.os.trans HB2.out.os, hg9.tape.trans HB2.out.tape, hg9.output.trans HB2.out.output, Nat.le_trans HB2.out.size hg9.size, fun b hbb => (hg9.block b (Nat.lt_of_lt_of_le hbb HB2.out.size) (fun e => by have := (HO4.out.lt b e.symm).1; omega)).trans (HB2.out.block b hbb)⟩
            have HO9 := Lib.hid hO9; have HB9 := Lib.hid hb9; have HL9 := Lib.hid hL9
            obtain ⟨pv9, cv9, rfl⟩ := own_shape2 hO9
            clear hown9 hg9 hbk9 hne9 hO9 hb9 hL9
            go_wp2_with fail
            exact ⟨⟨0 + 1, L ++ m.take Tx.length, by go_num, by omega, HO9.out, by rw [List.map_append, HMK.out, HL0.out, HPK.out]; rfl, by rw [HL9.out]; omega, HB9.out⟩, by simp [intOf]; omega⟩
          · have hkn : (0 : Int) < (k : Int) := by omega
            go_wp2_with (at_builtin; go_loud (refine wpList_append_Own _ rfl (.tmp 71) (.tmp 73) 25 rfl w2.heap.size 30 i0 (.agg #[.string ⟨#[]⟩, .string ⟨#[]⟩, .string ⟨#[]⟩, .string ⟨#[]⟩, .int .i64 0, .int .i64 0, .int .i64 0, .slice none 0 0]) 8 112 Tryz.underlying25 hinf hz0 hz1 hz2 rfl (by decide) _ _ _ rfl (HO4.out.alloc _) ⟨w4.heap.size, 0, none⟩ 1 1 (tkCells ⟨kSemi, [], [], kSemi, [], 0, 0, 0⟩ (.slice none 0 0)) (by simp [Act.eval]) rfl (cell_arr _ _ _ _ _ rfl rfl) (by simp [tkCells, Value.oneCell']) (by unfold maxLen; omega) (by omega) (by have := HB42.out.size; simp; omega) ?_))
            intro v7 w7 hown7 hg7 hbk7 hne7
            have hO7 : Own w7 w2.heap.size 30 8 v7 (L ++ [((⟨kSemi, [], [], kSemi, [], 0, 0, 0⟩ : TkF), Value.slice none 0 0)]).length (tksCells (L ++ [((⟨kSemi, [], [], kSemi, [], 0, 0, 0⟩ : TkF), Value.slice none 0 0)])) := by
              rw [List.length_append, tksCells_append]
              exact hown7
            have hB2 : Below w2.heap.size w2 w7 := ⟨hg7.os.trans HB42.out.os, hg7.tape.trans HB42.out.tape, hg7.output.trans HB42.out.output, Nat.le_trans HB42.out.size (Nat.le_trans (by simp) hg7.size), fun b hbb => by
              have h9 := HB42.out.size
              rw [hg7.block b (by simp; omega) (fun e => by have := (HO4.out.lt b e.symm).1; omega), Below.heap_alloc _ _ _ (by omega)]
              exact HB42.out.block b hbb⟩
            have hkp : ∀ b, wr.heap.size < b → b < w4.heap.size → w7.heap[b]? = w4.heap[b]? := fun b h1 h2 => by
              rw [hg7.block b (by simp; omega) (fun e => by have := HPUB.out b e.symm; omega), Below.heap_alloc _ _ _ h2]
            have hne : (preK a0.data.toList (S.take k)) ≠ [] := by
              cases hS : S.take k with
              | nil =>
                have h9 : (S.take k).length = k := by rw [List.length_take]; omega
                rw [hS] at h9
                simp only [List.length_nil] at h9
                omega
              | cons y r => unfold preK; simp
            obtain ⟨pv7, cv7, hv7⟩ := own_shape2 hO7
            have hL7 : (L ++ [((⟨kSemi, [], [], kSemi, [], 0, 0, 0⟩ : TkF), Value.slice none 0 0)]).length = L.length + 1 := by simp
            have HO7 := Lib.hid hO7; have HNE := Lib.hid hne; have HL7 := Lib.hid hL7
            subst hv7
            have HLK : Hid ((L ++ [((⟨kSemi, [], [], kSemi, [], 0, 0, 0⟩ : TkF), Value.slice none 0 0)]).map (fun p => p.1.key) = (preK a0.data.toList (S.take k)).tail ++ [semiK]) := Lib.hid (by rw [List.map_append, HK.out]; rfl)
            clear hown7 hg7 hbk7 hne7 hO7 hne hL7
            generalize hLL : L ++ [((⟨kSemi, [], [], kSemi, [], 0, 0, 0⟩ : TkF), Value.slice none 0 0)] = LL at *
            have hLLl : LL.length ≤ k * 16500 + 1 := by rw [HL7.out]; omega
            clear hLL
            have hmw := HMP.out w7 hkp
            have hsrc : ∀ j u, (tksCells (m.take Tx.length))[j]? = some u → w7.cell? ((⟨gm, 0, none⟩ : Addr).add j) = some u := fun j u hu => hmw.cells rfl j u hu
            have HSRC := Lib.hid hsrc; have HB2 := Lib.hid hB2
            clear hmw hkp hB2 hsrc
            go_wp2_with (at_builtin; go_loud (refine wpList_append_Own _ rfl (.tmp 75) (.tmp 80) 25 rfl w2.heap.size 30 i0 (.agg #[.string ⟨#[]⟩, .string ⟨#[]⟩, .string ⟨#[]⟩, .string ⟨#[]⟩, .int .i64 0, .int .i64 0, .int .i64 0, .slice none 0 0]) 8 112 Tryz.underlying25 hinf hz0 hz1 hz2 rfl (by decide) _ _ _ rfl HO7.out ⟨gm, 0, none⟩ Tx.length cm (tksCells (m.take Tx.length)) (by simp [Act.eval]) (by rw [tksCells_length, List.length_take, HML.out, Nat.min_eq_left (Nat.le_succ _)]) HSRC.out (tksCells_one _ HM1.out) (by unfold maxLen; omega) (by omega) HB2.out.size ?_))
            intro v9 w9 hown9 hg9 hbk9 hne9
            have hL9 : (LL ++ m.take Tx.length).length = (LL).length + Tx.length := by rw [List.length_append, List.length_take, HML.out, Nat.min_eq_left (Nat.le_succ _)]
            have hO9 : Own w9 w2.heap.size 30 8 v9 (LL ++ m.take Tx.length).length (tksCells (LL ++ m.take Tx.length)) := by
              rw [hL9, tksCells_append]
              exact hown9
            have hb9 : Below w2.heap.size w2 w9 := ⟨hg9.os.trans HB2.out.os, hg9.tape.trans HB2.out.tape, hg9.output.trans HB2.out.output, Nat.le_trans HB2.out.size hg9.size, fun b hbb => (hg9.block b (Nat.lt_of_lt_of_le hbb HB2.out.size) (fun e => by have := (HO7.out.lt b e.symm).1; omega)).trans (HB2.out.block b hbb)⟩
            have HO9 := Lib.hid hO9; have HB9 := Lib.hid hb9; have HL9 := Lib.hid hL9
            obtain ⟨pv9, cv9, rfl⟩ := own_shape2 hO9
            clear hown9 hg9 hbk9 hne9 hO9 hb9 hL9
            go_wp2_with fail
            exact ⟨⟨k + 1, LL ++ m.take Tx.length, by go_num, by omega, HO9.out, by rw [List.map_append, HMK.out, HLK.out, HPK.out]; exact tail_app HNE.out, by rw [HL9.out]; omega, HB9.out⟩, by simp [intOf]; omega⟩
        · obtain rfl : k = S.length := by omega
          rw [List.take_of_length_le (Nat.le_refl _)] at hkeys
          have hsz2 := HBW.out.size
          have hdl : T.dropLast = Ta := by rw [HTA.out]; simp
          have hLTA := HLTA.out
          have hpl : 0 < lt.length := by omega
          obtain ⟨gl, rfl⟩ : ∃ g, pl = some ⟨g, 0, none⟩ := by
            rcases HT2.out.own.shape with ⟨_, h2, _⟩ | ⟨g, _, h1, _⟩
            · omega
            · injection h1 with h1; exact ⟨g, h1⟩
          have hcl : lt.length ≤ cl := by
            rcases HT2.out.own.shape with ⟨_, h2, _⟩ | ⟨g, _, h1, _, _, h5, _⟩
            · omega
            · injection h1 with _ _ h1; omega
          have hpre := HT2.out.own.takes (m := Ta.length) (by omega) hpl
          rw [tksCells_take] at hpre
          have htl : (lt.take Ta.length).length = Ta.length := by rw [List.length_take]; omega
          have htk : (lt.take Ta.length).map (fun p => p.1.key) = Ta.map TkF.key := by
            have h8 : (lt.take Ta.length).map (fun p => p.1.key) = ((lt.map (·.1)).take Ta.length).map TkF.key := by rw [← List.map_take, List.map_map]; rfl
            rw [h8, HLM.out, HTA.out, List.take_left]
          have hPRE : Own w2 W.heap.size 30 8 (.slice (some ⟨gl, 0, none⟩) (lt.take Ta.length).length cl) (lt.take Ta.length).length (tksCells (lt.take Ta.length)) := by rw [htl]; exact hpre
          have HFD : Hid (∀ w', Below w2.heap.size w2 w' → Calls Tryz.prog 17 #[.slice (some ⟨gl, 0, none⟩) lt.length cl] w' fun e w'' => e = .returned (.bool (T.any fieldT)) ∧ Below w'.heap.size w' w'') := Lib.hid (fun w' hb => by
            have h9 := fields_any (HT2.out.below hb) (by omega) (fun p hp => by
              have h8 := HST.out p.1 (by rw [← HLM.out]; exact List.mem_map.2 ⟨p, hp, rfl⟩)
              have h7 : (tkText p.1).length = (cmText p.1.coms).length + p.1.space.length + p.1.raw.length := by unfold tkText; simp only [List.length_append]
              omega)
            rw [HLM.out] at h9
            exact h9)
          have hsub1 : IntKind.i64.wrap ((lt.length : Int) - 1) = (Ta.length : Int) := by rw [show (lt.length : Int) - 1 = (Ta.length : Int) from by omega]; exact IntWalk.i64_in _ (by omega)
          have HPRE := Lib.hid hPRE; have HTL := Lib.hid htl; have HTK := Lib.hid htk; have HB := Lib.hid hb; have HOWN := Lib.hid hown
          clear hPRE hpre htk hb hown htl
          rcases HKEYS.out with hc | hc
          · rw [hdl, ← hkeys] at hc
            have hLT : L.length = Ta.length := by have := congrArg List.length hc; simpa using this
            have hsub2 : IntKind.i64.wrap ((lt.length : Int) - 2) = (lt.length : Int) - 2 := IntWalk.i64_in _ (by omega)
            have hneq : ((L.length : Int) == (lt.length : Int) - 2) = false := by rw [beq_eq_false_iff_ne]; omega
            have HLK := Lib.hid hc; have HLT := Lib.hid hLT
            have hLle : L.length ≤ 1073741824 := by omega
            have hTle : Ta.length ≤ lt.length := by omega
            have heq1 : ((L.length : Int) == (Ta.length : Int)) = true := by rw [beq_iff_eq]; omega
            clear hc hkeys hdl hLT hLTA HLM HTA hl
            go_wp2_with fail
            cases hf : T.any fieldT with
            | false =>
              rw [hf] at HFD
              clear hf
              refine (HFD.out _ HB.out).mono ?_
              rintro e w5 ⟨rfl, hb5⟩
              have hB5 : Below w2.heap.size w2 w5 := HB.out.trans (hb5.mono HB.out.size)
              have hO5 : Own w5 w2.heap.size 30 8 _ (L).length (tksCells (L)) := HOWN.out.below hb5 (fun g hg => (HOWN.out.lt g hg).2)
              have hU5 : Own w5 W.heap.size 30 8 _ _ _ := HPRE.out.below hB5 (fun g hg => (HPRE.out.lt g hg).2)
              have hal := allAlikeO_any hO5 hU5 (by omega) (by rw [HTL.out]; omega)
              rw [HTL.out] at hal
              rw [decide_eq_true (HLK.out.trans HTK.out.symm)] at hal
              have HAL := Lib.hid hal; have HB5 := Lib.hid ((HBW.out.trans (HB.out.mono HBW.out.size)).trans (hb5.mono (by have := HBW.out.size; have := HB.out.size; omega)))
              clear hal hO5 hU5 hB5 hb5
              go_wp2_with fail
              refine HAL.out.mono ?_
              rintro e w6 ⟨rfl, hb6⟩
              have HB6 := Lib.hid (HB5.out.trans (hb6.mono HB5.out.size)); clear hb6
              go_wp2_with fail
              go_ret
              exact ⟨rfl, HB6.out⟩
            | true =>
              rw [hf] at HFD
              clear hf
              refine (HFD.out _ HB.out).mono ?_
              rintro e w5 ⟨rfl, hb5⟩
              have HB5 := Lib.hid (HB.out.trans (hb5.mono HB.out.size)); clear hb5
              go_wp2_with fail
              refine (HFD.out _ HB5.out).mono ?_
              rintro e w6 ⟨rfl, hb6⟩
              have HB6 := Lib.hid (HB5.out.trans (hb6.mono HB5.out.size)); clear hb6
              go_wp2_with fail
              go_ret
              exact ⟨ret_bool (by first | rfl | simp | (simp; omega)), HBW.out.trans (HB6.out.mono HBW.out.size)⟩
          · rw [hdl, ← hkeys] at hc
            have hLT : L.length + 1 = Ta.length := by have := congrArg List.length hc; simpa using this
            have hsub2 : IntKind.i64.wrap ((lt.length : Int) - 2) = (L.length : Int) := by rw [show (lt.length : Int) - 2 = (L.length : Int) from by omega]; exact IntWalk.i64_in _ (by omega)
            have hlL : L.length < lt.length := by omega
            have hkt : (lt[L.length]'hlL).1.key = semiK := by
              have h8 : (lt.take Ta.length).map (fun p => p.1.key) = L.map (fun p => p.1.key) ++ [semiK] := by rw [HTK.out, hc]
              have h9 := congrArg (fun z => z[L.length]?) h8
              simp only [List.getElem?_map, List.getElem?_take_of_lt (show L.length < Ta.length by omega), List.getElem?_eq_getElem hlL, Option.map_some] at h9
              rw [List.getElem?_append_right (by rw [List.length_map]; exact Nat.le_refl _), List.length_map, Nat.sub_self] at h9
              simpa using h9
            obtain ⟨gq, cq, heq, _, _, hcell⟩ := (HT2.out.below HB.out).at L.length hlL
            injection heq with heq1 _ heq3
            subst heq3
            injection heq1 with heq1
            injection heq1 with heq1 _ _
            subst heq1
            obtain ⟨c0, c1, c2, c3, c4, c5, c6, c7⟩ := eight hcell
            have hkd : (lt[L.length]'hlL).1.kind = [59] := congrArg (·.1) hkt
            obtain ⟨pv9, cv9, hcv9⟩ := own_shape2 (HT2.out.coms (lt[L.length]'hlL) (List.getElem_mem hlL))
            generalize lt[L.length]'hlL = tp at *
            obtain ⟨t, cv⟩ := tp
            simp only at c0 c1 c2 c3 c4 c5 c6 c7 hkt hkd hcv9
            rw [hkd] at c0
            generalize t.coms.length = cn9 at hcv9
            subst hcv9
            have HLK : Hid ((L ++ [(t, Value.slice pv9 cn9 cv9)]).map (fun p => p.1.key) = Ta.map TkF.key) := Lib.hid (by rw [List.map_append, ← hc]; simp [hkt])
            have HKD := Lib.hid hkd; have HLT := Lib.hid hLT
            have hLle : L.length + 1 ≤ 1073741824 := by omega
            have hTle : Ta.length ≤ lt.length := by omega
            obtain ⟨i1, hinf1, hy0, hy1, hy2⟩ := info_parts info_it
            clear hc hkeys hdl hLT hLTA HLM HTA hl hcell hkt hkd
            go_wp2_with (at_builtin; go_loud (refine wpList_append_Own _ rfl (.tmp 99) (.tmp 106) 25 rfl w2.heap.size 30 i0 (.agg #[.string ⟨#[]⟩, .string ⟨#[]⟩, .string ⟨#[]⟩, .string ⟨#[]⟩, .int .i64 0, .int .i64 0, .int .i64 0, .slice none 0 0]) 8 112 Tryz.underlying25 hinf hz0 hz1 hz2 rfl (by decide) _ _ _ rfl (HOWN.out.alloc _) ⟨wr.heap.size, 0, none⟩ 1 1 [.string ⟨#[59]⟩, .string ⟨t.space.toArray⟩, .string ⟨t.raw.toArray⟩, .string ⟨t.text.toArray⟩, .int .i64 t.base, .int .i64 (t.pos : Int), .int .i64 (t.fin : Int), .slice pv9 cn9 cv9] (by simp [Act.eval]) rfl (cell_arr _ _ _ _ _ rfl rfl) (by simp [Value.oneCell']) (by unfold maxLen; omega) (by omega) (by have := HB.out.size; simp; omega) ?_))
            intro v7 w7 hown7 hg7 hbk7 hne7
            have hO7 : Own w7 w2.heap.size 30 8 v7 (L ++ [(t, Value.slice pv9 cn9 cv9)]).length (tksCells (L ++ [(t, Value.slice pv9 cn9 cv9)])) := by
              rw [List.length_append, tksCells_append]
              have e9 : tksCells [(t, Value.slice pv9 cn9 cv9)] = [.string ⟨#[59]⟩, .string ⟨t.space.toArray⟩, .string ⟨t.raw.toArray⟩, .string ⟨t.text.toArray⟩, .int .i64 t.base, .int .i64 (t.pos : Int), .int .i64 (t.fin : Int), .slice pv9 cn9 cv9] := by
                show tkCells t _ ++ [] = _
                unfold tkCells
                rw [HKD.out]
                rfl
              rw [e9]
              exact hown7
            have hb7 : Below w2.heap.size w2 w7 := ⟨hg7.os.trans HB.out.os, hg7.tape.trans HB.out.tape, hg7.output.trans HB.out.output, Nat.le_trans HB.out.size (Nat.le_trans (by simp) hg7.size), fun b hbb => by
              have h9 := HB.out.size
              rw [hg7.block b (by simp; omega) (fun e => by have := (HOWN.out.lt b e.symm).1; omega), Below.heap_alloc _ _ _ (by omega)]
              exact HB.out.block b hbb⟩
            obtain ⟨pv7, cv7, rfl⟩ := own_shape2 hO7
            have HO7 := Lib.hid hO7; have HB7 := Lib.hid hb7
            have hL7 : (L ++ [(t, Value.slice pv9 cn9 cv9)]).length = L.length + 1 := by simp
            have heq1 : (((L ++ [(t, Value.slice pv9 cn9 cv9)]).length : Int) == (Ta.length : Int)) = true := by rw [beq_iff_eq, hL7]; have := HLT.out; omega
            have hLL7 : (L ++ [(t, Value.slice pv9 cn9 cv9)]).length ≤ 1073741824 := by omega
            clear hown7 hg7 hbk7 hne7 hO7 hb7 hL7 c0 c1 c2 c3 c4 c5 c6 c7
            generalize L ++ [(t, Value.slice pv9 cn9 cv9)] = LL at *
            go_wp2_with fail
            cases hf : T.any fieldT with
            | false =>
              rw [hf] at HFD
              clear hf
              refine (HFD.out _ HB7.out).mono ?_
              rintro e w5 ⟨rfl, hb5⟩
              have hB5 : Below w2.heap.size w2 w5 := HB7.out.trans (hb5.mono HB7.out.size)
              have hO5 : Own w5 w2.heap.size 30 8 _ (LL).length (tksCells (LL)) := HO7.out.below hb5 (fun g hg => (HO7.out.lt g hg).2)
              have hU5 : Own w5 W.heap.size 30 8 _ _ _ := HPRE.out.below hB5 (fun g hg => (HPRE.out.lt g hg).2)
              have hal := allAlikeO_any hO5 hU5 (by omega) (by rw [HTL.out]; omega)
              rw [HTL.out] at hal
              rw [decide_eq_true (HLK.out.trans HTK.out.symm)] at hal
              have HAL := Lib.hid hal; have HB5 := Lib.hid ((HBW.out.trans (HB7.out.mono HBW.out.size)).trans (hb5.mono (by have := HBW.out.size; have := HB7.out.size; omega)))
              clear hal hO5 hU5 hB5 hb5
              go_wp2_with fail
              refine HAL.out.mono ?_
              rintro e w6 ⟨rfl, hb6⟩
              have HB6 := Lib.hid (HB5.out.trans (hb6.mono HB5.out.size)); clear hb6
              go_wp2_with fail
              go_ret
              exact ⟨rfl, HB6.out⟩
            | true =>
              rw [hf] at HFD
              clear hf
              refine (HFD.out _ HB7.out).mono ?_
              rintro e w5 ⟨rfl, hb5⟩
              have HB5 := Lib.hid (HB7.out.trans (hb5.mono HB7.out.size)); clear hb5
              go_wp2_with fail
              refine (HFD.out _ HB5.out).mono ?_
              rintro e w6 ⟨rfl, hb6⟩
              have HB6 := Lib.hid (HB5.out.trans (hb6.mono HB5.out.size)); clear hb6
              go_wp2_with fail
              go_ret
              exact ⟨ret_bool (by first | rfl | simp | (simp; omega)), HBW.out.trans (HB6.out.mono HBW.out.size)⟩
set_option maxRecDepth 100000 in
theorem lifted (os : Os) (started : os.Started) (H : Type) (enc : TypeId × Value → H) :
    ReturnsInHanded {} Tryz.checked os 9 .any (fun w args => (Rows.fnSplitTokensSpec.pre enc Tryz.prog Tryz.f9 [] false w args ∧ laidMetH Tryz.prog Rows.fnSplitTokensRow.laid w) ∧ sizedMet enc Tryz.prog Tryz.f9 (OpenSpec.ofChange Rows.fnSplitTokensSpec) false w args)
      (Rows.fnSplitTokensSpec.post enc Tryz.prog Tryz.f9 false true false false) := by
  refine returnsInHanded_of_change_and (C := Tryz.checked) (X := fun w _ => laidMetH Tryz.prog Rows.fnSplitTokensRow.laid w) (fun _ _ _ hh h => h.of_heap hh) own started (by kernel_rfl) Tryz.func9
    (ChangeSpec.witness_shaped (enc := enc) (C := Tryz.checked) (os := os) (X := fun w _ => laidMetH Tryz.prog Rows.fnSplitTokensRow.laid w) false (laidW os) #[.string ByteArray.empty] 8 (laidW_os os) (laidW_shaped os) (by kernel_rfl) (by kernel_rfl) (by kernel_rfl) (laidW_met os _)) ?_
  intro W base args ds gs before hval0 hW _ _ hL _
  have hval : ∀ (j : Nat) t v, Tryz.f9.params[j]? = some t → args[j]? = some v → Value.okWide Tryz.prog W .any base t v := hval0
  have hW' := hW
  obtain ⟨p, q, hA0, hV, rfl, hfz, hnd⟩ := hW
  have hA : DataW.TrodAll enc Tryz.prog W 0 (fun _ => true) true Tryz.f9.params.toList args.toList ds p := hA0
  rw [Tryz.params9] at hA hval
  obtain ⟨v0, vs0, d0, ds0, p0, q0, hargs, rfl, rfl, h0, r0⟩ := trodAll_cons hA
  obtain ⟨rfl, rfl, rfl⟩ := trodAll_nil r0
  obtain rfl : args = #[v0] := by cases args; simp_all
  obtain ⟨rfl, rfl⟩ := trodVars_none hV
  obtain ⟨a0, rfl, rfl, rfl, w0⟩ := open_string Tryz.underlying9 (hval 0 9 v0 rfl rfl) h0
  clear hA0 hval0
  simp only [List.append_nil] at hW'
  refine (walk a0 w0 W (laidE_of hL)).mono fun e W' ⟨he, hg⟩ => ?_
  subst he
  exact ⟨_, rfl, post_of_below (pa := []) (pv := []) hW' (fun _ _ _ => (trodAll_cons_mk (shut_bool Tryz.underlying4 _) trodAll_mk0)) (fun sp sp9 => (trodAll_cons_mk (shut_string Tryz.underlying9 w0) trodAll_mk0)) (fun _ _ => rfl) rfl hg⟩

theorem said : Rows.FnSplitTokensSaid :=
  OpenClaim.holds_of_wide 9 Tryz.f9 rfl rfl rfl rfl rfl rfl rfl ⟨rfl, rfl, rfl, rfl, rfl⟩ rfl rfl rfl rfl rfl (by kernel_rfl) Tryz.func9 (by kernel_rfl)
    (of_decide_eq_true (by kernel_rfl)) (by unfold Func.isWrapper; first | (rw [if_pos (by decide +kernel)]; kernel_rfl) | (rw [if_neg (by decide +kernel)]; exact ⟨rfl, rfl⟩))
    (fun os started H enc _ => lifted os started H enc)
theorem plain (f : FuncId) (fn : Func) (hf : Tryz.pinned.checked.prog.funcNamed "pub-dabber/laws.FnSplitTokens" = some f) (hfn : Tryz.pinned.checked.prog.funcs[f]? = some fn) :
    true = Tryz.pinned.checked.prog.looks [] ∧ ∀ (j : Nat) t, fn.params[j]? = some t → Tryz.pinned.checked.prog.wantsStandIn t = false := by
  obtain rfl : f = 9 := Option.some.inj ((show Tryz.prog.funcNamed "pub-dabber/laws.FnSplitTokens" = some 9 by kernel_rfl).symm.trans hf) |>.symm
  obtain rfl : fn = Tryz.f9 := (Option.some.inj (Tryz.func9.symm.trans hfn)).symm
  refine ⟨by kernel_rfl, fun j t ht => ?_⟩
  rw [Tryz.params9] at ht
  have hm : t ∈ [9] := by simpa using Array.mem_of_getElem? ht
  have hall : ([9].all fun u => !Tryz.prog.wantsStandIn u) = true := by kernel_rfl
  exact (show Tryz.prog.wantsStandIn t = false by simpa using List.all_eq_true.1 hall t hm)
/-- THE CARD -/
theorem proved : Rows.FnSplitTokensCardSaid :=
  Claim7.holds_tied_plain_at .later [] _ _ _ _ said (fun _ h => by cases h) (by kernel_rfl) (fun _ h => by cases h) fnSplitTokens_row_tie rfl ⟨rfl, rfl⟩ (by kernel_rfl) rfl plain (by kernel_rfl)
#print axioms proved
end Go.Proofs.YtcelnnjjakiehaaGreatDoor.fnSplitTokens
