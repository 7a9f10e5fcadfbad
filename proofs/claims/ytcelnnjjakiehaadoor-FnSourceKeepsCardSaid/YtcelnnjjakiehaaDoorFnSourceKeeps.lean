/-
  FnSourceKeeps returns true at every text and every span of it, and leaves its arguments as they were; and the tied card of that row. Conditions: none beyond the row's own (the listed package variables read as the program's text lays them; the tie is the given one).
-/
import Derived.Test.YtcelnnjjakiehaaDoorCards
import Derived.Test.YtcelnnjjakiehaaDoorTie
import Derived.Test.YtcelnnjjakiehaaDoorSource
import Derived.Test.YtcelnnjjakiehaaDoorAscii
import Derived.ProofKit
import Derived.LaidMore
import Derived.OpenShut
import Derived.ShutString
import Derived.Lib.LaidTab
import Derived.Stop.Joined
import Derived.Stop.LaidErr
import Derived.Deep.CutBlock
import Derived.Deep.DeepCutAuto
namespace Go.Proofs.YtcelnnjjakiehaaDoor.fnSourceKeeps
open Go.ChangeShapes Go.WideShapes Go.ChangeAt Go.RowKit
open Go.ChangeMaps (open_string shut_string)
set_option linter.unusedVariables false
set_option maxRecDepth 20000
set_option maxHeartbeats 2000000

/-- the places of the lines of a span -/
structure Spans (s : ByteArray) (pos fin l1 l2 : Nat) (st : Nat → Nat) (src : ByteArray) : Prop where
  le : l1 ≤ l2
  mono : ∀ i j, i ≤ j → st i ≤ st j
  low : st l1 ≤ pos
  posIn : pos < st (l1 + 1)
  finLow : st l2 ≤ fin
  finIn : fin < st (l2 + 1)
  top : st (l2 + 1) ≤ s.size + 1
  zero : l1 = 0 → st l1 = 0
  step : ∀ j, l1 ≤ j → j ≤ l2 → st j < st (j + 1)
  inside : ∀ j m, l1 ≤ j → j ≤ l2 → st j ≤ m → m + 1 < st (j + 1) → ∀ h : m < s.size, s[m] ≠ 10
  feed : ∀ j, j ≤ l2 → 0 < j → ∀ h : st j - 1 < s.size, s[st j - 1] = 10
  last : st (l2 + 1) = s.size + 1 ∨ ∀ h : st (l2 + 1) - 1 < s.size, s[st (l2 + 1) - 1] = 10
  found : ∀ j, l1 ≤ j → j ≤ l2 → has ((s.data.toList.take (st (j + 1) - 1)).drop (st j)) src.data.toList = true
theorem getE (s : ByteArray) (m : Nat) (h : m < s.size) : s.data.toList[m]? = some s[m] := by
  rw [List.getElem?_eq_getElem (by rw [ba_toList_length]; exact h)]; rfl
theorem spans (s : ByteArray) (pos fin : Nat) (hpf : pos ≤ fin) (hf : fin ≤ s.size) : ∃ l1 l2 st, Spans s pos fin l1 l2 st ⟨(srcText s.data.toList pos fin).toArray⟩ := by
  obtain ⟨a1, a2, a3⟩ := lc_spec s.data.toList pos (by rw [ba_toList_length]; omega)
  obtain ⟨b1, b2, b3⟩ := lc_spec s.data.toList fin (by rw [ba_toList_length]; omega)
  have hm := lc_mono s.data.toList pos fin hpf
  have hend := stAt_end s.data.toList
  rw [ba_toList_length] at hend
  have hmono := stAt_mono (pieces s.data.toList)
  refine ⟨(lc (s.data.toList.take pos)).1, (lc (s.data.toList.take fin)).1, stAt (pieces s.data.toList), hm, hmono, by omega, a3 _ (by omega) (by omega), by omega, b3 _ (by omega) (by omega), ?_, ?_, ?_, ?_, ?_, ?_, ?_⟩
  · have := hmono ((lc (s.data.toList.take fin)).1 + 1) _ (show _ ≤ (pieces s.data.toList).length by omega)
    omega
  · intro h; rw [h]; exact stAt_zero _
  · intro j h1 h2
    rw [stAt_succ _ _ (by omega)]; omega
  · intro j m h1 h2 h3 h4 h he
    refine in_piece s.data.toList j m (by omega) h3 h4 ?_
    rw [getE s m h, he]
  · intro j h1 h2 h
    have := at_feed s.data.toList (j - 1) (by omega)
    rw [show j - 1 + 1 = j from by omega, getE s _ h] at this
    exact Option.some.inj this
  · by_cases e : (lc (s.data.toList.take fin)).1 + 1 = (pieces s.data.toList).length
    · left; rw [e]; exact hend
    · right; intro h
      have := at_feed s.data.toList (lc (s.data.toList.take fin)).1 (by omega)
      rw [getE s _ h] at this
      exact Option.some.inj this
  · intro j h1 h2
    have h := src_has s.data.toList pos fin j h1 h2
    have hj : j < (pieces s.data.toList).length := by omega
    have e1 : (pieces s.data.toList).getD j [] = (pieces s.data.toList)[j]'hj := by simp [List.getD, hj]
    rw [e1, ← sub_piece s.data.toList j hj] at h
    exact h
theorem src_le (s : ByteArray) (pos fin : Nat) (hs : s.size ≤ 16384) (hpf : pos ≤ fin) (hf : fin ≤ s.size) : (⟨(srcText s.data.toList pos fin).toArray⟩ : ByteArray).size ≤ 4294967296 := by
  obtain ⟨l1, l2, l3⟩ := lc_spec s.data.toList pos (by rw [ba_toList_length]; omega)
  obtain ⟨r1, r2, r3⟩ := lc_spec s.data.toList fin (by rw [ba_toList_length]; omega)
  have hend := stAt_end s.data.toList
  rw [ba_toList_length] at hend
  have hmono := stAt_mono (pieces s.data.toList)
  have hm := lc_mono s.data.toList pos fin hpf
  have hcnt : ∀ k, k ≤ (pieces s.data.toList).length → k ≤ stAt (pieces s.data.toList) k := by
    intro k
    induction k with
    | zero => intro _; omega
    | succ k ih => intro h; have := ih (by omega); rw [stAt_succ _ _ (by omega)]; omega
  have hlen := hcnt _ (Nat.le_refl _)
  rw [hend] at hlen
  show (srcText s.data.toList pos fin).toArray.size ≤ 4294967296
  rw [List.size_toArray]
  unfold srcText
  split
  · next he =>
    have h4 : (padN ((lc (s.data.toList.take pos)).1 + 1)).length ≤ 21 := padL_length _ (Lib.itoa_length_le _ (by omega) (by omega))
    have h5 : ((pieces s.data.toList).getD (lc (s.data.toList.take pos)).1 []).length ≤ s.size := by
      have e1 : (pieces s.data.toList).getD (lc (s.data.toList.take pos)).1 [] = (pieces s.data.toList)[(lc (s.data.toList.take pos)).1]'l1 := by simp [List.getD, l1]
      rw [e1]
      have h6 := stAt_succ (pieces s.data.toList) (lc (s.data.toList.take pos)).1 l1
      have h7 := hmono ((lc (s.data.toList.take pos)).1 + 1) (pieces s.data.toList).length (by omega)
      omega
    simp only [srcLine, List.length_append, repeatL_len, List.length_cons, List.length_nil]
    omega
  · have h := srcMany_le s.data.toList (lc (s.data.toList.take pos)).1 ((lc (s.data.toList.take fin)).1 + 1 - (lc (s.data.toList.take pos)).1) (by omega) (by omega)
    have h7 := hmono ((lc (s.data.toList.take pos)).1 + ((lc (s.data.toList.take fin)).1 + 1 - (lc (s.data.toList.take pos)).1)) (pieces s.data.toList).length (by omega)
    omega
theorem walk_in (s : ByteArray) (pos fin : Nat) (W : World) (hW : Tab W) (hs : s.size ≤ 16384) (hpf : pos ≤ fin) (hf : fin ≤ s.size) (hasc : asc s.data.toList = true) :
    Calls Tryd.prog 3 #[.string s, .int .i64 pos, .int .i64 fin] W fun e w' => e = .returned (.bool true) ∧ Below W.heap.size W w' := by
  have hc1 := implSource_any pos fin s W W hW (Below.refl _ _) (by omega) hpf hf
  have hc2 : ∀ w, Below W.heap.size W w → Calls Tryd.prog 6 #[.string ⟨#[97, 98]⟩, .int .i64 0, .int .i64 1] w _ := fun w h => implSource_any 0 1 ⟨#[97, 98]⟩ W w hW h (by decide) (by omega) (by decide)
  have ha := ascii_any s W (by unfold maxLen; omega)
  rw [hasc] at ha
  obtain ⟨l1, l2, st, hS⟩ := spans s pos fin hpf hf
  have hsl := src_le s pos fin hs hpf hf
  generalize (⟨(srcText s.data.toList pos fin).toArray⟩ : ByteArray) = src at *
  have HC1 := Lib.hid hc1; have HC2 := Lib.hid hc2; have HA := Lib.hid ha; have HS := Lib.hid hS
  have k1 := hS.le; have k2 := hS.low; have k3 := hS.posIn; have k4 := hS.finLow; have k5 := hS.finIn; have k6 := hS.top
  clear hc1 hc2 ha hS hasc
  obtain ⟨T, hT⟩ : ∃ T : Nat, T + 1 = st (l2 + 1) := ⟨st (l2 + 1) - 1, by omega⟩
  have t1 : T ≤ s.size := by omega
  have t2 : fin ≤ T := by omega
  have t3 : pos ≤ T := by omega
  have HT := Lib.hid hT; clear hT
  have b1 : decide ((2147483647 : Int) < (s.size : Int)) = false := by simp; omega
  have b2 : decide ((16384 : Int) < (s.size : Int)) = false := by simp; omega
  have b3 : decide ((pos : Int) < 0) = false := by simp
  have b4 : decide (fin < pos) = false := by simp; omega
  have b5 : decide (s.size < fin) = false := by simp; omega
  go_enter Tryd.func3, Tryd.ntmps3
  go_wp2_with fail
  refine HA.out.mono ?_
  rintro e w1 ⟨rfl, rfl⟩
  go_upto_block 0 with fail
  go_cut [7] (fun s7 wx => s7 = .int .i64 ((st l1 : Nat) : Int) ∧ wx = W)
  case first =>
    go_wp2_with fail
    go_loop [7] (fun i => ∃ k : Nat, i = .int .i64 k ∧ st l1 ≤ k ∧ k ≤ pos) (fun i => (intOf i).toNat)
    case atStart => exact ⟨pos, rfl, k2, Nat.le_refl _⟩
    case round =>
      obtain ⟨k, rfl, hk1, hk2⟩ := hrel
      by_cases hk : k = st l1
      · by_cases hk0 : 0 < k
        · have hk0b : decide ((0 : Int) < (k : Int)) = true := by simp; omega
          have hbd : k - 1 < s.size := by clear hk; omega
          have hneB : (((s[k - 1]'hbd).toNat : Int) != 10) = false := by
            have := HS.out.feed l1 k1 (by rcases Nat.eq_zero_or_pos l1 with h | h; (have := HS.out.zero h; omega); exact h) (by omega)
            simp only [hk, this]; rfl
          have Hk := Lib.hid hk; clear hk
          go_wp2_with fail
          go_meet
          case rel => exact ⟨by rw [Hk.out], rfl⟩
        · have hk0b : decide ((0 : Int) < (k : Int)) = false := by simp; omega
          have Hk := Lib.hid hk; clear hk
          go_wp2_with fail
          go_meet
          case rel => exact ⟨by rw [Hk.out], rfl⟩
      · have hk0 : 0 < k := by omega
        have hne := HS.out.inside l1 (k - 1) (Nat.le_refl _) k1 (by omega) (by omega) (by omega)
        have hneB : (((s[k - 1]'(by omega)).toNat : Int) != 10) = true := by
          rw [bne_iff_ne]
          intro h
          apply hne
          rw [← UInt8.toNat_inj]; show _ = 10; omega
        have hk0b : decide ((0 : Int) < (k : Int)) = true := by simp; omega
        go_wp2_with fail
        go_round
        case rel => exact ⟨k - 1, by rw [show ((k - 1 : Nat) : Int) = (k : Int) - 1 from by omega], by omega, by omega⟩
        case measure => simp [intOf]; omega
  case rest =>
    obtain ⟨rfl, rfl⟩ := hcut
    go_upto_block 2 with fail
    go_cut [8] (fun s8 wx => s8 = .int .i64 (T : Int) ∧ wx = wc)
    case first =>
      go_wp2_with fail
      go_loop [8] (fun i => ∃ k : Nat, i = .int .i64 k ∧ fin ≤ k ∧ k ≤ T) (fun i => s.size - (intOf i).toNat)
      case atStart => exact ⟨fin, rfl, Nat.le_refl _, t2⟩
      case round =>
        obtain ⟨k, rfl, hk1, hk2⟩ := hrel
        by_cases hk : k = T
        · by_cases hk0 : k < s.size
          · have hk0b : decide (k < s.size) = true := by simp; omega
            have hneB : (((s[k]'hk0).toNat : Int) != 10) = false := by
              have := (HS.out.last.resolve_left (by have := HT.out; omega)) (by have := HT.out; omega)
              simp only [← HT.out, Nat.add_sub_cancel, ← hk] at this; simp only [this]; rfl
            have Hk := Lib.hid hk; clear hk
            go_wp2_with fail
            go_meet
            case rel => exact ⟨by rw [← Hk.out], rfl⟩
          · have hk0b : decide (k < s.size) = false := by simp; omega
            have Hk := Lib.hid hk; clear hk
            go_wp2_with fail
            go_meet
            case rel => exact ⟨by rw [← Hk.out], rfl⟩
        · have hk0 : k < s.size := by omega
          have hne := HS.out.inside l2 k k1 (Nat.le_refl _) (by omega) (by have := HT.out; omega) (by omega)
          have hneB : (((s[k]'(by omega)).toNat : Int) != 10) = true := by
            rw [bne_iff_ne]
            intro h
            apply hne
            rw [← UInt8.toNat_inj]; show _ = 10; omega
          have hk0b : decide (k < s.size) = true := by simp; omega
          go_wp2_with fail
          go_round
          case rel => exact ⟨k + 1, by rw [show ((k + 1 : Nat) : Int) = (k : Int) + 1 from by omega], by omega, by omega⟩
          case measure => simp [intOf]; omega
    case rest =>
      obtain ⟨rfl, rfl⟩ := hcut
      have HST := Lib.hid (rfl : wc = wc)
      go_wp2_with fail
      refine HC1.out.mono ?_
      rintro e w1 ⟨rfl, hb1⟩
      have HB1 := Lib.hid hb1; clear hb1
      go_wp2_with fail
      go_loop [10, 11] (fun q i => ∃ (line : ByteArray) (k : Nat), q = .string line ∧ i = .int .i64 k ∧ k ≤ T + 1 ∧ (k ≤ T → ∃ j, l1 ≤ j ∧ j ≤ l2 ∧ st j ≤ k ∧ k < st (j + 1) ∧ line.data.toList = (s.data.toList.take k).drop (st j))) (fun q i => s.size + 2 - (intOf i).toNat)
      case atStart =>
        refine ⟨⟨#[]⟩, st l1, rfl, rfl, by omega, fun _ => ⟨l1, Nat.le_refl _, k1, Nat.le_refl _, by omega, ?_⟩⟩
        rw [List.drop_eq_nil_of_le (by simp; omega)]
      case round =>
        obtain ⟨line, k, rfl, rfl, hk2, hj⟩ := hrel
        by_cases hkT : k ≤ T
        · obtain ⟨j, j1, j2, j3, j4, j5⟩ := hj hkT
          have hline : line.size ≤ 16384 := by
            rw [← ba_toList_length, j5]; simp; omega
          have J5 := Lib.hid j5; clear j5 hj
          have hTT : st (j + 1) ≤ T + 1 := by rw [HT.out]; exact HS.out.mono _ _ (by omega)
          by_cases hin : k + 1 < st (j + 1)
          · have hne := HS.out.inside j k j1 j2 j3 hin (by omega)
            have hneB : (((s[k]'(by omega)).toNat : Int) != 10) = true := by
              rw [bne_iff_ne]
              intro h
              apply hne
              rw [← UInt8.toNat_inj]; show _ = 10; omega
            have hlt : k < T := by omega
            have hsz : line.size + (min (k + 1) s.size - k) < 100000 := by omega
            have hxx : (s.extract k (k + 1)).data.toList = [s[k]'(by omega)] := by
              rw [Lib.extract_data]
              have e1 : s.data.toList.drop k = s[k]'(by omega) :: s.data.toList.drop (k + 1) := List.drop_eq_getElem_cons (by rw [ba_toList_length]; omega)
              rw [e1, show k + 1 - k = 1 from by omega]; rfl
            have HXX := Lib.hid hxx; clear hxx
            go_wp2_with fail
            refine ⟨⟨line ++ s.extract k (k + 1), k + 1, rfl, by rw [show ((k + 1 : Nat) : Int) = (k : Int) + 1 from by omega], by omega, fun _ => ⟨j, j1, j2, by omega, hin, ?_⟩⟩, by simp [intOf]; omega⟩
            rw [take_snoc s k (by omega), List.drop_append_of_le_length (by simp; omega), ← J5.out, ByteArray.data_append, Array.toList_append, HXX.out]
          · have hke : k = st (j + 1) - 1 := by omega
            have hfound := HS.out.found j j1 j2
            rw [← hke, ← J5.out] at hfound
            have hW1 := within_any src line w1 hsl (by omega)
            rw [hfound] at hW1
            have HW1 := Lib.hid hW1; clear hW1 hfound
            have hjl : k < T → j < l2 := by
              intro h
              rcases Nat.lt_or_ge j l2 with h' | h'
              · exact h'
              · exfalso; have e : j = l2 := by omega
                rw [e] at hke; have := HT.out; omega
            have hnext : k + 1 ≤ T → ∃ j', l1 ≤ j' ∧ j' ≤ l2 ∧ st j' ≤ k + 1 ∧ k + 1 < st (j' + 1) ∧ (⟨#[]⟩ : ByteArray).data.toList = (s.data.toList.take (k + 1)).drop (st j') := by
              intro h
              have := hjl (by omega)
              have := HS.out.step (j + 1) (by omega) (by omega)
              refine ⟨j + 1, by omega, by omega, by omega, by omega, ?_⟩
              rw [List.drop_eq_nil_of_le (by simp; omega)]
            have HN := Lib.hid hnext; clear hnext
            by_cases hlt : k < T
            · have hbd : k < s.size := by clear hke; omega
              have hneB : (((s[k]'hbd).toNat : Int) != 10) = false := by
                have hx := hjl hlt
                have := HS.out.feed (j + 1) (by omega) (by omega) (by omega)
                simp only [← hke] at this; simp only [this]; rfl
              have Hk := Lib.hid hke; clear hke hjl
              go_wp2_with fail
              refine HW1.out.mono ?_
              rintro e w1 ⟨rfl, rfl⟩
              go_wp2_with fail
              exact ⟨⟨⟨#[]⟩, k + 1, rfl, by rw [show ((k + 1 : Nat) : Int) = (k : Int) + 1 from by omega], by omega, HN.out⟩, by simp [intOf]; omega⟩
            · have Hk := Lib.hid hke; clear hke hjl
              go_wp2_with fail
              refine HW1.out.mono ?_
              rintro e w1 ⟨rfl, rfl⟩
              go_wp2_with fail
              exact ⟨⟨⟨#[]⟩, k + 1, rfl, by rw [show ((k + 1 : Nat) : Int) = (k : Int) + 1 from by omega], by omega, HN.out⟩, by simp [intOf]; omega⟩
        · clear hj
          have hW2 : ∀ w, Calls Tryd.prog 7 #[.string ⟨(srcText [97, 98] 0 1).toArray⟩, .string ⟨#[97, 98]⟩] w fun e w' => e = .returned (.bool true) ∧ w = w' := by
            intro w
            have h := within_any ⟨(srcText [97, 98] 0 1).toArray⟩ ⟨#[97, 98]⟩ w ?_ (by decide)
            · rw [show has [97, 98] (srcText [97, 98] 0 1) = true from ?_] at h
              · exact h
              · exact src_has [97, 98] 0 1 0 (by decide) (by decide)
            · exact src_le ⟨#[97, 98]⟩ 0 1 (by decide) (by decide) (by decide)
          have HW2 := Lib.hid hW2; clear hW2
          have hc2 := HC2.out w1 HB1.out
          generalize (⟨(srcText [97, 98] 0 1).toArray⟩ : ByteArray) = Z at *
          have HC3 := Lib.hid hc2; clear hc2
          go_wp2_with fail
          refine HC3.out.mono ?_
          rintro e w2 ⟨rfl, hb2⟩
          have HB2 := Lib.hid hb2; clear hb2
          go_wp2_with fail
          refine (HW2.out _).mono ?_
          rintro e w3 ⟨rfl, rfl⟩
          go_wp2_with fail
          go_ret
          exact ⟨rfl, HB1.out.trans (HB2.out.mono HB1.out.size)⟩
theorem walk (a0 : ByteArray) (a1 a2 : Int) (w0 : a0.size ≤ maxLen) (w1 : (Lit.int .i64 a1).wf = true) (w2 : (Lit.int .i64 a2).wf = true) (W : World) (hW : Tab W) :
    Calls Tryd.prog 3 #[.string a0, .int .i64 a1, .int .i64 a2] W fun e w' => e = .returned (.bool true) ∧ Below W.heap.size W w' := by
  by_cases h : a0.size ≤ 16384 ∧ 0 ≤ a1 ∧ a1 ≤ a2 ∧ a2 ≤ a0.size
  · obtain ⟨h1, h2, h3, h4⟩ := h
    obtain ⟨pos, rfl⟩ := Int.eq_ofNat_of_zero_le h2
    obtain ⟨fin, rfl⟩ := Int.eq_ofNat_of_zero_le (Int.le_trans h2 h3)
    cases ha : asc a0.data.toList with
    | true => exact walk_in a0 pos fin W hW h1 (by omega) (by omega) ha
    | false =>
      have hA := ascii_any a0 W w0
      rw [ha] at hA
      have HA := Lib.hid hA; clear hA ha
      have h3' : ¬ (fin < pos) := by omega
      have h4' : ¬ (a0.size < fin) := by omega
      clear h3 h4 w0 w1 w2 h2 hW
      go_enter Tryd.func3, Tryd.ntmps3
      go_wp2_with fail
      refine HA.out.mono ?_
      rintro e w1 ⟨rfl, rfl⟩
      go_wp2_with fail
      go_ret
      exact ⟨rfl, Below.refl _ _⟩
  · unfold maxLen at w0
    have hh : ¬ ((a0.size : Int) ≤ 16384 ∧ 0 ≤ a1 ∧ a1 ≤ a2 ∧ a2 ≤ (a0.size : Int)) := by omega
    clear h w1 w2 hW
    by_cases h0 : 2147483647 < (a0.size : Int)
    · go_enter Tryd.func3, Tryd.ntmps3
      go_wp2_with fail
      go_ret
      exact ⟨rfl, Below.refl _ _⟩
    by_cases h1 : 16384 < (a0.size : Int)
    · go_enter Tryd.func3, Tryd.ntmps3
      go_wp2_with fail
      go_ret
      exact ⟨rfl, Below.refl _ _⟩
    by_cases h2 : a1 < 0
    · go_enter Tryd.func3, Tryd.ntmps3
      go_wp2_with fail
      go_ret
      exact ⟨rfl, Below.refl _ _⟩
    by_cases h3 : a2 < a1
    · clear hh
      go_enter Tryd.func3, Tryd.ntmps3
      go_wp2_with fail
      go_ret
      exact ⟨rfl, Below.refl _ _⟩
    · have h4 : (a0.size : Int) < a2 := by omega
      clear hh
      go_enter Tryd.func3, Tryd.ntmps3
      go_wp2_with fail
      go_ret
      exact ⟨rfl, Below.refl _ _⟩

theorem own : ownKnob Tryd.prog.godebug = none := by kernel_rfl
theorem door_met (os : Os) (args : Array Value) : laidMetH Tryd.prog Rows.fnSourceKeepsRow.laid ((World.doorLaid Tryd.prog 400 os).forCall (fun _ _ => 0) ⟨#[], args, []⟩).memory :=
  laidMetH_of_parts3 (fuel := 8) (laidMet_of_run' 8 (by kernel_rfl) (by kernel_rfl)) (by kernel_rfl) (by kernel_rfl)
theorem gTabType : (Tryd.prog.globals[2]?).map (·.type) = some 87 := by kernel_rfl
theorem tab_of {W : World} (h : laidMetH Tryd.prog Rows.fnSourceKeepsRow.laid W) : Tab W := by
  rw [MakeChecks.laidMetH_plain _ _ _ (by kernel_rfl)] at h
  have h' : laidMet Tryd.prog (("internal/strconv.uint64pow10", Lib.tabData .u64 Lib.pow10Tab) :: [("bytes.ErrTooLarge", Rows.laid_bytes_ErrTooLarge)]) W := laidMet.tail (laidMet.tail h)
  exact Lib.tabIs_of_head glob_tab gTabType Tryd.underlying87 Tryd.underlying72 (by kernel_rfl) (by kernel_rfl) h'

set_option maxRecDepth 100000 in
theorem lifted (os : Os) (started : os.Started) (H : Type) (enc : TypeId × Value → H) :
    ReturnsInHanded {} Tryd.checked os 3 .any (fun w args => (Rows.fnSourceKeepsSpec.pre enc Tryd.prog Tryd.f3 [] false w args ∧ laidMetH Tryd.prog Rows.fnSourceKeepsRow.laid w) ∧ sizedMet enc Tryd.prog Tryd.f3 (OpenSpec.ofChange Rows.fnSourceKeepsSpec) false w args)
      (Rows.fnSourceKeepsSpec.post enc Tryd.prog Tryd.f3 false true false false) := by
  refine returnsInHanded_of_change_and (C := Tryd.checked) (X := fun w _ => laidMetH Tryd.prog Rows.fnSourceKeepsRow.laid w) (fun _ _ _ hh h => h.of_heap hh) own started (by kernel_rfl) Tryd.func3
    (ChangeSpec.witness_shaped (enc := enc) (C := Tryd.checked) (os := os) (X := fun w _ => laidMetH Tryd.prog Rows.fnSourceKeepsRow.laid w) false (World.doorLaid Tryd.prog 400 os) #[.string ByteArray.empty, .int .i64 0, .int .i64 0] 8 rfl (World.shaped_of_RefB (by kernel_rfl) (by kernel_rfl)) (by kernel_rfl) (by kernel_rfl) (by kernel_rfl) (door_met os _)) ?_
  intro W base args ds gs before hval0 hW _ _ hL _
  have hval : ∀ (j : Nat) t v, Tryd.f3.params[j]? = some t → args[j]? = some v → Value.okWide Tryd.prog W .any base t v := hval0
  have hW' := hW
  obtain ⟨p, q, hA0, hV, rfl, hfz, hnd⟩ := hW
  have hA : DataW.TrodAll enc Tryd.prog W 0 (fun _ => true) true Tryd.f3.params.toList args.toList ds p := hA0
  rw [Tryd.params3] at hA hval
  obtain ⟨v0, vs0, d0, ds0, p0, q0, hargs, rfl, rfl, h0, r0⟩ := trodAll_cons hA
  obtain ⟨v1, vs1, d1, ds1, p1, q1, rfl, rfl, rfl, h1, r1⟩ := trodAll_cons r0
  obtain ⟨v2, vs2, d2, ds2, p2, q2, rfl, rfl, rfl, h2, r2⟩ := trodAll_cons r1
  obtain ⟨rfl, rfl, rfl⟩ := trodAll_nil r2
  obtain rfl : args = #[v0, v1, v2] := by cases args; simp_all
  obtain ⟨rfl, rfl⟩ := trodVars_none hV
  obtain ⟨a0, rfl, rfl, rfl, w0⟩ := open_string Tryd.underlying9 (hval 0 9 v0 rfl rfl) h0
  obtain ⟨a1, rfl, rfl, rfl, w1⟩ := open_int Tryd.underlying3 (hval 1 3 v1 rfl rfl) h1
  obtain ⟨a2, rfl, rfl, rfl, w2⟩ := open_int Tryd.underlying3 (hval 2 3 v2 rfl rfl) h2
  clear hA0 hval0
  simp only [List.append_nil] at hW'
  refine (walk a0 a1 a2 w0 w1 w2 W (tab_of hL)).mono fun e W' ⟨he, hg⟩ => ?_
  subst he
  exact ⟨_, rfl, post_of_below (pa := []) (pv := []) hW' (fun _ _ _ => (trodAll_cons_mk (shut_bool Tryd.underlying4 _) trodAll_mk0)) (fun sp _ => (trodAll_cons_mk (shut_string Tryd.underlying9 w0) (trodAll_cons_mk (shut_int Tryd.underlying3 w1) (trodAll_cons_mk (shut_int Tryd.underlying3 w2) trodAll_mk0)))) (fun _ _ => rfl) rfl hg⟩

theorem said : Rows.FnSourceKeepsSaid :=
  OpenClaim.holds_of_wide 3 Tryd.f3 rfl rfl rfl rfl rfl rfl rfl ⟨rfl, rfl, rfl, rfl, rfl⟩ rfl rfl rfl rfl rfl (by kernel_rfl) Tryd.func3 (by kernel_rfl)
    (of_decide_eq_true (by kernel_rfl)) (by unfold Func.isWrapper; first | (rw [if_pos (by decide +kernel)]; kernel_rfl) | (rw [if_neg (by decide +kernel)]; exact ⟨rfl, rfl⟩))
    (fun os started H enc _ => lifted os started H enc)
theorem plain (f : FuncId) (fn : Func) (hf : Tryd.pinned.checked.prog.funcNamed "pub-dabber/laws.FnSourceKeeps" = some f) (hfn : Tryd.pinned.checked.prog.funcs[f]? = some fn) :
    false = Tryd.pinned.checked.prog.looks [] ∧ ∀ (j : Nat) t, fn.params[j]? = some t → Tryd.pinned.checked.prog.wantsStandIn t = false := by
  obtain rfl : f = 3 := Option.some.inj ((show Tryd.prog.funcNamed "pub-dabber/laws.FnSourceKeeps" = some 3 by kernel_rfl).symm.trans hf) |>.symm
  obtain rfl : fn = Tryd.f3 := (Option.some.inj (Tryd.func3.symm.trans hfn)).symm
  refine ⟨by kernel_rfl, fun j t ht => ?_⟩
  rw [Tryd.params3] at ht
  have hm : t ∈ [9, 3, 3] := by simpa using Array.mem_of_getElem? ht
  have hall : ([9, 3, 3].all fun u => !Tryd.prog.wantsStandIn u) = true := by kernel_rfl
  exact (show Tryd.prog.wantsStandIn t = false by simpa using List.all_eq_true.1 hall t hm)
/-- THE CARD -/
theorem proved : Rows.FnSourceKeepsCardSaid :=
  Claim7.holds_tied_plain_at .later [] _ _ _ _ said (fun _ h => by cases h) (by kernel_rfl) (fun _ h => by cases h) fnSourceKeeps_row_tie rfl ⟨rfl, rfl⟩ (by kernel_rfl) rfl plain (by kernel_rfl)
#print axioms proved
end Go.Proofs.YtcelnnjjakiehaaDoor.fnSourceKeeps
