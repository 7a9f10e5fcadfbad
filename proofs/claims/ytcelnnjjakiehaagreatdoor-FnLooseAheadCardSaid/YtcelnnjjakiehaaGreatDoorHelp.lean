/-
  The contracts of the laws' helpers that do not reach the lexer: brittle, padded, begins, ends, blank, word.
  The contracts of laws.blank and laws.gap.
-/
import Derived.Test.YtcelnnjjakiehaaGreatDoorRows
import Derived.Test.YtcelnnjjakiehaaGreatDoorModel
import Derived.Test.YtcelnnjjakiehaaGreatDoorShelf
import Derived.Lib.DecodeN
import Derived.Laws.RangeAny
namespace Go.Proofs.YtcelnnjjakiehaaGreatDoor
open Go.RowKit
set_option linter.unusedVariables false
set_option maxRecDepth 20000
set_option maxHeartbeats 1000000

/-- whether one of the last nine bytes is a backslash -/
def brit (l : List UInt8) : Bool := (l.drop (l.length - 9)).any fun c => decide (c.toNat = 92)
theorem brit_drop (l : List UInt8) (k : Nat) (h : k < l.length) : (l.drop k).any (fun c => decide (c.toNat = 92)) = (decide (byteAt l k = 92) || (l.drop (k + 1)).any fun c => decide (c.toNat = 92)) := by
  rw [List.drop_eq_getElem_cons h, List.any_cons]
  congr 1
  unfold byteAt
  rw [List.getD_eq_getElem?_getD, List.getElem?_eq_getElem h, Option.getD_some]
  apply decide_eq_decide.2
  omega
theorem brittle_any (s : ByteArray) (w : World) (hs : s.size ≤ 4294967296) :
    Calls Tryz.prog 10 #[.string s] w fun e w' => e = .returned (.bool (brit s.data.toList)) ∧ w = w' := by
  have hS := ba_toList_length s
  have hb := byteAt_get s
  have hd := brit_drop s.data.toList
  rw [hS] at hd
  have hbr : brit s.data.toList = (s.data.toList.drop (s.size - 9)).any fun c => decide (c.toNat = 92) := by unfold brit; rw [hS]
  have hnil : (s.data.toList.drop s.size).any (fun c => decide (c.toNat = 92)) = false := by rw [List.drop_eq_nil_of_le (by rw [hS]; exact Nat.le_refl _)]; rfl
  have HB := Lib.hid hb; have HD := Lib.hid hd; have HR := Lib.hid hbr; have HN := Lib.hid hnil
  clear hb hd hbr hnil hS
  by_cases h9 : s.size ≤ 9
  · have hmax : max (0 : Int) ((s.size : Int) - 9) = 0 := by omega
    go_enter Tryz.func10, Tryz.ntmps10
    go_wp2_with fail
    go_loop [3] (fun i => ∃ k : Nat, k ≤ s.size ∧ i = .int .i64 k ∧ brit s.data.toList = (s.data.toList.drop k).any fun c => decide (c.toNat = 92)) (fun i => s.size - (intOf i).toNat)
    case atStart => exact ⟨s.size - 9, by omega, by rw [show s.size - 9 = 0 from by omega]; rfl, HR.out⟩
    case round =>
      obtain ⟨k, hk, rfl, hA⟩ := hrel
      have HA := Lib.hid hA; clear hA
      by_cases hlt : k < s.size
      · by_cases hc : (s[k].toNat : Int) = 92
        · go_wp2_with fail
          go_ret
          exact ⟨ret_bool (by rw [HA.out, HD.out k hlt, ← HB.out k hlt, hc]; simp), rfl⟩
        · go_wp2_with fail
          go_round
          case rel => exact ⟨k + 1, by omega, by go_num, by rw [HA.out, HD.out k hlt, ← HB.out k hlt, decide_eq_false hc, Bool.false_or]⟩
          case measure => simp [intOf]; omega
      · have e : k = s.size := by omega
        go_wp2_with fail
        go_ret
        exact ⟨ret_bool (by rw [HA.out, e]; exact HN.out.symm), rfl⟩
  · have hmax : max (0 : Int) ((s.size : Int) - 9) = (s.size : Int) - 9 := by omega
    go_enter Tryz.func10, Tryz.ntmps10
    go_wp2_with fail
    go_loop [3] (fun i => ∃ k : Nat, k ≤ s.size ∧ i = .int .i64 k ∧ brit s.data.toList = (s.data.toList.drop k).any fun c => decide (c.toNat = 92)) (fun i => s.size - (intOf i).toNat)
    case atStart => exact ⟨s.size - 9, by omega, by rw [show ((s.size - 9 : Nat) : Int) = (s.size : Int) - 9 from by omega], HR.out⟩
    case round =>
      obtain ⟨k, hk, rfl, hA⟩ := hrel
      have HA := Lib.hid hA; clear hA
      by_cases hlt : k < s.size
      · by_cases hc : (s[k].toNat : Int) = 92
        · go_wp2_with fail
          go_ret
          exact ⟨ret_bool (by rw [HA.out, HD.out k hlt, ← HB.out k hlt, hc]; simp), rfl⟩
        · go_wp2_with fail
          go_round
          case rel => exact ⟨k + 1, by omega, by go_num, by rw [HA.out, HD.out k hlt, ← HB.out k hlt, decide_eq_false hc, Bool.false_or]⟩
          case measure => simp [intOf]; omega
      · have e : k = s.size := by omega
        go_wp2_with fail
        go_ret
        exact ⟨ret_bool (by rw [HA.out, e]; exact HN.out.symm), rfl⟩
/-- a text, with blanks at its end if it is brittle -/
def pad (l : List UInt8) : List UInt8 := if brit l then l ++ [32, 32, 32, 32, 32, 32, 32, 32, 32] else l
theorem padded_any (s : ByteArray) (w : World) (hs : s.size ≤ 1048576) :
    Calls Tryz.prog 40 #[.string s] w fun e w' => e = .returned (.string ⟨(pad s.data.toList).toArray⟩) ∧ w = w' := by
  have hB := brittle_any s w (by omega)
  have hp : pad s.data.toList = if brit s.data.toList then s.data.toList ++ [32, 32, 32, 32, 32, 32, 32, 32, 32] else s.data.toList := rfl
  generalize brit s.data.toList = b at *
  have HB := Lib.hid hB; have HP := Lib.hid hp; clear hB hp
  cases b with
  | true =>
    go_enter Tryz.func40, Tryz.ntmps40
    go_wp2_with fail
    refine HB.out.mono ?_
    rintro e w1 ⟨rfl, rfl⟩
    go_wp2_with fail
    go_ret
    refine ⟨ret_str (ba_ext ?_), rfl⟩
    rw [HP.out]
    simp
  | false =>
    go_enter Tryz.func40, Tryz.ntmps40
    go_wp2_with fail
    refine HB.out.mono ?_
    rintro e w1 ⟨rfl, rfl⟩
    go_wp2_with fail
    go_ret
    refine ⟨ret_str (ba_ext ?_), rfl⟩
    rw [HP.out]
    simp
theorem pre_eq (s p : ByteArray) : ((s.extract 0 p.size).toList == p.toList) = p.data.toList.isPrefixOf s.data.toList := by
  rw [Lib.toList_data, Lib.toList_data, Lib.extract_data, List.drop_zero, Nat.sub_zero]
  rw [Bool.eq_iff_iff, beq_iff_eq, List.isPrefixOf_iff_prefix, List.prefix_iff_eq_take, ba_toList_length]
  exact eq_comm
theorem suf_eq (s p : ByteArray) (h : p.size ≤ s.size) : ((s.extract (s.size - p.size) s.size).toList == p.toList) = p.data.toList.isSuffixOf s.data.toList := by
  rw [Lib.toList_data, Lib.toList_data, Lib.extract_data]
  rw [Bool.eq_iff_iff, beq_iff_eq, List.isSuffixOf_iff_suffix, List.suffix_iff_eq_drop, ba_toList_length, ba_toList_length]
  rw [List.take_of_length_le (by rw [List.length_drop, ba_toList_length]; exact Nat.le_refl _)]
  exact eq_comm
theorem begins_any (s p : ByteArray) (w : World) (hs : s.size ≤ 4294967296) (hp : p.size ≤ 4294967296) :
    Calls Tryz.prog 15 #[.string s, .string p] w fun e w' => e = .returned (.bool (p.data.toList.isPrefixOf s.data.toList)) ∧ w = w' := by
  have he := pre_eq s p
  by_cases h : p.size ≤ s.size
  · generalize p.data.toList.isPrefixOf s.data.toList = b at *
    have h2 : decide ((s.size : Int) ≥ (p.size : Int)) = true := by simp; omega
    go_enter Tryz.func15, Tryz.ntmps15
    go_wp2_with fail
    go_ret
    first | exact ⟨rfl, rfl⟩ | exact ⟨ret_bool he, rfl⟩
  · have hf : p.data.toList.isPrefixOf s.data.toList = false := by
      cases hb : p.data.toList.isPrefixOf s.data.toList with
      | false => rfl
      | true => have := (List.isPrefixOf_iff_prefix.1 hb).length_le; rw [ba_toList_length, ba_toList_length] at this; omega
    rw [hf]
    clear he hf
    go_enter Tryz.func15, Tryz.ntmps15
    go_wp2_with fail
    go_ret
    exact ⟨rfl, rfl⟩
theorem ends_any (s p : ByteArray) (w : World) (hs : s.size ≤ 4294967296) (hp : p.size ≤ 4294967296) :
    Calls Tryz.prog 16 #[.string s, .string p] w fun e w' => e = .returned (.bool (p.data.toList.isSuffixOf s.data.toList)) ∧ w = w' := by
  by_cases h : p.size ≤ s.size
  · have he := suf_eq s p h
    generalize p.data.toList.isSuffixOf s.data.toList = b at *
    have hw : IntKind.i64.wrap ((s.size : Int) - (p.size : Int)) = ((s.size - p.size : Nat) : Int) := by rw [show (s.size : Int) - (p.size : Int) = ((s.size - p.size : Nat) : Int) from by omega]; exact IntWalk.i64_in _ (by omega)
    go_enter Tryz.func16, Tryz.ntmps16
    go_wp2_with fail
    go_ret
    first | exact ⟨rfl, rfl⟩ | exact ⟨ret_bool he, rfl⟩
  · have hf : p.data.toList.isSuffixOf s.data.toList = false := by
      cases hb : p.data.toList.isSuffixOf s.data.toList with
      | false => rfl
      | true => have := (List.isSuffixOf_iff_suffix.1 hb).length_le; rw [ba_toList_length, ba_toList_length] at this; omega
    rw [hf]
    clear hf
    go_enter Tryz.func16, Tryz.ntmps16
    go_wp2_with fail
    go_ret
    exact ⟨rfl, rfl⟩
theorem letter_any (c : Int) (w : World) :
    Calls Tryz.prog 34 #[.int .u8 c] w fun e w' => e = .returned (.bool (idStart c)) ∧ w = w' := by
  go_enter Tryz.func34, Tryz.ntmps34
  go_wp2
  all_goals
    go_ret
    refine ⟨ret_bool ?_, rfl⟩
    unfold idStart
    rw [Bool.eq_iff_iff]
    simp
    omega
theorem digit_any (c : Int) (w : World) :
    Calls Tryz.prog 45 #[.int .u8 c] w fun e w' => e = .returned (.bool (dig c)) ∧ w = w' := by
  go_enter Tryz.func45, Tryz.ntmps45
  go_wp2
  all_goals
    go_ret
    refine ⟨ret_bool ?_, rfl⟩
    unfold dig
    rw [Bool.eq_iff_iff]
    simp
    omega
theorem idPart_or (c : Int) : idPart c = (idStart c || dig c) := by
  unfold idPart idStart dig
  rw [Bool.eq_iff_iff]
  simp
  omega
theorem wordy_any (c : Int) (w : World) :
    Calls Tryz.prog 35 #[.int .u8 c] w fun e w' => e = .returned (.bool (idPart c)) ∧ w = w' := by
  rw [idPart_or]
  have HL := Lib.hid (letter_any c w); have HD := Lib.hid (digit_any c w)
  cases hl : idStart c with
  | true =>
    rw [hl] at HL
    go_enter Tryz.func35, Tryz.ntmps35
    go_wp2_with fail
    refine HL.out.mono ?_
    rintro e w1 ⟨rfl, rfl⟩
    go_wp2_with fail
    go_ret
    exact ⟨rfl, rfl⟩
  | false =>
    rw [hl] at HL
    generalize dig c = b at *
    go_enter Tryz.func35, Tryz.ntmps35
    go_wp2_with fail
    refine HL.out.mono ?_
    rintro e w1 ⟨rfl, rfl⟩
    go_wp2_with fail
    refine HD.out.mono ?_
    rintro e w1 ⟨rfl, rfl⟩
    go_wp2_with fail
    go_ret
    exact ⟨rfl, rfl⟩
/-- a letter or _ with letters, digits and _ behind it -/
def wordL : List UInt8 → Bool
  | [] => false
  | c :: t => idStart (c.toNat : Int) && t.all fun b => idPart (b.toNat : Int)
theorem wordL_drop (l : List UInt8) (k : Nat) (h : k < l.length) : (l.drop k).all (fun b => idPart (b.toNat : Int)) = (idPart (byteAt l k) && (l.drop (k + 1)).all fun b => idPart (b.toNat : Int)) := by
  rw [List.drop_eq_getElem_cons h, List.all_cons]
  congr 1
  unfold byteAt
  rw [List.getD_eq_getElem?_getD, List.getElem?_eq_getElem h, Option.getD_some]
theorem word_any (s : ByteArray) (w : World) (hs : s.size ≤ 4294967296) :
    Calls Tryz.prog 21 #[.string s] w fun e w' => e = .returned (.bool (wordL s.data.toList)) ∧ w = w' := by
  by_cases h0 : s.size = 0
  · have e : s = ⟨#[]⟩ := by
      apply ba_ext
      exact List.eq_nil_of_length_eq_zero (by rw [ba_toList_length]; exact h0)
    subst e
    go_enter Tryz.func21, Tryz.ntmps21
    go_wp2_with fail
    go_ret
    exact ⟨rfl, rfl⟩
  · have hne : (s.toList == []) = false := by
      rw [Lib.toList_data, beq_eq_false_iff_ne]
      intro e
      have h1 : s.data.toList.length = 0 := by rw [e]; rfl
      rw [ba_toList_length] at h1
      exact h0 h1
    have hpos : 0 < s.size := by omega
    have hL := fun c w1 => letter_any c w1
    have hW := fun c w1 => wordy_any c w1
    have hw : wordL s.data.toList = (idStart (byteAt s.data.toList 0) && (s.data.toList.drop 1).all fun b => idPart (b.toNat : Int)) := by
      have hl := ba_toList_length s
      cases hx : s.data.toList with
      | nil => rw [hx] at hl; simp at hl; omega
      | cons c t => rfl
    have hd := wordL_drop s.data.toList
    rw [ba_toList_length] at hd
    have hb := byteAt_get s
    have hnil : (s.data.toList.drop s.size).all (fun b => idPart (b.toNat : Int)) = true := by rw [List.drop_eq_nil_of_le (by rw [ba_toList_length]; exact Nat.le_refl _)]; rfl
    have HW := Lib.hid hW; have HV := Lib.hid hw; have HD := Lib.hid hd; have HB := Lib.hid hb; have HN := Lib.hid hnil
    have hl0 := hL (byteAt s.data.toList 0) w
    have hb0 := hb 0 hpos
    clear hW hw hd hb hnil hL
    cases hc : idStart (byteAt s.data.toList 0) with
    | false =>
      rw [hc] at hl0
      rw [HV.out, hc]
      rw [← hb0] at hl0
      have HL := Lib.hid hl0
      clear hl0 hb0 hc
      go_enter Tryz.func21, Tryz.ntmps21
      go_wp2_with fail
      refine HL.out.mono ?_
      rintro e w1 ⟨rfl, rfl⟩
      go_wp2_with fail
      go_ret
      exact ⟨rfl, rfl⟩
    | true =>
      rw [hc] at hl0
      rw [← hb0] at hl0
      have HL := Lib.hid hl0
      have hv : wordL s.data.toList = (s.data.toList.drop 1).all fun b => idPart (b.toNat : Int) := by rw [HV.out, hc]; rfl
      have HV2 := Lib.hid hv
      clear hl0 hb0 hc hv HV
      go_enter Tryz.func21, Tryz.ntmps21
      go_wp2_with fail
      refine HL.out.mono ?_
      rintro e w1 ⟨rfl, rfl⟩
      go_wp2_with fail
      go_loop [3] (fun i => ∃ k : Nat, k ≤ s.size ∧ 1 ≤ k ∧ i = .int .i64 k ∧ wordL s.data.toList = (s.data.toList.drop k).all fun b => idPart (b.toNat : Int)) (fun i => s.size - (intOf i).toNat)
      case atStart => exact ⟨1, by omega, Nat.le_refl _, rfl, HV2.out⟩
      case round =>
        obtain ⟨k, hk, hk1, rfl, hA⟩ := hrel
        have HA := Lib.hid hA; clear hA
        by_cases hlt : k < s.size
        · have hdk := HD.out k hlt
          have hwk := HW.out (byteAt s.data.toList k) w
          rw [← HB.out k hlt] at hwk hdk
          generalize idPart ((s[k].toNat : Nat) : Int) = b at *
          have HWK := Lib.hid hwk; have HDK := Lib.hid hdk; clear hwk hdk
          cases b with
          | false =>
            go_wp2_with fail
            refine HWK.out.mono ?_
            rintro e w1 ⟨rfl, rfl⟩
            go_wp2_with fail
            go_ret
            exact ⟨ret_bool (by rw [HA.out, HDK.out]; rfl), rfl⟩
          | true =>
            go_wp2_with fail
            refine HWK.out.mono ?_
            rintro e w1 ⟨rfl, rfl⟩
            go_wp2_with fail
            go_round
            case rel => exact ⟨k + 1, by omega, by omega, by go_num, by rw [HA.out, HDK.out]; rfl⟩
            case measure => simp [intOf]; omega
        · have e : k = s.size := by omega
          go_wp2_with fail
          go_ret
          exact ⟨ret_bool (by rw [HA.out, e]; exact HN.out.symm), rfl⟩
end Go.Proofs.YtcelnnjjakiehaaGreatDoor
namespace Go.Proofs.YtcelnnjjakiehaaGreatDoor
open Go.RowKit
set_option linter.unusedVariables false
set_option maxRecDepth 1000000
set_option maxHeartbeats 2000000

theorem get_drop (s : ByteArray) (p k : Nat) : (⟨(s.data.toList.drop p).toArray⟩ : ByteArray).get! k = s.get! (p + k) := by
  have h1 : ∀ (b : ByteArray) (i : Nat), b.get! i = (b.data.toList[i]?).getD 0 := by
    intro b i
    show b.data[i]! = _
    rw [Array.getElem!_eq_getD, Array.getD_eq_getD_getElem?, Array.getElem?_toList]
    rfl
  rw [h1, h1]
  simp only [List.getElem?_drop]
theorem dec_at (s : ByteArray) (p : Nat) : Utf8.decode s p = dec (s.data.toList.drop p) := by
  unfold dec
  rw [Lib.decode_at, Lib.decode_at, get_drop, get_drop, get_drop, get_drop]
  have e : (⟨(s.data.toList.drop p).toArray⟩ : ByteArray).size = s.size - p := by
    show (s.data.toList.drop p).toArray.size = _
    rw [List.size_toArray, List.length_drop, ba_toList_length]
  rw [e]
  rfl
/-- whether a text is made of blanks alone -/
def blankL (l : List UInt8) : Bool := decide (spLen l = l.length)
theorem blank_step (l : List UInt8) (h : l ≠ []) (hs : Lib.isSpaceR (dec l).1 = true) : blankL l = blankL (l.drop (dec l).2) := by
  have h1 : spOne l = (dec l).2 := by unfold spOne; rw [if_neg h, if_pos hs]
  have h2 := dec_pos l
  have h3 := dec_le l h
  have h4 : spLen l = spOne l + spLen (l.drop (spOne l)) := by
    rw [spLen, dif_neg (by omega)]
  unfold blankL
  rw [h4, h1, List.length_drop]
  apply decide_eq_decide.2
  omega
theorem blank_stop (l : List UInt8) (h : l ≠ []) (hs : Lib.isSpaceR (dec l).1 = false) : blankL l = false := by
  have h1 : spOne l = 0 := by unfold spOne; rw [if_neg h, hs, if_neg (by decide)]
  have h4 : spLen l = 0 := by rw [spLen, dif_pos h1]
  have := List.length_pos_iff.2 h
  unfold blankL
  rw [h4]
  exact decide_eq_false (by omega)
theorem blank_any (s : ByteArray) (w : World) (hs : s.size ≤ 4294967296) :
    Calls Tryz.prog 14 #[.string s] w fun e w' => e = .returned (.bool (blankL s.data.toList)) ∧ Below w.heap.size w w' := by
  have hbel : ∀ p, Below w.heap.size w (w.iter s p) := fun p => (Below.refl _ _).alloc (Nat.le_refl _) _
  have HBel := Lib.hid hbel; clear hbel
  have hst : ∀ p, p < s.size → s.data.toList.drop p ≠ [] := by
    intro p hp e
    have := congrArg List.length e
    rw [List.length_drop, ba_toList_length] at this
    simp at this; omega
  have HS : Hid (∀ p, p < s.size → (Lib.isSpaceR (Utf8.decode s p).1 = true → blankL (s.data.toList.drop p) = blankL (s.data.toList.drop (p + (Utf8.decode s p).2)) ∧ p + (Utf8.decode s p).2 ≤ s.size) ∧ (Lib.isSpaceR (Utf8.decode s p).1 = false → blankL (s.data.toList.drop p) = false) ∧ 1 ≤ (Utf8.decode s p).2) := by
    refine Lib.hid (fun p hp => ?_)
    rw [dec_at]
    refine ⟨fun h => ⟨?_, ?_⟩, fun h => blank_stop _ (hst p hp) h, dec_pos _⟩
    · rw [blank_step _ (hst p hp) h, List.drop_drop]
    · have := dec_le _ (hst p hp)
      rw [List.length_drop, ba_toList_length] at this
      omega
  have HN : Hid (∀ p, ¬ p < s.size → blankL (s.data.toList.drop p) = true) := Lib.hid (fun p hp => by
    rw [List.drop_eq_nil_of_le (by rw [ba_toList_length]; omega)]
    unfold blankL
    exact decide_eq_true (by rw [spLen]; simp [spOne]))
  clear hst
  go_enter Tryz.func14, Tryz.ntmps14
  go_wp2_with fail
  go_loopw [] (fun w' => ∃ p : Nat, w' = w.iter s p ∧ p ≤ s.size ∧ blankL s.data.toList = blankL (s.data.toList.drop p)) (fun w' => s.size - w'.iterPos w.heap.size)
  case atStart => exact ⟨0, rfl, Nat.zero_le _, rfl⟩
  case round =>
    obtain ⟨p, rfl, hp, hb⟩ := hrel
    have HB := Lib.hid hb; clear hb
    by_cases hlt : p < s.size
    · have hnx : ∀ ty, (Instr.next (.pointer (some ⟨w.heap.size, 0, none⟩)) true ty).run Tryz.prog (w.iter s p) = _ := fun ty => run_next_any w s p ty hlt
      obtain ⟨h1, h2, h3⟩ := HS.out p hlt
      have hle := decode_le s p
      generalize (Utf8.decode s p).1 = rn at *
      generalize (Utf8.decode s p).2 = wd at *
      have H1 := Lib.hid h1; have H2 := Lib.hid h2; clear h1 h2
      cases hsp : Lib.isSpaceR rn with
      | true =>
        obtain ⟨e1, e2⟩ := H1.out hsp
        have E1 := Lib.hid e1; clear e1 H1 H2
        unfold Lib.isSpaceR at hsp
        simp only [Bool.or_eq_true, Bool.and_eq_true, decide_eq_true_eq, beq_iff_eq] at hsp
        go_wp2_with fail
        all_goals first
          | (go_roundw
             case rel => exact ⟨p + wd, rfl, e2, by rw [HB.out, E1.out]⟩
             case measure => simp; omega)
          | (exfalso; omega)
          | (exfalso; simp_all; done)
          | (exfalso; simp_all; omega)
      | false =>
        have e1 := H2.out hsp
        have E1 := Lib.hid e1; clear e1 H1 H2
        unfold Lib.isSpaceR at hsp
        simp only [Bool.or_eq_false_iff, Bool.and_eq_false_iff, decide_eq_false_iff_not, beq_eq_false_iff_ne] at hsp
        go_wp2_with fail
        all_goals first
          | (go_ret
             exact ⟨ret_bool (by rw [HB.out, E1.out]), HBel.out _⟩)
          | (exfalso; omega)
          | (exfalso; simp_all; done)
          | (exfalso; simp_all; omega)
    · have hnx : ∀ ty, (Instr.next (.pointer (some ⟨w.heap.size, 0, none⟩)) true ty).run Tryz.prog (w.iter s p) = _ := fun ty => run_next_end w s p ty hlt
      go_wp2_with fail
      go_ret
      exact ⟨ret_bool (by rw [HB.out, HN.out p hlt]), HBel.out _⟩
end Go.Proofs.YtcelnnjjakiehaaGreatDoor
