/-
  strconv.ParseUint at digits of base 16 and 8: its contract, where the value fits.
-/
import Derived.Test.YtcelnnjjakiehaaGreatDoorLex2
namespace Go.Proofs.YtcelnnjjakiehaaGreatDoor
open Go.RowKit
set_option linter.unusedVariables false
set_option maxRecDepth 20000
set_option maxHeartbeats 1000000

theorem byteAt_getL (l : List UInt8) (k : Nat) (h : k < l.length) : byteAt l k = (l[k].toNat : Int) := by
  simp only [byteAt, List.getD, List.getElem?_eq_getElem h, Option.getD_some]
/-- the value of a digit -/
def digV (c : Int) : Nat := if c ≤ 57 then (c - 48).toNat else if 97 ≤ c then (c - 87).toNat else (c - 55).toNat
/-- the value of digits -/
def valF (b : Nat) (a : Nat) : List UInt8 → Nat
  | [] => a
  | c :: t => valF b (a * b + digV (c.toNat : Int)) t
def valL (b : Nat) (l : List UInt8) : Nat := valF b 0 l
theorem valF_snoc (b : Nat) (c : UInt8) : ∀ (l : List UInt8) (a : Nat), valF b a (l ++ [c]) = valF b a l * b + digV (c.toNat : Int) := by
  intro l
  induction l with
  | nil => intro a; rfl
  | cons d t ih => intro a; exact ih _
theorem valF_le (b : Nat) (hb : 0 < b) : ∀ (l : List UInt8) (a : Nat), a ≤ valF b a l := by
  intro l
  induction l with
  | nil => intro a; exact Nat.le_refl _
  | cons d t ih =>
    intro a
    refine Nat.le_trans ?_ (ih _)
    exact Nat.le_trans (Nat.le_mul_of_pos_right a hb) (Nat.le_add_right _ _)
theorem valF_app (b : Nat) : ∀ (l m : List UInt8) (a : Nat), valF b a (l ++ m) = valF b (valF b a l) m := by
  intro l
  induction l with
  | nil => intro m a; rfl
  | cons d t ih => intro m a; exact ih _ _
theorem valL_take (b : Nat) (hb : 0 < b) (l : List UInt8) (k : Nat) : valL b (l.take k) ≤ valL b l := by
  have := valF_app b (l.take k) (l.drop k) 0
  rw [List.take_append_drop] at this
  unfold valL
  rw [this]
  exact valF_le b hb _ _
/-- whether a byte is a digit of base 16, of base 8 -/
def isDig (b : Nat) (c : Int) : Bool := if b = 16 then hexd c else oct c
theorem low_or (c : Int) (h : (97 ≤ c ∧ c ≤ 102) ∨ (65 ≤ c ∧ c ≤ 70)) : bits .or .u8 c 32 = if 97 ≤ c then c else c + 32 := by
  have : c = 97 ∨ c = 98 ∨ c = 99 ∨ c = 100 ∨ c = 101 ∨ c = 102 ∨ c = 65 ∨ c = 66 ∨ c = 67 ∨ c = 68 ∨ c = 69 ∨ c = 70 := by omega
  rcases this with rfl | rfl | rfl | rfl | rfl | rfl | rfl | rfl | rfl | rfl | rfl | rfl <;> decide

theorem pu16_8 (t : ByteArray) (h0 : t.size ≠ 0) (h1 : t.size ≤ 100) (hd : ∀ k, k < t.size → isDig 16 (byteAt t.data.toList k) = true) (hv : valL 16 t.data.toList ≤ 255) (w : World) :
    Calls Tryz.prog 94 #[.string t, .int .i64 16, .int .i64 8] w fun e w' => e = .returned (.tuple #[.int .u64 (valL 16 t.data.toList), .nilIface]) ∧ Below w.heap.size w w' := by
  have hne : (t.toList == (⟨#[]⟩ : ByteArray).toList) = false := by
    rw [beq_eq_false_iff_ne, Lib.toList_data, Lib.toList_data]
    intro e
    apply h0
    rw [← ba_toList_length, e]; rfl
  have hemp : t.toList.isEmpty = false := by
    cases hh : t.toList with
    | nil => rw [hh, Lib.toList_data] at hne; exact absurd hne (by decide)
    | cons c r => rfl
  have hcv := Lib.run_convert_string_bytes (P := Tryz.prog) w 9 33 5 t Tryz.underlying9 Tryz.underlying33 Tryz.underlying5
  have hown0 := own_bytesWorld w w.heap.size 5 t (Nat.le_refl _) (by unfold maxLen; omega)
  have hb0 := below_bytesWorld w 5 t
  have HD := Lib.hid hd; have HV := Lib.hid hv; clear hd hv hne
  have hlow := Tryz.internal_strconv_lower
  have HL := Lib.hid hlow; clear hlow
  go_enter Tryz.func94, Tryz.ntmps94
  go_wp2_with fail
  clear hcv
  generalize Lib.bytesWorld w 5 t = w1 at *
  generalize hcap : grownCap w t.size 0 5 = cap at *
  clear hcap
  go_loop [12, 13, 101] (fun s12 s13 s101 => s12 = .bool false ∧ ∃ k : Nat, k ≤ t.size ∧ s101 = .int .i64 k ∧ s13 = .int .u64 (valL 16 (t.data.toList.take k))) (fun s12 s13 s101 => t.size - (intOf s101).toNat)
  case atStart => exact ⟨rfl, 0, Nat.zero_le _, rfl, rfl⟩
  case round =>
    obtain ⟨rfl, k, hk, rfl, rfl⟩ := hrel
    by_cases hlt : k < t.size
    · have hc := hown0.cellAt k (by omega)
      have hkl : k < t.data.toList.length := by rw [ba_toList_length]; exact hlt
      have hgk : (bv t.data.toList)[k]? = some (.int .u8 (byteAt t.data.toList k)) := by
        unfold bv
        rw [List.getElem?_map, List.getElem?_eq_getElem hkl, byteAt_getL _ _ hkl]; rfl
      rw [hgk] at hc
      have hdk := HD.out k hlt
      have hm1 := valL_take 16 (by decide) t.data.toList k
      have hm2 := valL_take 16 (by decide) t.data.toList (k + 1)
      have hsn : valL 16 (t.data.toList.take (k + 1)) = valL 16 (t.data.toList.take k) * 16 + digV (byteAt t.data.toList k) := by
        rw [take_snoc t k hlt, valL, valF_snoc]
        congr 2
        exact byteAt_get t k hlt
      have hvv := HV.out
      have HSN := Lib.hid hsn
      have hbd := byteAt_bd t.data.toList k
      generalize byteAt t.data.toList k = c at *
      generalize valL 16 (t.data.toList.take k) = n at *
      generalize hmv : valL 16 (t.data.toList.take (k + 1)) = m at *
      have HMV := Lib.hid hmv
      clear hsn hmv
      have hdc : (48 ≤ c ∧ c ≤ 57) ∨ (97 ≤ c ∧ c ≤ 102) ∨ (65 ≤ c ∧ c ≤ 70) := by
        simp [isDig, hexd] at hdk; omega
      clear hdk
      have hn : n ≤ 255 := by omega
      rcases hdc with h | h | h
      · have hdv : (digV c : Int) = c - 48 := by unfold digV; rw [if_pos (by omega)]; omega
        have hsnn := HSN.out
        have hN0 : (0 : Int) ≤ (n : Int) := by omega
        have hN1 : (n : Int) ≤ 255 := by omega
        have hN2 : (n : Int) * 16 + (c - 48) ≤ 255 := by omega
        have hN3 : (m : Int) = (n : Int) * 16 + (c - 48) := by omega
        have HM := Lib.hid hN3
        clear hN3 hm1 hm2 hn
        generalize (n : Int) = N at *
        go_wp2_with fail
        exact ⟨⟨rfl, k + 1, by omega, by rw [show ((k + 1 : Nat) : Int) = (k : Int) + 1 from by omega], by rw [HMV.out, HM.out]⟩, by simp [intOf]; omega⟩
      · have hdv : (digV c : Int) = c - 87 := by unfold digV; rw [if_neg (by omega)]; rw [if_pos (by omega)]; omega
        have hsnn := HSN.out
        have hlw := low_or c (.inl h)
        rw [if_pos (by omega)] at hlw
        have HLW : Hid (∀ w, Calls Tryz.prog 103 #[.int .u8 c] w fun e w' => e = .returned (.int .u8 (c)) ∧ w' = w) := Lib.hid (fun w => by have := HL.out c w; rw [hlw] at this; exact this)
        clear hlw
        have hN0 : (0 : Int) ≤ (n : Int) := by omega
        have hN1 : (n : Int) ≤ 255 := by omega
        have hN2 : (n : Int) * 16 + (c - 87) ≤ 255 := by omega
        have hN3 : (m : Int) = (n : Int) * 16 + (c - 87) := by omega
        have HM := Lib.hid hN3
        clear hN3 hm1 hm2 hn hsnn hdv
        generalize (n : Int) = N at *
        go_wp2_with fail
        refine (HLW.out _).mono ?_
        rintro e w2 ⟨rfl, rfl⟩
        go_wp2_with fail
        refine (HLW.out _).mono ?_
        rintro e w2 ⟨rfl, rfl⟩
        go_wp2_with fail
        refine (HLW.out _).mono ?_
        rintro e w2 ⟨rfl, rfl⟩
        go_wp2_with fail
        have hq : (c - 97 + 10 : Int) = c - 87 := by omega
        exact ⟨⟨rfl, k + 1, by omega, by rw [show ((k + 1 : Nat) : Int) = (k : Int) + 1 from by omega], by rw [HMV.out, HM.out, ← hq]⟩, by simp [intOf]; omega⟩
      · have hdv : (digV c : Int) = c - 55 := by unfold digV; rw [if_neg (by omega)]; rw [if_neg (by omega)]; omega
        have hsnn := HSN.out
        have hlw := low_or c (.inr h)
        rw [if_neg (by omega)] at hlw
        have HLW : Hid (∀ w, Calls Tryz.prog 103 #[.int .u8 c] w fun e w' => e = .returned (.int .u8 (c + 32)) ∧ w' = w) := Lib.hid (fun w => by have := HL.out c w; rw [hlw] at this; exact this)
        clear hlw
        have hN0 : (0 : Int) ≤ (n : Int) := by omega
        have hN1 : (n : Int) ≤ 255 := by omega
        have hN2 : (n : Int) * 16 + (c - 55) ≤ 255 := by omega
        have hN3 : (m : Int) = (n : Int) * 16 + (c - 55) := by omega
        have HM := Lib.hid hN3
        clear hN3 hm1 hm2 hn hsnn hdv
        generalize (n : Int) = N at *
        go_wp2_with fail
        refine (HLW.out _).mono ?_
        rintro e w2 ⟨rfl, rfl⟩
        go_wp2_with fail
        refine (HLW.out _).mono ?_
        rintro e w2 ⟨rfl, rfl⟩
        go_wp2_with fail
        refine (HLW.out _).mono ?_
        rintro e w2 ⟨rfl, rfl⟩
        go_wp2_with fail
        have hq : (c + 32 - 97 + 10 : Int) = c - 55 := by omega
        exact ⟨⟨rfl, k + 1, by omega, by rw [show ((k + 1 : Nat) : Int) = (k : Int) + 1 from by omega], by rw [HMV.out, HM.out, ← hq]⟩, by simp [intOf]; omega⟩
    · go_wp2_with fail
      have htk : t.data.toList.take k = t.data.toList := List.take_of_length_le (by rw [ba_toList_length]; omega)
      exact bodyPost_ret (v := .tuple #[.int .u64 (valL 16 t.data.toList), .nilIface]) (by simp [results, Tryz.results94, go_sem, htk]) rfl ⟨rfl, hb0⟩

theorem pu16_32 (t : ByteArray) (h0 : t.size ≠ 0) (h1 : t.size ≤ 100) (hd : ∀ k, k < t.size → isDig 16 (byteAt t.data.toList k) = true) (hv : valL 16 t.data.toList ≤ 4294967295) (w : World) :
    Calls Tryz.prog 94 #[.string t, .int .i64 16, .int .i64 32] w fun e w' => e = .returned (.tuple #[.int .u64 (valL 16 t.data.toList), .nilIface]) ∧ Below w.heap.size w w' := by
  have hne : (t.toList == (⟨#[]⟩ : ByteArray).toList) = false := by
    rw [beq_eq_false_iff_ne, Lib.toList_data, Lib.toList_data]
    intro e
    apply h0
    rw [← ba_toList_length, e]; rfl
  have hemp : t.toList.isEmpty = false := by
    cases hh : t.toList with
    | nil => rw [hh, Lib.toList_data] at hne; exact absurd hne (by decide)
    | cons c r => rfl
  have hcv := Lib.run_convert_string_bytes (P := Tryz.prog) w 9 33 5 t Tryz.underlying9 Tryz.underlying33 Tryz.underlying5
  have hown0 := own_bytesWorld w w.heap.size 5 t (Nat.le_refl _) (by unfold maxLen; omega)
  have hb0 := below_bytesWorld w 5 t
  have HD := Lib.hid hd; have HV := Lib.hid hv; clear hd hv hne
  have hlow := Tryz.internal_strconv_lower
  have HL := Lib.hid hlow; clear hlow
  go_enter Tryz.func94, Tryz.ntmps94
  go_wp2_with fail
  clear hcv
  generalize Lib.bytesWorld w 5 t = w1 at *
  generalize hcap : grownCap w t.size 0 5 = cap at *
  clear hcap
  go_loop [12, 13, 101] (fun s12 s13 s101 => s12 = .bool false ∧ ∃ k : Nat, k ≤ t.size ∧ s101 = .int .i64 k ∧ s13 = .int .u64 (valL 16 (t.data.toList.take k))) (fun s12 s13 s101 => t.size - (intOf s101).toNat)
  case atStart => exact ⟨rfl, 0, Nat.zero_le _, rfl, rfl⟩
  case round =>
    obtain ⟨rfl, k, hk, rfl, rfl⟩ := hrel
    by_cases hlt : k < t.size
    · have hc := hown0.cellAt k (by omega)
      have hkl : k < t.data.toList.length := by rw [ba_toList_length]; exact hlt
      have hgk : (bv t.data.toList)[k]? = some (.int .u8 (byteAt t.data.toList k)) := by
        unfold bv
        rw [List.getElem?_map, List.getElem?_eq_getElem hkl, byteAt_getL _ _ hkl]; rfl
      rw [hgk] at hc
      have hdk := HD.out k hlt
      have hm1 := valL_take 16 (by decide) t.data.toList k
      have hm2 := valL_take 16 (by decide) t.data.toList (k + 1)
      have hsn : valL 16 (t.data.toList.take (k + 1)) = valL 16 (t.data.toList.take k) * 16 + digV (byteAt t.data.toList k) := by
        rw [take_snoc t k hlt, valL, valF_snoc]
        congr 2
        exact byteAt_get t k hlt
      have hvv := HV.out
      have HSN := Lib.hid hsn
      have hbd := byteAt_bd t.data.toList k
      generalize byteAt t.data.toList k = c at *
      generalize valL 16 (t.data.toList.take k) = n at *
      generalize hmv : valL 16 (t.data.toList.take (k + 1)) = m at *
      have HMV := Lib.hid hmv
      clear hsn hmv
      have hdc : (48 ≤ c ∧ c ≤ 57) ∨ (97 ≤ c ∧ c ≤ 102) ∨ (65 ≤ c ∧ c ≤ 70) := by
        simp [isDig, hexd] at hdk; omega
      clear hdk
      have hn : n ≤ 4294967295 := by omega
      rcases hdc with h | h | h
      · have hdv : (digV c : Int) = c - 48 := by unfold digV; rw [if_pos (by omega)]; omega
        have hsnn := HSN.out
        have hN0 : (0 : Int) ≤ (n : Int) := by omega
        have hN1 : (n : Int) ≤ 4294967295 := by omega
        have hN2 : (n : Int) * 16 + (c - 48) ≤ 4294967295 := by omega
        have hN3 : (m : Int) = (n : Int) * 16 + (c - 48) := by omega
        have HM := Lib.hid hN3
        clear hN3 hm1 hm2 hn
        generalize (n : Int) = N at *
        go_wp2_with fail
        exact ⟨⟨rfl, k + 1, by omega, by rw [show ((k + 1 : Nat) : Int) = (k : Int) + 1 from by omega], by rw [HMV.out, HM.out]⟩, by simp [intOf]; omega⟩
      · have hdv : (digV c : Int) = c - 87 := by unfold digV; rw [if_neg (by omega)]; rw [if_pos (by omega)]; omega
        have hsnn := HSN.out
        have hlw := low_or c (.inl h)
        rw [if_pos (by omega)] at hlw
        have HLW : Hid (∀ w, Calls Tryz.prog 103 #[.int .u8 c] w fun e w' => e = .returned (.int .u8 (c)) ∧ w' = w) := Lib.hid (fun w => by have := HL.out c w; rw [hlw] at this; exact this)
        clear hlw
        have hN0 : (0 : Int) ≤ (n : Int) := by omega
        have hN1 : (n : Int) ≤ 4294967295 := by omega
        have hN2 : (n : Int) * 16 + (c - 87) ≤ 4294967295 := by omega
        have hN3 : (m : Int) = (n : Int) * 16 + (c - 87) := by omega
        have HM := Lib.hid hN3
        clear hN3 hm1 hm2 hn hsnn hdv
        generalize (n : Int) = N at *
        go_wp2_with fail
        refine (HLW.out _).mono ?_
        rintro e w2 ⟨rfl, rfl⟩
        go_wp2_with fail
        refine (HLW.out _).mono ?_
        rintro e w2 ⟨rfl, rfl⟩
        go_wp2_with fail
        refine (HLW.out _).mono ?_
        rintro e w2 ⟨rfl, rfl⟩
        go_wp2_with fail
        have hq : (c - 97 + 10 : Int) = c - 87 := by omega
        exact ⟨⟨rfl, k + 1, by omega, by rw [show ((k + 1 : Nat) : Int) = (k : Int) + 1 from by omega], by rw [HMV.out, HM.out, ← hq]⟩, by simp [intOf]; omega⟩
      · have hdv : (digV c : Int) = c - 55 := by unfold digV; rw [if_neg (by omega)]; rw [if_neg (by omega)]; omega
        have hsnn := HSN.out
        have hlw := low_or c (.inr h)
        rw [if_neg (by omega)] at hlw
        have HLW : Hid (∀ w, Calls Tryz.prog 103 #[.int .u8 c] w fun e w' => e = .returned (.int .u8 (c + 32)) ∧ w' = w) := Lib.hid (fun w => by have := HL.out c w; rw [hlw] at this; exact this)
        clear hlw
        have hN0 : (0 : Int) ≤ (n : Int) := by omega
        have hN1 : (n : Int) ≤ 4294967295 := by omega
        have hN2 : (n : Int) * 16 + (c - 55) ≤ 4294967295 := by omega
        have hN3 : (m : Int) = (n : Int) * 16 + (c - 55) := by omega
        have HM := Lib.hid hN3
        clear hN3 hm1 hm2 hn hsnn hdv
        generalize (n : Int) = N at *
        go_wp2_with fail
        refine (HLW.out _).mono ?_
        rintro e w2 ⟨rfl, rfl⟩
        go_wp2_with fail
        refine (HLW.out _).mono ?_
        rintro e w2 ⟨rfl, rfl⟩
        go_wp2_with fail
        refine (HLW.out _).mono ?_
        rintro e w2 ⟨rfl, rfl⟩
        go_wp2_with fail
        have hq : (c + 32 - 97 + 10 : Int) = c - 55 := by omega
        exact ⟨⟨rfl, k + 1, by omega, by rw [show ((k + 1 : Nat) : Int) = (k : Int) + 1 from by omega], by rw [HMV.out, HM.out, ← hq]⟩, by simp [intOf]; omega⟩
    · go_wp2_with fail
      have htk : t.data.toList.take k = t.data.toList := List.take_of_length_le (by rw [ba_toList_length]; omega)
      exact bodyPost_ret (v := .tuple #[.int .u64 (valL 16 t.data.toList), .nilIface]) (by simp [results, Tryz.results94, go_sem, htk]) rfl ⟨rfl, hb0⟩

theorem pu8_8 (t : ByteArray) (h0 : t.size ≠ 0) (h1 : t.size ≤ 100) (hd : ∀ k, k < t.size → isDig 8 (byteAt t.data.toList k) = true) (hv : valL 8 t.data.toList ≤ 255) (w : World) :
    Calls Tryz.prog 94 #[.string t, .int .i64 8, .int .i64 8] w fun e w' => e = .returned (.tuple #[.int .u64 (valL 8 t.data.toList), .nilIface]) ∧ Below w.heap.size w w' := by
  have hne : (t.toList == (⟨#[]⟩ : ByteArray).toList) = false := by
    rw [beq_eq_false_iff_ne, Lib.toList_data, Lib.toList_data]
    intro e
    apply h0
    rw [← ba_toList_length, e]; rfl
  have hemp : t.toList.isEmpty = false := by
    cases hh : t.toList with
    | nil => rw [hh, Lib.toList_data] at hne; exact absurd hne (by decide)
    | cons c r => rfl
  have hcv := Lib.run_convert_string_bytes (P := Tryz.prog) w 9 33 5 t Tryz.underlying9 Tryz.underlying33 Tryz.underlying5
  have hown0 := own_bytesWorld w w.heap.size 5 t (Nat.le_refl _) (by unfold maxLen; omega)
  have hb0 := below_bytesWorld w 5 t
  have HD := Lib.hid hd; have HV := Lib.hid hv; clear hd hv hne
  have hlow := Tryz.internal_strconv_lower
  have HL := Lib.hid hlow; clear hlow
  go_enter Tryz.func94, Tryz.ntmps94
  go_wp2_with fail
  clear hcv
  generalize Lib.bytesWorld w 5 t = w1 at *
  generalize hcap : grownCap w t.size 0 5 = cap at *
  clear hcap
  go_loop [12, 13, 101] (fun s12 s13 s101 => s12 = .bool false ∧ ∃ k : Nat, k ≤ t.size ∧ s101 = .int .i64 k ∧ s13 = .int .u64 (valL 8 (t.data.toList.take k))) (fun s12 s13 s101 => t.size - (intOf s101).toNat)
  case atStart => exact ⟨rfl, 0, Nat.zero_le _, rfl, rfl⟩
  case round =>
    obtain ⟨rfl, k, hk, rfl, rfl⟩ := hrel
    by_cases hlt : k < t.size
    · have hc := hown0.cellAt k (by omega)
      have hkl : k < t.data.toList.length := by rw [ba_toList_length]; exact hlt
      have hgk : (bv t.data.toList)[k]? = some (.int .u8 (byteAt t.data.toList k)) := by
        unfold bv
        rw [List.getElem?_map, List.getElem?_eq_getElem hkl, byteAt_getL _ _ hkl]; rfl
      rw [hgk] at hc
      have hdk := HD.out k hlt
      have hm1 := valL_take 8 (by decide) t.data.toList k
      have hm2 := valL_take 8 (by decide) t.data.toList (k + 1)
      have hsn : valL 8 (t.data.toList.take (k + 1)) = valL 8 (t.data.toList.take k) * 8 + digV (byteAt t.data.toList k) := by
        rw [take_snoc t k hlt, valL, valF_snoc]
        congr 2
        exact byteAt_get t k hlt
      have hvv := HV.out
      have HSN := Lib.hid hsn
      have hbd := byteAt_bd t.data.toList k
      generalize byteAt t.data.toList k = c at *
      generalize valL 8 (t.data.toList.take k) = n at *
      generalize hmv : valL 8 (t.data.toList.take (k + 1)) = m at *
      have HMV := Lib.hid hmv
      clear hsn hmv
      have h : 48 ≤ c ∧ c ≤ 55 := by
        simp [isDig, oct] at hdk; omega
      clear hdk
      have hn : n ≤ 255 := by omega
      · have hdv : (digV c : Int) = c - 48 := by unfold digV; rw [if_pos (by omega)]; omega
        have hsnn := HSN.out
        have hN0 : (0 : Int) ≤ (n : Int) := by omega
        have hN1 : (n : Int) ≤ 255 := by omega
        have hN2 : (n : Int) * 8 + (c - 48) ≤ 255 := by omega
        have hN3 : (m : Int) = (n : Int) * 8 + (c - 48) := by omega
        have HM := Lib.hid hN3
        clear hN3 hm1 hm2 hn
        generalize (n : Int) = N at *
        go_wp2_with fail
        exact ⟨⟨rfl, k + 1, by omega, by rw [show ((k + 1 : Nat) : Int) = (k : Int) + 1 from by omega], by rw [HMV.out, HM.out]⟩, by simp [intOf]; omega⟩
    · go_wp2_with fail
      have htk : t.data.toList.take k = t.data.toList := List.take_of_length_le (by rw [ba_toList_length]; omega)
      exact bodyPost_ret (v := .tuple #[.int .u64 (valL 8 t.data.toList), .nilIface]) (by simp [results, Tryz.results94, go_sem, htk]) rfl ⟨rfl, hb0⟩

theorem parse16_8 (t : ByteArray) (h0 : t.size ≠ 0) (h1 : t.size ≤ 100) (hd : ∀ k, k < t.size → isDig 16 (byteAt t.data.toList k) = true) (hv : valL 16 t.data.toList ≤ 255) (w : World) :
    Calls Tryz.prog 86 #[.string t, .int .i64 16, .int .i64 8] w fun e w' => e = .returned (.tuple #[.int .u64 (valL 16 t.data.toList), .nilIface]) ∧ Below w.heap.size w w' := by
  have HC := Lib.hid (pu16_8 t h0 h1 hd hv w)
  generalize (valL 16 t.data.toList : Int) = v at *
  clear hd hv
  go_enter Tryz.func86, Tryz.ntmps86
  go_wp2_with fail
  refine HC.out.mono ?_
  rintro e w1 ⟨rfl, hb⟩
  have HB := Lib.hid hb; clear hb
  go_wp2_with fail
  exact bodyPost_ret (v := .tuple #[.int .u64 v, .nilIface]) (by simp [results, Tryz.results86, go_sem]) rfl ⟨rfl, HB.out⟩

theorem parse16_32 (t : ByteArray) (h0 : t.size ≠ 0) (h1 : t.size ≤ 100) (hd : ∀ k, k < t.size → isDig 16 (byteAt t.data.toList k) = true) (hv : valL 16 t.data.toList ≤ 4294967295) (w : World) :
    Calls Tryz.prog 86 #[.string t, .int .i64 16, .int .i64 32] w fun e w' => e = .returned (.tuple #[.int .u64 (valL 16 t.data.toList), .nilIface]) ∧ Below w.heap.size w w' := by
  have HC := Lib.hid (pu16_32 t h0 h1 hd hv w)
  generalize (valL 16 t.data.toList : Int) = v at *
  clear hd hv
  go_enter Tryz.func86, Tryz.ntmps86
  go_wp2_with fail
  refine HC.out.mono ?_
  rintro e w1 ⟨rfl, hb⟩
  have HB := Lib.hid hb; clear hb
  go_wp2_with fail
  exact bodyPost_ret (v := .tuple #[.int .u64 v, .nilIface]) (by simp [results, Tryz.results86, go_sem]) rfl ⟨rfl, HB.out⟩

theorem parse8_8 (t : ByteArray) (h0 : t.size ≠ 0) (h1 : t.size ≤ 100) (hd : ∀ k, k < t.size → isDig 8 (byteAt t.data.toList k) = true) (hv : valL 8 t.data.toList ≤ 255) (w : World) :
    Calls Tryz.prog 86 #[.string t, .int .i64 8, .int .i64 8] w fun e w' => e = .returned (.tuple #[.int .u64 (valL 8 t.data.toList), .nilIface]) ∧ Below w.heap.size w w' := by
  have HC := Lib.hid (pu8_8 t h0 h1 hd hv w)
  generalize (valL 8 t.data.toList : Int) = v at *
  clear hd hv
  go_enter Tryz.func86, Tryz.ntmps86
  go_wp2_with fail
  refine HC.out.mono ?_
  rintro e w1 ⟨rfl, hb⟩
  have HB := Lib.hid hb; clear hb
  go_wp2_with fail
  exact bodyPost_ret (v := .tuple #[.int .u64 v, .nilIface]) (by simp [results, Tryz.results86, go_sem]) rfl ⟨rfl, HB.out⟩
end Go.Proofs.YtcelnnjjakiehaaGreatDoor
