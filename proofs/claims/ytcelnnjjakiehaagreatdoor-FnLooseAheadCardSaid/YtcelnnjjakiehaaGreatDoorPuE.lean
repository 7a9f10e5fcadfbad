/-
  strconv.ParseUint where a byte is no digit of base 16 or 8: its contract.
-/
import Derived.Test.YtcelnnjjakiehaaGreatDoorPu
import Derived.Test.YtcelnnjjakiehaaGreatDoorShelfE
namespace Go.Proofs.YtcelnnjjakiehaaGreatDoor
open Go.RowKit
set_option linter.unusedVariables false
set_option maxRecDepth 20000
set_option maxHeartbeats 1000000

theorem low_fin : ∀ c : Fin 256, hexd ((c.val : Nat) : Int) = false → ¬ (48 ≤ ((c.val : Nat) : Int) ∧ ((c.val : Nat) : Int) ≤ 57) → 97 ≤ bits .or .u8 ((c.val : Nat) : Int) 32 → 103 ≤ bits .or .u8 ((c.val : Nat) : Int) 32 := by decide +kernel
theorem low_bd : ∀ c : Fin 256, 0 ≤ bits .or .u8 ((c.val : Nat) : Int) 32 ∧ bits .or .u8 ((c.val : Nat) : Int) 32 ≤ 255 := by decide +kernel
theorem low_fin' (c : Int) (h0 : 0 ≤ c) (h1 : c ≤ 255) : (0 ≤ bits .or .u8 c 32 ∧ bits .or .u8 c 32 ≤ 255) ∧ (hexd c = false → ¬ (48 ≤ c ∧ c ≤ 57) → 97 ≤ bits .or .u8 c 32 → 103 ≤ bits .or .u8 c 32) := by
  obtain ⟨n, rfl⟩ := Int.eq_ofNat_of_zero_le h0
  have hn : n < 256 := by omega
  exact ⟨low_bd ⟨n, hn⟩, low_fin ⟨n, hn⟩⟩
theorem pub16_8 (t : ByteArray) (m : Nat) (hm : m < t.size) (h1 : t.size ≤ 100) (hd : ∀ k, k < m → isDig 16 (byteAt t.data.toList k) = true) (hbad : isDig 16 (byteAt t.data.toList m) = false) (hv : valL 16 (t.data.toList.take m) ≤ 255) (w : World) :
    Calls Tryz.prog 94 #[.string t, .int .i64 16, .int .i64 8] w fun e w' => e = .returned (.tuple #[.int .u64 0, .iface 172 (.int .i64 2)]) ∧ Below w.heap.size w w' := by
  have h0 : t.size ≠ 0 := by omega
  have hne : (t.toList == (⟨#[]⟩ : ByteArray).toList) = false := by
    rw [beq_eq_false_iff_ne, Lib.toList_data, Lib.toList_data]
    intro e
    apply h0
    rw [← ba_toList_length, e]; rfl
  have hemp : t.toList.isEmpty = false := by
    cases hh : t.toList with
    | nil => rw [hh, Lib.toList_data] at hne; exact absurd hne (by decide)
    | cons c r => rfl
  have hcv := Lib.run_convert_string_bytes (P := Tryz.prog) w 9 33 5 t Tryz.underlying9 Tryz.underlying33 Tryz.underlying5
  have hown0 := own_bytesWorld w w.heap.size 5 t (Nat.le_refl _) (by unfold maxLen; omega)
  have hb0 := below_bytesWorld w 5 t
  have HD := Lib.hid hd; have HV := Lib.hid hv; have HBD := Lib.hid hbad; clear hd hv hne hbad
  have hlow := Tryz.internal_strconv_lower
  have HL := Lib.hid hlow; clear hlow
  go_enter Tryz.func94, Tryz.ntmps94
  go_wp2_with fail
  clear hcv
  generalize Lib.bytesWorld w 5 t = w1 at *
  generalize hcap : grownCap w t.size 0 5 = cap at *
  clear hcap
  go_loop [12, 13, 101] (fun s12 s13 s101 => s12 = .bool false ∧ ∃ k : Nat, k ≤ m ∧ s101 = .int .i64 k ∧ s13 = .int .u64 (valL 16 (t.data.toList.take k))) (fun s12 s13 s101 => t.size - (intOf s101).toNat)
  case atStart => exact ⟨rfl, 0, Nat.zero_le _, rfl, rfl⟩
  case round =>
    obtain ⟨rfl, k, hk, rfl, rfl⟩ := hrel
    by_cases hlm : k < m
    · have hlt : k < t.size := by omega
      have hc := hown0.cellAt k (by omega)
      have hkl : k < t.data.toList.length := by rw [ba_toList_length]; exact hlt
      have hgk : (bv t.data.toList)[k]? = some (.int .u8 (byteAt t.data.toList k)) := by
        unfold bv
        rw [List.getElem?_map, List.getElem?_eq_getElem hkl, byteAt_getL _ _ hkl]; rfl
      rw [hgk] at hc
      have hdk := HD.out k hlm
      have hm1 := valL_take 16 (by decide) (t.data.toList.take m) k
      rw [List.take_take, Nat.min_eq_left (by omega)] at hm1
      have hm2 := valL_take 16 (by decide) (t.data.toList.take m) (k + 1)
      rw [List.take_take, Nat.min_eq_left (by omega)] at hm2
      have hsn : valL 16 (t.data.toList.take (k + 1)) = valL 16 (t.data.toList.take k) * 16 + digV (byteAt t.data.toList k) := by
        rw [take_snoc t k hlt, valL, valF_snoc]
        congr 2
        exact byteAt_get t k hlt
      have hvv := HV.out
      have HSN := Lib.hid hsn
      have hbd := byteAt_bd t.data.toList k
      generalize byteAt t.data.toList k = c at *
      generalize valL 16 (t.data.toList.take k) = n at *
      generalize hmv : valL 16 (t.data.toList.take (k + 1)) = mm at *
      have HMV := Lib.hid hmv
      clear hsn hmv
      have hdc : (48 ≤ c ∧ c ≤ 57) ∨ (97 ≤ c ∧ c ≤ 102) ∨ (65 ≤ c ∧ c ≤ 70) := by
        simp [isDig, hexd] at hdk; omega
      clear hdk
      have hn : n ≤ 255 := by omega
      rcases hdc with h | h | h
      · have hdv : (digV c : Int) = c - 48 := by unfold digV; rw [if_pos (by omega)]; omega
        have hsnn := HSN.out
        have hN0 : (0 : Int) ≤ (n : Int) := by omega
        have hN1 : (n : Int) ≤ 255 := by omega
        have hN2 : (n : Int) * 16 + (c - 48) ≤ 255 := by omega
        have hN3 : (mm : Int) = (n : Int) * 16 + (c - 48) := by omega
        have HM := Lib.hid hN3
        clear hN3 hm1 hm2 hn
        generalize (n : Int) = N at *
        go_wp2_with fail
        exact ⟨⟨rfl, k + 1, by omega, by rw [show ((k + 1 : Nat) : Int) = (k : Int) + 1 from by omega], by rw [HMV.out, HM.out]⟩, by simp [intOf]; omega⟩
      · have hdv : (digV c : Int) = c - 87 := by unfold digV; rw [if_neg (by omega)]; rw [if_pos (by omega)]; omega
        have hsnn := HSN.out
        have hlw := low_or c (.inl h)
        rw [if_pos (by omega)] at hlw
        have HLW : Hid (∀ w, Calls Tryz.prog 103 #[.int .u8 c] w fun e w' => e = .returned (.int .u8 (c)) ∧ w' = w) := Lib.hid (fun w => by have := HL.out c w; rw [hlw] at this; exact this)
        clear hlw
        have hN0 : (0 : Int) ≤ (n : Int) := by omega
        have hN1 : (n : Int) ≤ 255 := by omega
        have hN2 : (n : Int) * 16 + (c - 87) ≤ 255 := by omega
        have hN3 : (mm : Int) = (n : Int) * 16 + (c - 87) := by omega
        have HM := Lib.hid hN3
        clear hN3 hm1 hm2 hn hsnn hdv
        generalize (n : Int) = N at *
        go_wp2_with fail
        refine (HLW.out _).mono ?_
        rintro e w2 ⟨rfl, rfl⟩
        go_wp2_with fail
        refine (HLW.out _).mono ?_
        rintro e w2 ⟨rfl, rfl⟩
        go_wp2_with fail
        refine (HLW.out _).mono ?_
        rintro e w2 ⟨rfl, rfl⟩
        go_wp2_with fail
        have hq : (c - 97 + 10 : Int) = c - 87 := by omega
        exact ⟨⟨rfl, k + 1, by omega, by rw [show ((k + 1 : Nat) : Int) = (k : Int) + 1 from by omega], by rw [HMV.out, HM.out, ← hq]⟩, by simp [intOf]; omega⟩
      · have hdv : (digV c : Int) = c - 55 := by unfold digV; rw [if_neg (by omega)]; rw [if_neg (by omega)]; omega
        have hsnn := HSN.out
        have hlw := low_or c (.inr h)
        rw [if_neg (by omega)] at hlw
        have HLW : Hid (∀ w, Calls Tryz.prog 103 #[.int .u8 c] w fun e w' => e = .returned (.int .u8 (c + 32)) ∧ w' = w) := Lib.hid (fun w => by have := HL.out c w; rw [hlw] at this; exact this)
        clear hlw
        have hN0 : (0 : Int) ≤ (n : Int) := by omega
        have hN1 : (n : Int) ≤ 255 := by omega
        have hN2 : (n : Int) * 16 + (c - 55) ≤ 255 := by omega
        have hN3 : (mm : Int) = (n : Int) * 16 + (c - 55) := by omega
        have HM := Lib.hid hN3
        clear hN3 hm1 hm2 hn hsnn hdv
        generalize (n : Int) = N at *
        go_wp2_with fail
        refine (HLW.out _).mono ?_
        rintro e w2 ⟨rfl, rfl⟩
        go_wp2_with fail
        refine (HLW.out _).mono ?_
        rintro e w2 ⟨rfl, rfl⟩
        go_wp2_with fail
        refine (HLW.out _).mono ?_
        rintro e w2 ⟨rfl, rfl⟩
        go_wp2_with fail
        have hq : (c + 32 - 97 + 10 : Int) = c - 55 := by omega
        exact ⟨⟨rfl, k + 1, by omega, by rw [show ((k + 1 : Nat) : Int) = (k : Int) + 1 from by omega], by rw [HMV.out, HM.out, ← hq]⟩, by simp [intOf]; omega⟩
    · obtain rfl : k = m := by omega
      have hlt : k < t.size := hm
      have hc := hown0.cellAt k (by omega)
      have hkl : k < t.data.toList.length := by rw [ba_toList_length]; exact hlt
      have hgk : (bv t.data.toList)[k]? = some (.int .u8 (byteAt t.data.toList k)) := by
        unfold bv
        rw [List.getElem?_map, List.getElem?_eq_getElem hkl, byteAt_getL _ _ hkl]; rfl
      rw [hgk] at hc
      have hbd := byteAt_bd t.data.toList k
      have hbk := HBD.out
      have hv1 := HV.out
      have HB0 := Lib.hid hb0
      clear hb0 HD HBD HV hgk hkl hk
      generalize byteAt t.data.toList k = c at *
      generalize valL 16 (t.data.toList.take k) = n at *
      have hn0 : (0 : Int) ≤ (n : Int) := by omega
      have hn1 : (n : Int) ≤ 255 := by omega
      clear hv1
      generalize (n : Int) = N at *
      have hlb := low_fin' c (by omega) (by omega)
      have HLW : Hid (∀ w, Calls Tryz.prog 103 #[.int .u8 c] w fun e w' => e = .returned (.int .u8 (bits .or .u8 c 32)) ∧ w' = w) := Lib.hid (fun w => HL.out c w)
      generalize bits .or .u8 c 32 = l at *
      obtain ⟨⟨hl0, hl1⟩, hl2⟩ := hlb
      have h48 : ¬ (48 ≤ c ∧ c ≤ 57) := by
        intro h
        simp [isDig, hexd] at hbk
        omega
      have hx : hexd c = false := by simpa [isDig] using hbk
      have hl2 := hl2 hx h48
      have h48' : ¬ 48 ≤ c ∨ (48 ≤ c ∧ ¬ c ≤ 57) := by omega
      clear h48 hx
      by_cases hle : 97 ≤ l ∧ l ≤ 122
      · have hl3 : 103 ≤ l := by exact hl2 hle.1
        clear hl2 hbk
        obtain ⟨hle1, hle2⟩ := hle
        by_cases h95 : c = 95
        · subst h95
          go_wp2_with fail
          refine (HLW.out _).mono ?_
          rintro e w2 ⟨rfl, rfl⟩
          go_wp2_with fail
          refine (HLW.out _).mono ?_
          rintro e w2 ⟨rfl, rfl⟩
          go_wp2_with fail
          refine (HLW.out _).mono ?_
          rintro e w2 ⟨rfl, rfl⟩
          go_wp2_with fail
          exact bodyPost_ret (v := .tuple #[.int .u64 0, .iface 172 (.int .i64 2)]) (by simp [results, Tryz.results94, go_sem]) rfl ⟨rfl, HB0.out⟩
        · rcases h48' with h48 | ⟨h48, h57⟩
          · go_wp2_with fail
            refine (HLW.out _).mono ?_
            rintro e w2 ⟨rfl, rfl⟩
            go_wp2_with fail
            refine (HLW.out _).mono ?_
            rintro e w2 ⟨rfl, rfl⟩
            go_wp2_with fail
            refine (HLW.out _).mono ?_
            rintro e w2 ⟨rfl, rfl⟩
            go_wp2_with fail
            exact bodyPost_ret (v := .tuple #[.int .u64 0, .iface 172 (.int .i64 2)]) (by simp [results, Tryz.results94, go_sem]) rfl ⟨rfl, HB0.out⟩
          · go_wp2_with fail
            refine (HLW.out _).mono ?_
            rintro e w2 ⟨rfl, rfl⟩
            go_wp2_with fail
            refine (HLW.out _).mono ?_
            rintro e w2 ⟨rfl, rfl⟩
            go_wp2_with fail
            refine (HLW.out _).mono ?_
            rintro e w2 ⟨rfl, rfl⟩
            go_wp2_with fail
            exact bodyPost_ret (v := .tuple #[.int .u64 0, .iface 172 (.int .i64 2)]) (by simp [results, Tryz.results94, go_sem]) rfl ⟨rfl, HB0.out⟩
      · clear hl2 hbk
        by_cases hle1 : 97 ≤ l
        · have hle2 : ¬ l ≤ 122 := fun h => hle ⟨hle1, h⟩
          clear hle
          by_cases h95 : c = 95
          · subst h95
            go_wp2_with fail
            refine (HLW.out _).mono ?_
            rintro e w2 ⟨rfl, rfl⟩
            go_wp2_with fail
            refine (HLW.out _).mono ?_
            rintro e w2 ⟨rfl, rfl⟩
            go_wp2_with fail
            exact bodyPost_ret (v := .tuple #[.int .u64 0, .iface 172 (.int .i64 2)]) (by simp [results, Tryz.results94, go_sem]) rfl ⟨rfl, HB0.out⟩
          · rcases h48' with h48 | ⟨h48, h57⟩
            · go_wp2_with fail
              refine (HLW.out _).mono ?_
              rintro e w2 ⟨rfl, rfl⟩
              go_wp2_with fail
              refine (HLW.out _).mono ?_
              rintro e w2 ⟨rfl, rfl⟩
              go_wp2_with fail
              exact bodyPost_ret (v := .tuple #[.int .u64 0, .iface 172 (.int .i64 2)]) (by simp [results, Tryz.results94, go_sem]) rfl ⟨rfl, HB0.out⟩
            · go_wp2_with fail
              refine (HLW.out _).mono ?_
              rintro e w2 ⟨rfl, rfl⟩
              go_wp2_with fail
              refine (HLW.out _).mono ?_
              rintro e w2 ⟨rfl, rfl⟩
              go_wp2_with fail
              exact bodyPost_ret (v := .tuple #[.int .u64 0, .iface 172 (.int .i64 2)]) (by simp [results, Tryz.results94, go_sem]) rfl ⟨rfl, HB0.out⟩
        · clear hle
          by_cases h95 : c = 95
          · subst h95
            go_wp2_with fail
            refine (HLW.out _).mono ?_
            rintro e w2 ⟨rfl, rfl⟩
            go_wp2_with fail
            exact bodyPost_ret (v := .tuple #[.int .u64 0, .iface 172 (.int .i64 2)]) (by simp [results, Tryz.results94, go_sem]) rfl ⟨rfl, HB0.out⟩
          · rcases h48' with h48 | ⟨h48, h57⟩
            · go_wp2_with fail
              refine (HLW.out _).mono ?_
              rintro e w2 ⟨rfl, rfl⟩
              go_wp2_with fail
              exact bodyPost_ret (v := .tuple #[.int .u64 0, .iface 172 (.int .i64 2)]) (by simp [results, Tryz.results94, go_sem]) rfl ⟨rfl, HB0.out⟩
            · go_wp2_with fail
              refine (HLW.out _).mono ?_
              rintro e w2 ⟨rfl, rfl⟩
              go_wp2_with fail
              exact bodyPost_ret (v := .tuple #[.int .u64 0, .iface 172 (.int .i64 2)]) (by simp [results, Tryz.results94, go_sem]) rfl ⟨rfl, HB0.out⟩
theorem pub16_32 (t : ByteArray) (m : Nat) (hm : m < t.size) (h1 : t.size ≤ 100) (hd : ∀ k, k < m → isDig 16 (byteAt t.data.toList k) = true) (hbad : isDig 16 (byteAt t.data.toList m) = false) (hv : valL 16 (t.data.toList.take m) ≤ 4294967295) (w : World) :
    Calls Tryz.prog 94 #[.string t, .int .i64 16, .int .i64 32] w fun e w' => e = .returned (.tuple #[.int .u64 0, .iface 172 (.int .i64 2)]) ∧ Below w.heap.size w w' := by
  have h0 : t.size ≠ 0 := by omega
  have hne : (t.toList == (⟨#[]⟩ : ByteArray).toList) = false := by
    rw [beq_eq_false_iff_ne, Lib.toList_data, Lib.toList_data]
    intro e
    apply h0
    rw [← ba_toList_length, e]; rfl
  have hemp : t.toList.isEmpty = false := by
    cases hh : t.toList with
    | nil => rw [hh, Lib.toList_data] at hne; exact absurd hne (by decide)
    | cons c r => rfl
  have hcv := Lib.run_convert_string_bytes (P := Tryz.prog) w 9 33 5 t Tryz.underlying9 Tryz.underlying33 Tryz.underlying5
  have hown0 := own_bytesWorld w w.heap.size 5 t (Nat.le_refl _) (by unfold maxLen; omega)
  have hb0 := below_bytesWorld w 5 t
  have HD := Lib.hid hd; have HV := Lib.hid hv; have HBD := Lib.hid hbad; clear hd hv hne hbad
  have hlow := Tryz.internal_strconv_lower
  have HL := Lib.hid hlow; clear hlow
  go_enter Tryz.func94, Tryz.ntmps94
  go_wp2_with fail
  clear hcv
  generalize Lib.bytesWorld w 5 t = w1 at *
  generalize hcap : grownCap w t.size 0 5 = cap at *
  clear hcap
  go_loop [12, 13, 101] (fun s12 s13 s101 => s12 = .bool false ∧ ∃ k : Nat, k ≤ m ∧ s101 = .int .i64 k ∧ s13 = .int .u64 (valL 16 (t.data.toList.take k))) (fun s12 s13 s101 => t.size - (intOf s101).toNat)
  case atStart => exact ⟨rfl, 0, Nat.zero_le _, rfl, rfl⟩
  case round =>
    obtain ⟨rfl, k, hk, rfl, rfl⟩ := hrel
    by_cases hlm : k < m
    · have hlt : k < t.size := by omega
      have hc := hown0.cellAt k (by omega)
      have hkl : k < t.data.toList.length := by rw [ba_toList_length]; exact hlt
      have hgk : (bv t.data.toList)[k]? = some (.int .u8 (byteAt t.data.toList k)) := by
        unfold bv
        rw [List.getElem?_map, List.getElem?_eq_getElem hkl, byteAt_getL _ _ hkl]; rfl
      rw [hgk] at hc
      have hdk := HD.out k hlm
      have hm1 := valL_take 16 (by decide) (t.data.toList.take m) k
      rw [List.take_take, Nat.min_eq_left (by omega)] at hm1
      have hm2 := valL_take 16 (by decide) (t.data.toList.take m) (k + 1)
      rw [List.take_take, Nat.min_eq_left (by omega)] at hm2
      have hsn : valL 16 (t.data.toList.take (k + 1)) = valL 16 (t.data.toList.take k) * 16 + digV (byteAt t.data.toList k) := by
        rw [take_snoc t k hlt, valL, valF_snoc]
        congr 2
        exact byteAt_get t k hlt
      have hvv := HV.out
      have HSN := Lib.hid hsn
      have hbd := byteAt_bd t.data.toList k
      generalize byteAt t.data.toList k = c at *
      generalize valL 16 (t.data.toList.take k) = n at *
      generalize hmv : valL 16 (t.data.toList.take (k + 1)) = mm at *
      have HMV := Lib.hid hmv
      clear hsn hmv
      have hdc : (48 ≤ c ∧ c ≤ 57) ∨ (97 ≤ c ∧ c ≤ 102) ∨ (65 ≤ c ∧ c ≤ 70) := by
        simp [isDig, hexd] at hdk; omega
      clear hdk
      have hn : n ≤ 4294967295 := by omega
      rcases hdc with h | h | h
      · have hdv : (digV c : Int) = c - 48 := by unfold digV; rw [if_pos (by omega)]; omega
        have hsnn := HSN.out
        have hN0 : (0 : Int) ≤ (n : Int) := by omega
        have hN1 : (n : Int) ≤ 4294967295 := by omega
        have hN2 : (n : Int) * 16 + (c - 48) ≤ 4294967295 := by omega
        have hN3 : (mm : Int) = (n : Int) * 16 + (c - 48) := by omega
        have HM := Lib.hid hN3
        clear hN3 hm1 hm2 hn
        generalize (n : Int) = N at *
        go_wp2_with fail
        exact ⟨⟨rfl, k + 1, by omega, by rw [show ((k + 1 : Nat) : Int) = (k : Int) + 1 from by omega], by rw [HMV.out, HM.out]⟩, by simp [intOf]; omega⟩
      · have hdv : (digV c : Int) = c - 87 := by unfold digV; rw [if_neg (by omega)]; rw [if_pos (by omega)]; omega
        have hsnn := HSN.out
        have hlw := low_or c (.inl h)
        rw [if_pos (by omega)] at hlw
        have HLW : Hid (∀ w, Calls Tryz.prog 103 #[.int .u8 c] w fun e w' => e = .returned (.int .u8 (c)) ∧ w' = w) := Lib.hid (fun w => by have := HL.out c w; rw [hlw] at this; exact this)
        clear hlw
        have hN0 : (0 : Int) ≤ (n : Int) := by omega
        have hN1 : (n : Int) ≤ 4294967295 := by omega
        have hN2 : (n : Int) * 16 + (c - 87) ≤ 4294967295 := by omega
        have hN3 : (mm : Int) = (n : Int) * 16 + (c - 87) := by omega
        have HM := Lib.hid hN3
        clear hN3 hm1 hm2 hn hsnn hdv
        generalize (n : Int) = N at *
        go_wp2_with fail
        refine (HLW.out _).mono ?_
        rintro e w2 ⟨rfl, rfl⟩
        go_wp2_with fail
        refine (HLW.out _).mono ?_
        rintro e w2 ⟨rfl, rfl⟩
        go_wp2_with fail
        refine (HLW.out _).mono ?_
        rintro e w2 ⟨rfl, rfl⟩
        go_wp2_with fail
        have hq : (c - 97 + 10 : Int) = c - 87 := by omega
        exact ⟨⟨rfl, k + 1, by omega, by rw [show ((k + 1 : Nat) : Int) = (k : Int) + 1 from by omega], by rw [HMV.out, HM.out, ← hq]⟩, by simp [intOf]; omega⟩
      · have hdv : (digV c : Int) = c - 55 := by unfold digV; rw [if_neg (by omega)]; rw [if_neg (by omega)]; omega
        have hsnn := HSN.out
        have hlw := low_or c (.inr h)
        rw [if_neg (by omega)] at hlw
        have HLW : Hid (∀ w, Calls Tryz.prog 103 #[.int .u8 c] w fun e w' => e = .returned (.int .u8 (c + 32)) ∧ w' = w) := Lib.hid (fun w => by have := HL.out c w; rw [hlw] at this; exact this)
        clear hlw
        have hN0 : (0 : Int) ≤ (n : Int) := by omega
        have hN1 : (n : Int) ≤ 4294967295 := by omega
        have hN2 : (n : Int) * 16 + (c - 55) ≤ 4294967295 := by omega
        have hN3 : (mm : Int) = (n : Int) * 16 + (c - 55) := by omega
        have HM := Lib.hid hN3
        clear hN3 hm1 hm2 hn hsnn hdv
        generalize (n : Int) = N at *
        go_wp2_with fail
        refine (HLW.out _).mono ?_
        rintro e w2 ⟨rfl, rfl⟩
        go_wp2_with fail
        refine (HLW.out _).mono ?_
        rintro e w2 ⟨rfl, rfl⟩
        go_wp2_with fail
        refine (HLW.out _).mono ?_
        rintro e w2 ⟨rfl, rfl⟩
        go_wp2_with fail
        have hq : (c + 32 - 97 + 10 : Int) = c - 55 := by omega
        exact ⟨⟨rfl, k + 1, by omega, by rw [show ((k + 1 : Nat) : Int) = (k : Int) + 1 from by omega], by rw [HMV.out, HM.out, ← hq]⟩, by simp [intOf]; omega⟩
    · obtain rfl : k = m := by omega
      have hlt : k < t.size := hm
      have hc := hown0.cellAt k (by omega)
      have hkl : k < t.data.toList.length := by rw [ba_toList_length]; exact hlt
      have hgk : (bv t.data.toList)[k]? = some (.int .u8 (byteAt t.data.toList k)) := by
        unfold bv
        rw [List.getElem?_map, List.getElem?_eq_getElem hkl, byteAt_getL _ _ hkl]; rfl
      rw [hgk] at hc
      have hbd := byteAt_bd t.data.toList k
      have hbk := HBD.out
      have hv1 := HV.out
      have HB0 := Lib.hid hb0
      clear hb0 HD HBD HV hgk hkl hk
      generalize byteAt t.data.toList k = c at *
      generalize valL 16 (t.data.toList.take k) = n at *
      have hn0 : (0 : Int) ≤ (n : Int) := by omega
      have hn1 : (n : Int) ≤ 4294967295 := by omega
      clear hv1
      generalize (n : Int) = N at *
      have hlb := low_fin' c (by omega) (by omega)
      have HLW : Hid (∀ w, Calls Tryz.prog 103 #[.int .u8 c] w fun e w' => e = .returned (.int .u8 (bits .or .u8 c 32)) ∧ w' = w) := Lib.hid (fun w => HL.out c w)
      generalize bits .or .u8 c 32 = l at *
      obtain ⟨⟨hl0, hl1⟩, hl2⟩ := hlb
      have h48 : ¬ (48 ≤ c ∧ c ≤ 57) := by
        intro h
        simp [isDig, hexd] at hbk
        omega
      have hx : hexd c = false := by simpa [isDig] using hbk
      have hl2 := hl2 hx h48
      have h48' : ¬ 48 ≤ c ∨ (48 ≤ c ∧ ¬ c ≤ 57) := by omega
      clear h48 hx
      by_cases hle : 97 ≤ l ∧ l ≤ 122
      · have hl3 : 103 ≤ l := by exact hl2 hle.1
        clear hl2 hbk
        obtain ⟨hle1, hle2⟩ := hle
        by_cases h95 : c = 95
        · subst h95
          go_wp2_with fail
          refine (HLW.out _).mono ?_
          rintro e w2 ⟨rfl, rfl⟩
          go_wp2_with fail
          refine (HLW.out _).mono ?_
          rintro e w2 ⟨rfl, rfl⟩
          go_wp2_with fail
          refine (HLW.out _).mono ?_
          rintro e w2 ⟨rfl, rfl⟩
          go_wp2_with fail
          exact bodyPost_ret (v := .tuple #[.int .u64 0, .iface 172 (.int .i64 2)]) (by simp [results, Tryz.results94, go_sem]) rfl ⟨rfl, HB0.out⟩
        · rcases h48' with h48 | ⟨h48, h57⟩
          · go_wp2_with fail
            refine (HLW.out _).mono ?_
            rintro e w2 ⟨rfl, rfl⟩
            go_wp2_with fail
            refine (HLW.out _).mono ?_
            rintro e w2 ⟨rfl, rfl⟩
            go_wp2_with fail
            refine (HLW.out _).mono ?_
            rintro e w2 ⟨rfl, rfl⟩
            go_wp2_with fail
            exact bodyPost_ret (v := .tuple #[.int .u64 0, .iface 172 (.int .i64 2)]) (by simp [results, Tryz.results94, go_sem]) rfl ⟨rfl, HB0.out⟩
          · go_wp2_with fail
            refine (HLW.out _).mono ?_
            rintro e w2 ⟨rfl, rfl⟩
            go_wp2_with fail
            refine (HLW.out _).mono ?_
            rintro e w2 ⟨rfl, rfl⟩
            go_wp2_with fail
            refine (HLW.out _).mono ?_
            rintro e w2 ⟨rfl, rfl⟩
            go_wp2_with fail
            exact bodyPost_ret (v := .tuple #[.int .u64 0, .iface 172 (.int .i64 2)]) (by simp [results, Tryz.results94, go_sem]) rfl ⟨rfl, HB0.out⟩
      · clear hl2 hbk
        by_cases hle1 : 97 ≤ l
        · have hle2 : ¬ l ≤ 122 := fun h => hle ⟨hle1, h⟩
          clear hle
          by_cases h95 : c = 95
          · subst h95
            go_wp2_with fail
            refine (HLW.out _).mono ?_
            rintro e w2 ⟨rfl, rfl⟩
            go_wp2_with fail
            refine (HLW.out _).mono ?_
            rintro e w2 ⟨rfl, rfl⟩
            go_wp2_with fail
            exact bodyPost_ret (v := .tuple #[.int .u64 0, .iface 172 (.int .i64 2)]) (by simp [results, Tryz.results94, go_sem]) rfl ⟨rfl, HB0.out⟩
          · rcases h48' with h48 | ⟨h48, h57⟩
            · go_wp2_with fail
              refine (HLW.out _).mono ?_
              rintro e w2 ⟨rfl, rfl⟩
              go_wp2_with fail
              refine (HLW.out _).mono ?_
              rintro e w2 ⟨rfl, rfl⟩
              go_wp2_with fail
              exact bodyPost_ret (v := .tuple #[.int .u64 0, .iface 172 (.int .i64 2)]) (by simp [results, Tryz.results94, go_sem]) rfl ⟨rfl, HB0.out⟩
            · go_wp2_with fail
              refine (HLW.out _).mono ?_
              rintro e w2 ⟨rfl, rfl⟩
              go_wp2_with fail
              refine (HLW.out _).mono ?_
              rintro e w2 ⟨rfl, rfl⟩
              go_wp2_with fail
              exact bodyPost_ret (v := .tuple #[.int .u64 0, .iface 172 (.int .i64 2)]) (by simp [results, Tryz.results94, go_sem]) rfl ⟨rfl, HB0.out⟩
        · clear hle
          by_cases h95 : c = 95
          · subst h95
            go_wp2_with fail
            refine (HLW.out _).mono ?_
            rintro e w2 ⟨rfl, rfl⟩
            go_wp2_with fail
            exact bodyPost_ret (v := .tuple #[.int .u64 0, .iface 172 (.int .i64 2)]) (by simp [results, Tryz.results94, go_sem]) rfl ⟨rfl, HB0.out⟩
          · rcases h48' with h48 | ⟨h48, h57⟩
            · go_wp2_with fail
              refine (HLW.out _).mono ?_
              rintro e w2 ⟨rfl, rfl⟩
              go_wp2_with fail
              exact bodyPost_ret (v := .tuple #[.int .u64 0, .iface 172 (.int .i64 2)]) (by simp [results, Tryz.results94, go_sem]) rfl ⟨rfl, HB0.out⟩
            · go_wp2_with fail
              refine (HLW.out _).mono ?_
              rintro e w2 ⟨rfl, rfl⟩
              go_wp2_with fail
              exact bodyPost_ret (v := .tuple #[.int .u64 0, .iface 172 (.int .i64 2)]) (by simp [results, Tryz.results94, go_sem]) rfl ⟨rfl, HB0.out⟩
theorem pub8_8 (t : ByteArray) (m : Nat) (hm : m < t.size) (h1 : t.size ≤ 100) (hd : ∀ k, k < m → isDig 8 (byteAt t.data.toList k) = true) (hbad : isDig 8 (byteAt t.data.toList m) = false) (hv : valL 8 (t.data.toList.take m) ≤ 255) (w : World) :
    Calls Tryz.prog 94 #[.string t, .int .i64 8, .int .i64 8] w fun e w' => e = .returned (.tuple #[.int .u64 0, .iface 172 (.int .i64 2)]) ∧ Below w.heap.size w w' := by
  have h0 : t.size ≠ 0 := by omega
  have hne : (t.toList == (⟨#[]⟩ : ByteArray).toList) = false := by
    rw [beq_eq_false_iff_ne, Lib.toList_data, Lib.toList_data]
    intro e
    apply h0
    rw [← ba_toList_length, e]; rfl
  have hemp : t.toList.isEmpty = false := by
    cases hh : t.toList with
    | nil => rw [hh, Lib.toList_data] at hne; exact absurd hne (by decide)
    | cons c r => rfl
  have hcv := Lib.run_convert_string_bytes (P := Tryz.prog) w 9 33 5 t Tryz.underlying9 Tryz.underlying33 Tryz.underlying5
  have hown0 := own_bytesWorld w w.heap.size 5 t (Nat.le_refl _) (by unfold maxLen; omega)
  have hb0 := below_bytesWorld w 5 t
  have HD := Lib.hid hd; have HV := Lib.hid hv; have HBD := Lib.hid hbad; clear hd hv hne hbad
  have hlow := Tryz.internal_strconv_lower
  have HL := Lib.hid hlow; clear hlow
  go_enter Tryz.func94, Tryz.ntmps94
  go_wp2_with fail
  clear hcv
  generalize Lib.bytesWorld w 5 t = w1 at *
  generalize hcap : grownCap w t.size 0 5 = cap at *
  clear hcap
  go_loop [12, 13, 101] (fun s12 s13 s101 => s12 = .bool false ∧ ∃ k : Nat, k ≤ m ∧ s101 = .int .i64 k ∧ s13 = .int .u64 (valL 8 (t.data.toList.take k))) (fun s12 s13 s101 => t.size - (intOf s101).toNat)
  case atStart => exact ⟨rfl, 0, Nat.zero_le _, rfl, rfl⟩
  case round =>
    obtain ⟨rfl, k, hk, rfl, rfl⟩ := hrel
    by_cases hlm : k < m
    · have hlt : k < t.size := by omega
      have hc := hown0.cellAt k (by omega)
      have hkl : k < t.data.toList.length := by rw [ba_toList_length]; exact hlt
      have hgk : (bv t.data.toList)[k]? = some (.int .u8 (byteAt t.data.toList k)) := by
        unfold bv
        rw [List.getElem?_map, List.getElem?_eq_getElem hkl, byteAt_getL _ _ hkl]; rfl
      rw [hgk] at hc
      have hdk := HD.out k hlm
      have hm1 := valL_take 8 (by decide) (t.data.toList.take m) k
      rw [List.take_take, Nat.min_eq_left (by omega)] at hm1
      have hm2 := valL_take 8 (by decide) (t.data.toList.take m) (k + 1)
      rw [List.take_take, Nat.min_eq_left (by omega)] at hm2
      have hsn : valL 8 (t.data.toList.take (k + 1)) = valL 8 (t.data.toList.take k) * 8 + digV (byteAt t.data.toList k) := by
        rw [take_snoc t k hlt, valL, valF_snoc]
        congr 2
        exact byteAt_get t k hlt
      have hvv := HV.out
      have HSN := Lib.hid hsn
      have hbd := byteAt_bd t.data.toList k
      generalize byteAt t.data.toList k = c at *
      generalize valL 8 (t.data.toList.take k) = n at *
      generalize hmv : valL 8 (t.data.toList.take (k + 1)) = mm at *
      have HMV := Lib.hid hmv
      clear hsn hmv
      have h : 48 ≤ c ∧ c ≤ 55 := by
        simp [isDig, oct] at hdk; omega
      clear hdk
      have hn : n ≤ 255 := by omega
      · have hdv : (digV c : Int) = c - 48 := by unfold digV; rw [if_pos (by omega)]; omega
        have hsnn := HSN.out
        have hN0 : (0 : Int) ≤ (n : Int) := by omega
        have hN1 : (n : Int) ≤ 255 := by omega
        have hN2 : (n : Int) * 8 + (c - 48) ≤ 255 := by omega
        have hN3 : (mm : Int) = (n : Int) * 8 + (c - 48) := by omega
        have HM := Lib.hid hN3
        clear hN3 hm1 hm2 hn
        generalize (n : Int) = N at *
        go_wp2_with fail
        exact ⟨⟨rfl, k + 1, by omega, by rw [show ((k + 1 : Nat) : Int) = (k : Int) + 1 from by omega], by rw [HMV.out, HM.out]⟩, by simp [intOf]; omega⟩
    · obtain rfl : k = m := by omega
      have hlt : k < t.size := hm
      have hc := hown0.cellAt k (by omega)
      have hkl : k < t.data.toList.length := by rw [ba_toList_length]; exact hlt
      have hgk : (bv t.data.toList)[k]? = some (.int .u8 (byteAt t.data.toList k)) := by
        unfold bv
        rw [List.getElem?_map, List.getElem?_eq_getElem hkl, byteAt_getL _ _ hkl]; rfl
      rw [hgk] at hc
      have hbd := byteAt_bd t.data.toList k
      have hbk := HBD.out
      have hv1 := HV.out
      have HB0 := Lib.hid hb0
      clear hb0 HD HBD HV hgk hkl hk
      generalize byteAt t.data.toList k = c at *
      generalize valL 8 (t.data.toList.take k) = n at *
      have hn0 : (0 : Int) ≤ (n : Int) := by omega
      have hn1 : (n : Int) ≤ 255 := by omega
      clear hv1
      generalize (n : Int) = N at *
      have hlb := low_fin' c (by omega) (by omega)
      have HLW : Hid (∀ w, Calls Tryz.prog 103 #[.int .u8 c] w fun e w' => e = .returned (.int .u8 (bits .or .u8 c 32)) ∧ w' = w) := Lib.hid (fun w => HL.out c w)
      generalize bits .or .u8 c 32 = l at *
      obtain ⟨⟨hl0, hl1⟩, hl2⟩ := hlb
      by_cases h48 : 48 ≤ c ∧ c ≤ 57
      · have h56 : 56 ≤ c := by
          simp [isDig, oct] at hbk; omega
        obtain ⟨h48, h57⟩ := h48
        clear hl2 hbk
        go_wp2_with fail
        exact bodyPost_ret (v := .tuple #[.int .u64 0, .iface 172 (.int .i64 2)]) (by simp [results, Tryz.results94, go_sem]) rfl ⟨rfl, HB0.out⟩
      have h48' : ¬ 48 ≤ c ∨ (48 ≤ c ∧ ¬ c ≤ 57) := by omega
      clear h48
      by_cases hle : 97 ≤ l ∧ l ≤ 122
      · clear hl2 hbk
        obtain ⟨hle1, hle2⟩ := hle
        by_cases h95 : c = 95
        · subst h95
          go_wp2_with fail
          refine (HLW.out _).mono ?_
          rintro e w2 ⟨rfl, rfl⟩
          go_wp2_with fail
          refine (HLW.out _).mono ?_
          rintro e w2 ⟨rfl, rfl⟩
          go_wp2_with fail
          refine (HLW.out _).mono ?_
          rintro e w2 ⟨rfl, rfl⟩
          go_wp2_with fail
          exact bodyPost_ret (v := .tuple #[.int .u64 0, .iface 172 (.int .i64 2)]) (by simp [results, Tryz.results94, go_sem]) rfl ⟨rfl, HB0.out⟩
        · rcases h48' with h48 | ⟨h48, h57⟩
          · go_wp2_with fail
            refine (HLW.out _).mono ?_
            rintro e w2 ⟨rfl, rfl⟩
            go_wp2_with fail
            refine (HLW.out _).mono ?_
            rintro e w2 ⟨rfl, rfl⟩
            go_wp2_with fail
            refine (HLW.out _).mono ?_
            rintro e w2 ⟨rfl, rfl⟩
            go_wp2_with fail
            exact bodyPost_ret (v := .tuple #[.int .u64 0, .iface 172 (.int .i64 2)]) (by simp [results, Tryz.results94, go_sem]) rfl ⟨rfl, HB0.out⟩
          · go_wp2_with fail
            refine (HLW.out _).mono ?_
            rintro e w2 ⟨rfl, rfl⟩
            go_wp2_with fail
            refine (HLW.out _).mono ?_
            rintro e w2 ⟨rfl, rfl⟩
            go_wp2_with fail
            refine (HLW.out _).mono ?_
            rintro e w2 ⟨rfl, rfl⟩
            go_wp2_with fail
            exact bodyPost_ret (v := .tuple #[.int .u64 0, .iface 172 (.int .i64 2)]) (by simp [results, Tryz.results94, go_sem]) rfl ⟨rfl, HB0.out⟩
      · clear hl2 hbk
        by_cases hle1 : 97 ≤ l
        · have hle2 : ¬ l ≤ 122 := fun h => hle ⟨hle1, h⟩
          clear hle
          by_cases h95 : c = 95
          · subst h95
            go_wp2_with fail
            refine (HLW.out _).mono ?_
            rintro e w2 ⟨rfl, rfl⟩
            go_wp2_with fail
            refine (HLW.out _).mono ?_
            rintro e w2 ⟨rfl, rfl⟩
            go_wp2_with fail
            exact bodyPost_ret (v := .tuple #[.int .u64 0, .iface 172 (.int .i64 2)]) (by simp [results, Tryz.results94, go_sem]) rfl ⟨rfl, HB0.out⟩
          · rcases h48' with h48 | ⟨h48, h57⟩
            · go_wp2_with fail
              refine (HLW.out _).mono ?_
              rintro e w2 ⟨rfl, rfl⟩
              go_wp2_with fail
              refine (HLW.out _).mono ?_
              rintro e w2 ⟨rfl, rfl⟩
              go_wp2_with fail
              exact bodyPost_ret (v := .tuple #[.int .u64 0, .iface 172 (.int .i64 2)]) (by simp [results, Tryz.results94, go_sem]) rfl ⟨rfl, HB0.out⟩
            · go_wp2_with fail
              refine (HLW.out _).mono ?_
              rintro e w2 ⟨rfl, rfl⟩
              go_wp2_with fail
              refine (HLW.out _).mono ?_
              rintro e w2 ⟨rfl, rfl⟩
              go_wp2_with fail
              exact bodyPost_ret (v := .tuple #[.int .u64 0, .iface 172 (.int .i64 2)]) (by simp [results, Tryz.results94, go_sem]) rfl ⟨rfl, HB0.out⟩
        · clear hle
          by_cases h95 : c = 95
          · subst h95
            go_wp2_with fail
            refine (HLW.out _).mono ?_
            rintro e w2 ⟨rfl, rfl⟩
            go_wp2_with fail
            exact bodyPost_ret (v := .tuple #[.int .u64 0, .iface 172 (.int .i64 2)]) (by simp [results, Tryz.results94, go_sem]) rfl ⟨rfl, HB0.out⟩
          · rcases h48' with h48 | ⟨h48, h57⟩
            · go_wp2_with fail
              refine (HLW.out _).mono ?_
              rintro e w2 ⟨rfl, rfl⟩
              go_wp2_with fail
              exact bodyPost_ret (v := .tuple #[.int .u64 0, .iface 172 (.int .i64 2)]) (by simp [results, Tryz.results94, go_sem]) rfl ⟨rfl, HB0.out⟩
            · go_wp2_with fail
              refine (HLW.out _).mono ?_
              rintro e w2 ⟨rfl, rfl⟩
              go_wp2_with fail
              exact bodyPost_ret (v := .tuple #[.int .u64 0, .iface 172 (.int .i64 2)]) (by simp [results, Tryz.results94, go_sem]) rfl ⟨rfl, HB0.out⟩

theorem parseBad16_8 (t : ByteArray) (m : Nat) (hm : m < t.size) (h1 : t.size ≤ 100) (hd : ∀ k, k < m → isDig 16 (byteAt t.data.toList k) = true) (hbad : isDig 16 (byteAt t.data.toList m) = false) (hv : valL 16 (t.data.toList.take m) ≤ 255) (w : World) {ev : Value} (hE : w.cell? ⟨4, 0, none⟩ = some ev) (hev : ev = .nilIface ∨ ∃ te pe, ev = .iface te pe) :
    Calls Tryz.prog 86 #[.string t, .int .i64 16, .int .i64 8] w fun e w' => (∃ N, e = .returned (.tuple #[.int .u64 0, .iface 174 (.pointer (some ⟨N, 0, none⟩))])) ∧ Below w.heap.size w w' := by
  have HC := Lib.hid (pub16_8 t m hm h1 hd hbad hv w)
  have HE := Lib.hid (fun (w1 : World) (hb : Below w.heap.size w w1) => Tryz.strconv_toError_syntax ⟨#[80, 97, 114, 115, 101, 85, 105, 110, 116]⟩ t 16 8 ev w1 (by omega) ((hb.cell (p := ⟨4, 0, none⟩) (World.block_lt_of_cell? _ _ hE)).trans hE) hev)
  clear hd hbad hv hE hev
  go_enter Tryz.func86, Tryz.ntmps86
  go_wp2_with fail
  refine HC.out.mono ?_
  rintro e w1 ⟨rfl, hb⟩
  have HT := Lib.hid (HE.out w1 hb)
  have HB := Lib.hid hb; clear hb HE
  go_wp2_with fail
  refine HT.out.mono ?_
  rintro e w2 ⟨N, rfl, _, _, hb2⟩
  have HB2 := Lib.hid (HB.out.trans (hb2.mono HB.out.size))
  clear hb2 HT HB
  go_wp2_with fail
  exact bodyPost_ret (v := .tuple #[.int .u64 0, .iface 174 (.pointer (some ⟨N, 0, none⟩))]) (by simp [results, Tryz.results86, go_sem]) rfl ⟨⟨N, rfl⟩, HB2.out⟩

theorem parseBad16_32 (t : ByteArray) (m : Nat) (hm : m < t.size) (h1 : t.size ≤ 100) (hd : ∀ k, k < m → isDig 16 (byteAt t.data.toList k) = true) (hbad : isDig 16 (byteAt t.data.toList m) = false) (hv : valL 16 (t.data.toList.take m) ≤ 4294967295) (w : World) {ev : Value} (hE : w.cell? ⟨4, 0, none⟩ = some ev) (hev : ev = .nilIface ∨ ∃ te pe, ev = .iface te pe) :
    Calls Tryz.prog 86 #[.string t, .int .i64 16, .int .i64 32] w fun e w' => (∃ N, e = .returned (.tuple #[.int .u64 0, .iface 174 (.pointer (some ⟨N, 0, none⟩))])) ∧ Below w.heap.size w w' := by
  have HC := Lib.hid (pub16_32 t m hm h1 hd hbad hv w)
  have HE := Lib.hid (fun (w1 : World) (hb : Below w.heap.size w w1) => Tryz.strconv_toError_syntax ⟨#[80, 97, 114, 115, 101, 85, 105, 110, 116]⟩ t 16 32 ev w1 (by omega) ((hb.cell (p := ⟨4, 0, none⟩) (World.block_lt_of_cell? _ _ hE)).trans hE) hev)
  clear hd hbad hv hE hev
  go_enter Tryz.func86, Tryz.ntmps86
  go_wp2_with fail
  refine HC.out.mono ?_
  rintro e w1 ⟨rfl, hb⟩
  have HT := Lib.hid (HE.out w1 hb)
  have HB := Lib.hid hb; clear hb HE
  go_wp2_with fail
  refine HT.out.mono ?_
  rintro e w2 ⟨N, rfl, _, _, hb2⟩
  have HB2 := Lib.hid (HB.out.trans (hb2.mono HB.out.size))
  clear hb2 HT HB
  go_wp2_with fail
  exact bodyPost_ret (v := .tuple #[.int .u64 0, .iface 174 (.pointer (some ⟨N, 0, none⟩))]) (by simp [results, Tryz.results86, go_sem]) rfl ⟨⟨N, rfl⟩, HB2.out⟩

theorem parseBad8_8 (t : ByteArray) (m : Nat) (hm : m < t.size) (h1 : t.size ≤ 100) (hd : ∀ k, k < m → isDig 8 (byteAt t.data.toList k) = true) (hbad : isDig 8 (byteAt t.data.toList m) = false) (hv : valL 8 (t.data.toList.take m) ≤ 255) (w : World) {ev : Value} (hE : w.cell? ⟨4, 0, none⟩ = some ev) (hev : ev = .nilIface ∨ ∃ te pe, ev = .iface te pe) :
    Calls Tryz.prog 86 #[.string t, .int .i64 8, .int .i64 8] w fun e w' => (∃ N, e = .returned (.tuple #[.int .u64 0, .iface 174 (.pointer (some ⟨N, 0, none⟩))])) ∧ Below w.heap.size w w' := by
  have HC := Lib.hid (pub8_8 t m hm h1 hd hbad hv w)
  have HE := Lib.hid (fun (w1 : World) (hb : Below w.heap.size w w1) => Tryz.strconv_toError_syntax ⟨#[80, 97, 114, 115, 101, 85, 105, 110, 116]⟩ t 8 8 ev w1 (by omega) ((hb.cell (p := ⟨4, 0, none⟩) (World.block_lt_of_cell? _ _ hE)).trans hE) hev)
  clear hd hbad hv hE hev
  go_enter Tryz.func86, Tryz.ntmps86
  go_wp2_with fail
  refine HC.out.mono ?_
  rintro e w1 ⟨rfl, hb⟩
  have HT := Lib.hid (HE.out w1 hb)
  have HB := Lib.hid hb; clear hb HE
  go_wp2_with fail
  refine HT.out.mono ?_
  rintro e w2 ⟨N, rfl, _, _, hb2⟩
  have HB2 := Lib.hid (HB.out.trans (hb2.mono HB.out.size))
  clear hb2 HT HB
  go_wp2_with fail
  exact bodyPost_ret (v := .tuple #[.int .u64 0, .iface 174 (.pointer (some ⟨N, 0, none⟩))]) (by simp [results, Tryz.results86, go_sem]) rfl ⟨⟨N, rfl⟩, HB2.out⟩
end Go.Proofs.YtcelnnjjakiehaaGreatDoor
