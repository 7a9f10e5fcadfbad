/-
  The contract of laws.within: whether a text has another one in it.
-/
import Derived.Test.YtcelnnjjakiehaaGreatDoorRows
import Derived.Test.YtcelnnjjakiehaaGreatDoorMem
import Derived.Lib.Strings
namespace Go.Proofs.YtcelnnjjakiehaaGreatDoor
open Go.RowKit
/-- whether a text has another one in it -/
def has (p : List UInt8) : List UInt8 → Bool
  | [] => p.isPrefixOf []
  | c :: r => p.isPrefixOf (c :: r) || has p r
theorem has_drop (p l : List UInt8) (k : Nat) (h : k < l.length) : has p (l.drop k) = (p.isPrefixOf (l.drop k) || has p (l.drop (k + 1))) := by
  rw [List.drop_eq_getElem_cons h]
  simp [has]
theorem has_short (p : List UInt8) : ∀ l : List UInt8, l.length < p.length → has p l = false := by
  have key : ∀ l : List UInt8, l.length < p.length → p.isPrefixOf l = false := by
    intro l h
    cases hp : p.isPrefixOf l with
    | false => rfl
    | true => have := (List.isPrefixOf_iff_prefix.1 hp).length_le; omega
  intro l
  induction l with
  | nil => intro h; exact key [] h
  | cons c r ih => intro h; simp only [has, key (c :: r) h, Bool.false_or]; exact ih (by simp at h; omega)
theorem has_of (p a b : List UInt8) : has p (a ++ p ++ b) = true := by
  induction a with
  | nil =>
    have hp : p.isPrefixOf (p ++ b) = true := List.isPrefixOf_iff_prefix.2 (List.prefix_append p b)
    rw [List.nil_append]
    cases h : p ++ b with
    | nil => rw [h] at hp; exact hp
    | cons c r => rw [h] at hp; simp [has, hp]
  | cons c r ih => simp only [List.cons_append, has, ih, Bool.or_true]
theorem pre_at (s p : ByteArray) (k : Nat) : ((s.extract k (k + p.size)).toList == p.toList) = p.data.toList.isPrefixOf (s.data.toList.drop k) := by
  rw [Lib.toList_data, Lib.toList_data, Lib.extract_data, show k + p.size - k = p.size from by omega]
  rw [Bool.eq_iff_iff, beq_iff_eq, List.isPrefixOf_iff_prefix, List.prefix_iff_eq_take, ba_toList_length]
  exact eq_comm
set_option maxRecDepth 20000 in
set_option maxHeartbeats 400000 in
theorem within_any (s p : ByteArray) (w : World) (hs : s.size ≤ 4294967296) (hp : p.size ≤ 4294967296) :
    Calls Tryz.prog 11 #[.string s, .string p] w fun e w' => e = .returned (.bool (has p.data.toList s.data.toList)) ∧ w = w' := by
  go_enter Tryz.func11, Tryz.ntmps11
  go_wp2_with fail
  go_loop [5] (fun i => ∃ k : Nat, k ≤ s.size ∧ i = .int .i64 k ∧ has p.data.toList s.data.toList = has p.data.toList (s.data.toList.drop k)) (fun i => s.size + 1 - (intOf i).toNat)
  case atStart => exact ⟨0, Nat.zero_le _, rfl, rfl⟩
  case round =>
    obtain ⟨k, hk, rfl, hA⟩ := hrel
    have HA := Lib.hid hA; clear hA
    by_cases hlt : k + p.size ≤ s.size
    · have HP := Lib.hid (pre_at s p k)
      go_wp2_with fail
      · have ht : ((s.extract k (k + p.size)).toList == p.toList) = true := by assumption
        rw [HP.out] at ht
        go_ret
        refine ⟨ret_bool ?_, rfl⟩
        rw [HA.out]
        cases hd : s.data.toList.drop k with
        | nil => rw [hd] at ht; simp [has, ht]
        | cons c r => rw [hd] at ht; simp [has, ht]
      · have ht : ((s.extract k (k + p.size)).toList == p.toList) = false := by assumption
        rw [HP.out] at ht
        have hlt2 : k < s.size := by
          rcases Nat.lt_or_ge k s.size with h | h
          · exact h
          · exfalso
            have hp0 : p.data.toList = [] := List.eq_nil_of_length_eq_zero (by rw [ba_toList_length]; omega)
            rw [hp0] at ht
            simp at ht
        have hd := has_drop p.data.toList s.data.toList k (by rw [ba_toList_length]; exact hlt2)
        rw [ht, Bool.false_or] at hd
        go_round
        case rel => exact ⟨k + 1, by omega, by go_num, by rw [HA.out, hd]⟩
        case measure => simp [intOf]; omega
    · go_wp2_with fail
      go_ret
      refine ⟨ret_bool ?_, rfl⟩
      rw [HA.out]
      exact (has_short _ _ (by rw [List.length_drop, ba_toList_length, ba_toList_length]; omega)).symm
end Go.Proofs.YtcelnnjjakiehaaGreatDoor
