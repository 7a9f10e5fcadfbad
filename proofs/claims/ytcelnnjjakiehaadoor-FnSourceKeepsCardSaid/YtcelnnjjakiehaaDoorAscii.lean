/-
  The contract of laws.ascii.
-/
import Derived.Test.YtcelnnjjakiehaaDoorRows
import Derived.Test.YtcelnnjjakiehaaDoorMem
namespace Go.Proofs.YtcelnnjjakiehaaDoor
open Go.RowKit
def asc (l : List UInt8) : Bool := l.all fun c => decide (c.toNat < 128)
theorem asc_snoc (l : List UInt8) (c : UInt8) : asc (l ++ [c]) = (asc l && decide (c.toNat < 128)) := by simp [asc]
theorem asc_of_take {l : List UInt8} {k : Nat} (h : asc (l.take k) = false) : asc l = false := by
  rw [← List.take_append_drop k l]; unfold asc at *; rw [List.all_append, h]; rfl
set_option maxRecDepth 20000 in
set_option maxHeartbeats 400000 in
theorem ascii_any (s : ByteArray) (w : World) (hs : s.size ≤ maxLen) :
    Calls Tryd.prog 5 #[.string s] w fun e w' => e = .returned (.bool (asc s.data.toList)) ∧ w = w' := by
  unfold maxLen at hs
  go_enter Tryd.func5, Tryd.ntmps5
  go_wp2
  go_loop [3] (fun i => ∃ k : Nat, k ≤ s.size ∧ i = .int .i64 k ∧ asc (s.data.toList.take k) = true) (fun i => s.size - (intOf i).toNat)
  case atStart => exact ⟨0, Nat.zero_le _, rfl, rfl⟩
  case round =>
    obtain ⟨k, hk, rfl, hA⟩ := hrel
    have HA := Lib.hid hA; clear hA
    by_cases hlt : k < s.size
    · have HT := Lib.hid (take_snoc s k hlt)
      go_wp2
      · go_ret
        exact ⟨ret_bool (by
          have h : 128 ≤ ((s[k].toNat : Nat) : Int) := by assumption
          refine (asc_of_take (k := k + 1) ?_).symm
          rw [HT.out, asc_snoc, decide_eq_false (by omega)]; simp), rfl⟩
      · go_round
        case rel =>
          have h : ((s[k].toNat : Nat) : Int) < 128 := by assumption
          exact ⟨k + 1, by omega, by go_num, by rw [HT.out, asc_snoc, HA.out, decide_eq_true (by omega)]; rfl⟩
        case measure => simp [intOf]; omega
    · go_wp2
      go_ret
      exact ⟨ret_bool (by have h := HA.out; rw [List.take_of_length_le (by simp; omega)] at h; exact h.symm), rfl⟩
end Go.Proofs.YtcelnnjjakiehaaDoor
