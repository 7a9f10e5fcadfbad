/-
  The contracts of laws.upper and char.ToUpper.
-/
import Derived.Test.YtcelnnjjakiehaaGreatDoorRows
import Derived.Test.YtcelnnjjakiehaaGreatDoorMem
namespace Go.Proofs.YtcelnnjjakiehaaGreatDoor
open Go.RowKit
def upB (c : UInt8) : UInt8 := if 97 ≤ c.toNat ∧ c.toNat ≤ 122 then c - 32 else c
def upL (l : List UInt8) : List UInt8 := l.map upB
theorem upB_yes {c : UInt8} (h1 : 97 ≤ c.toNat) (h2 : c.toNat ≤ 122) : ((upB c).toNat : Int) = (c.toNat : Int) - 32 := by
  unfold upB; rw [if_pos ⟨h1, h2⟩]
  have : (c - 32).toNat = c.toNat - 32 := by
    rw [UInt8.toNat_sub_of_le]; rfl
    rw [UInt8.le_iff_toNat_le]; show 32 ≤ _; omega
  omega
theorem upB_no {c : UInt8} (h : ¬ (97 ≤ c.toNat ∧ c.toNat ≤ 122)) : upB c = c := by unfold upB; rw [if_neg h]

/-- the first k letters turned -/
def upTo (l : List UInt8) (k : Nat) : List UInt8 := (l.take k).map upB ++ l.drop k
theorem upTo_zero (l : List UInt8) : upTo l 0 = l := by simp [upTo]
theorem upTo_end (l : List UInt8) (k : Nat) (h : l.length ≤ k) : upTo l k = upL l := by
  simp [upTo, upL, List.take_of_length_le h, List.drop_of_length_le h]
theorem upTo_get (l : List UInt8) (k : Nat) (h : k < l.length) : (bv (upTo l k))[k]? = some (.int .u8 (l[k]).toNat) := by
  simp [bv, upTo, List.getElem?_append, h, Nat.min_eq_left (Nat.le_of_lt h)]
theorem upTo_succ (l : List UInt8) (k : Nat) (h : k < l.length) : (bv (upTo l k)).set k (.int .u8 (upB l[k]).toNat) = bv (upTo l (k + 1)) := by
  rw [bv_set]
  congr 1
  unfold upTo
  rw [List.take_succ_eq_append_getElem h, List.drop_eq_getElem_cons h, List.set_append, if_neg (by simp; omega)]
  have hk : k - (List.map upB (List.take k l)).length = 0 := by simp; omega
  rw [hk, List.map_append, List.append_assoc]
  rfl
theorem set_self (l : List Value) (k : Nat) (v : Value) (h : l[k]? = some v) : l.set k v = l := by
  obtain ⟨hk, rfl⟩ := List.getElem?_eq_some_iff.1 h
  exact List.set_getElem_self hk
theorem upTo_same (l : List UInt8) (k : Nat) (h : k < l.length) (hc : upB l[k] = l[k]) : bv (upTo l k) = bv (upTo l (k + 1)) := by
  rw [← upTo_succ l k h, hc]
  exact (set_self _ _ _ (upTo_get l k h)).symm

set_option maxRecDepth 20000 in
set_option maxHeartbeats 400000 in
theorem upper_any (s : ByteArray) (w : World) (hs : s.size ≤ maxLen) :
    Calls Tryz.prog 23 #[.string s] w fun e w' => e = .returned (.string ⟨(upL s.data.toList).toArray⟩) ∧ Below w.heap.size w w' := by
  have hcv := Lib.run_convert_string_bytes (P := Tryz.prog) w 9 33 5 s Tryz.underlying9 Tryz.underlying33 Tryz.underlying5
  have hown0 := own_bytesWorld w w.heap.size 5 s (Nat.le_refl _) hs
  have hb0 := below_bytesWorld w 5 s
  have hS := ba_toList_length s
  have HS := Lib.hid hS; clear hS
  unfold maxLen at hs
  go_enter Tryz.func23, Tryz.ntmps23
  go_wp2
  clear hcv
  generalize Lib.bytesWorld w 5 s = w0 at *
  generalize hcap : grownCap w s.size 0 5 = cap at *
  clear hcap
  go_loopw [9] (fun i wr => ∃ k : Nat, k ≤ s.size ∧ i = .int .i64 k ∧ Own wr w.heap.size 5 1 (.slice (some ⟨w.heap.size, 0, none⟩) s.size cap) s.size (bv (upTo s.data.toList k)) ∧ Below w.heap.size w wr) (fun i _ => s.size - (intOf i).toNat)
  case atStart => exact ⟨0, Nat.zero_le _, rfl, by rw [upTo_zero]; exact hown0, hb0⟩
  case round =>
    obtain ⟨k, hk, rfl, hown, hb⟩ := hrel
    clear hown0 hb0
    by_cases hlt : k < s.size
    · have hL : k < s.data.toList.length := by rw [HS.out]; exact hlt
      have hc := hown.cellAt k (by omega)
      rw [upTo_get _ k hL] at hc
      have hf := hown.frozenAt k (by omega)
      have hst := fun u => hown.stored k u
      have HST := Lib.hid hst; clear hst
      generalize hx : s.data.toList[k] = c at hc
      have HX := Lib.hid hx; clear hx
      go_wp2
      · have h1 : 97 ≤ ((c.toNat : Nat) : Int) := by assumption
        have h2 : ((c.toNat : Nat) : Int) ≤ 122 := by assumption
        go_roundw
        case rel =>
          refine ⟨k + 1, by omega, by go_num, ?_, hb.setCell (Nat.le_refl _) _⟩
          rw [← upTo_succ _ k hL, HX.out, upB_yes (by omega) (by omega)]
          exact HST.out _
        case measure => simp [intOf]; omega
      all_goals
        go_roundw
        case rel =>
          refine ⟨k + 1, by omega, by go_num, ?_, hb⟩
          rw [← upTo_same _ k hL (by rw [HX.out]; exact upB_no (by omega))]
          exact hown
        case measure => simp [intOf]; omega
    · have hkn : s.data.toList.length ≤ k := by rw [HS.out]; omega
      rw [upTo_end _ _ hkn] at hown
      have hcv2 := run_string_Own (P := Tryz.prog) (w := wr) hown 33 9 Tryz.underlying33 Tryz.underlying5 Tryz.underlying9
      go_wp2
      go_ret
      exact ⟨rfl, hb⟩
theorem info_u8 : (Tryz.prog.info? 5).map (fun i => (i.zero, i.size, i.bytes)) = some (some (.int .u8 0), 1, 1) := by kernel_rfl
/-- what char.ToUpper has gathered behind k letters -/
def UpSt (B : Nat) (l : List UInt8) (k : Nat) (v : Value) (wr : World) : Prop :=
  (v = .slice none 0 0 ∧ upL (l.take k) = l.take k) ∨ (∃ g cap, v = .slice (some ⟨g, 0, none⟩) k cap ∧ Own wr B 5 1 v k (bv (upL (l.take k))))
theorem upL_snoc (l : List UInt8) (c : UInt8) : upL (l ++ [c]) = upL l ++ [upB c] := by simp [upL]
theorem UpSt.app {B : Nat} {s : ByteArray} {k : Nat} {v' : Value} {w1 : World} {x : Int} {l : List UInt8} (hlt : k < s.size) (hT : s.data.toList.take (k + 1) = s.data.toList.take k ++ [s[k]]) (hl : l = upL (s.data.toList.take k)) (hv : x = ((upB s[k]).toNat : Int))
    (hown : Own w1 B 5 1 v' (k + 1) (bv l ++ [.int .u8 x])) (hne : ¬ v' = .slice none 0 0) : UpSt B s.data.toList (k + 1) v' w1 := by
  right
  rcases hown.shape with ⟨h, _⟩ | ⟨g, cap, h, _⟩
  · exact absurd h hne
  · refine ⟨g, cap, h, ?_⟩
    rw [hT, upL_snoc, ← hl, bv_append]
    rw [hv] at hown
    exact hown
set_option maxRecDepth 20000 in
set_option maxHeartbeats 400000 in
theorem charUpper_any (s : ByteArray) (w : World) (hs : s.size ≤ 140737488355328) :
    Calls Tryz.prog 47 #[.string s] w fun e w' => e = .returned (.string ⟨(upL s.data.toList).toArray⟩) ∧ Below w.heap.size w w' := by
  have hS := ba_toList_length s
  have HS := Lib.hid hS; clear hS
  obtain ⟨i0, hi, hz0, hz1, hz2⟩ := info_parts info_u8
  have hnil := fun (wx : World) (a : Option Addr) (n c : Nat) => Lib.run_eql_slice_nil (P := Tryz.prog) wx 33 5 a n c 0 0 Tryz.underlying33
  have hnnil := fun (wx : World) (a : Option Addr) (n c : Nat) => run_neq_slice_nil_any (P := Tryz.prog) wx 33 5 a n c 0 0 Tryz.underlying33
  go_enter Tryz.func47, Tryz.ntmps47
  go_wp2
  go_loopw [3, 4] (fun v i wr => ∃ k : Nat, k ≤ s.size ∧ i = .int .i64 k ∧ UpSt w.heap.size s.data.toList k v wr ∧ Below w.heap.size w wr) (fun _ i _ => s.size - (intOf i).toNat)
  case atStart => exact ⟨0, Nat.zero_le _, rfl, .inl ⟨rfl, rfl⟩, Below.refl _ _⟩
  case round =>
    obtain ⟨k, hk, rfl, hst, hb⟩ := hrel
    by_cases hlt : k < s.size
    · have HT := Lib.hid (take_snoc s k hlt)
      have hsz : w.heap.size ≤ wr.heap.size := hb.size
      by_cases hc : 97 ≤ (s[k].toNat : Int) ∧ (s[k].toNat : Int) ≤ 122
      · have HC := Lib.hid hc
        obtain ⟨hc1, hc2⟩ := hc
        rcases hst with ⟨rfl, hsame⟩ | ⟨g, cap, rfl, hown⟩
        · have HSM := Lib.hid hsame; clear hsame
          have hxs : (s.extract 0 k).size = k := by simp; omega
          have HXS := Lib.hid hxs
          have hcv := Lib.run_convert_string_bytes (P := Tryz.prog) wr 9 33 5 (s.extract 0 k) Tryz.underlying9 Tryz.underlying33 Tryz.underlying5
          have hown := own_bytesWorld wr w.heap.size 5 (s.extract 0 k) hsz (by unfold maxLen; omega)
          rw [hxs] at hcv hown
          have hbv : (s.extract 0 k).data.toList = s.data.toList.take k := by simp
          rw [hbv] at hown
          have hb2 := hb.trans ((below_bytesWorld wr 5 (s.extract 0 k)).mono hsz)
          have hsz2 := Lib.bytesWorld_size wr 5 (s.extract 0 k)
          have HSZ2 := Lib.hid hsz2; clear hsz2 hxs hbv
          generalize Lib.bytesWorld wr 5 (s.extract 0 k) = wb at *
          have hgt : w.heap.size ≤ wb.heap.size := by rw [HSZ2.out]; omega
          have hv : (65 + ((s[k].toNat : Int) - 97)) = ((upB s[k]).toNat : Int) := by rw [upB_yes (by omega) (by omega)]; omega
          have HV := Lib.hid hv; clear hv
          go_wp2_with (at_builtin; go_loud (refine wpList_append_Own _ rfl (.tmp 27) (.tmp 31) 33 rfl w.heap.size 5 i0 (.int .u8 0) 1 1 Tryz.underlying33 hi hz0 hz1 hz2 rfl (by decide) _ _ _ rfl (hown.alloc _) ⟨wb.heap.size, 0, none⟩ 1 1 [.int .u8 (65 + ((s[k].toNat : Int) - 97))] rfl rfl (cell_one_new _ _ _) (by simp [Value.oneCell']) (by unfold maxLen; omega) (by omega) (by simp; omega) ?_))
          intro v' w1 hown1 hg1 hbk hne
          go_wp2
          go_roundw
          case rel => exact ⟨k + 1, by omega, by go_num, UpSt.app hlt HT.out HSM.out.symm HV.out hown1 hne, (hb2.alloc hgt _).grown hg1 (by simp; omega) (by intro j hj; simp only [Value.ownBlock, Option.some.injEq] at hj; omega)⟩
          case measure => simp [intOf]; omega
        · have hv : (65 + ((s[k].toNat : Int) - 97)) = ((upB s[k]).toNat : Int) := by rw [upB_yes (by omega) (by omega)]; omega
          have HV := Lib.hid hv; clear hv
          have hgb := hown.lt g rfl
          go_wp2_with (at_builtin; go_loud (refine wpList_append_Own _ rfl (.tmp 27) (.tmp 31) 33 rfl w.heap.size 5 i0 (.int .u8 0) 1 1 Tryz.underlying33 hi hz0 hz1 hz2 rfl (by decide) _ _ _ rfl (hown.alloc _) ⟨wr.heap.size, 0, none⟩ 1 1 [.int .u8 (65 + ((s[k].toNat : Int) - 97))] rfl rfl (cell_one_new _ _ _) (by simp [Value.oneCell']) (by unfold maxLen; omega) (by omega) (by simp; omega) ?_))
          intro v' w1 hown1 hg1 hbk hne
          go_wp2
          go_roundw
          case rel => exact ⟨k + 1, by omega, by go_num, UpSt.app hlt HT.out rfl HV.out hown1 hne, (hb.alloc hsz _).grown hg1 (by simp; omega) (by intro j hj; simp only [Value.ownBlock, Option.some.injEq] at hj; omega)⟩
          case measure => simp [intOf]; omega
      · have hv : ((s[k].toNat : Nat) : Int) = ((upB s[k]).toNat : Int) := by rw [upB_no (by omega)]
        have hv2 : upB s[k] = s[k] := upB_no (by omega)
        have HV := Lib.hid hv; clear hv
        have HV2 := Lib.hid hv2; clear hv2
        rcases hst with ⟨rfl, hsame⟩ | ⟨g, cap, rfl, hown⟩
        · have HSM := Lib.hid hsame; clear hsame
          go_wp2
          all_goals
            go_roundw
            case rel => exact ⟨k + 1, by omega, by go_num, .inl ⟨rfl, by rw [HT.out, upL_snoc, HSM.out, HV2.out]⟩, hb⟩
            case measure => simp [intOf]; omega
        · have hgb := hown.lt g rfl
          by_cases h97 : 97 ≤ ((s[k].toNat : Nat) : Int)
          all_goals
            go_wp2_with (at_builtin; go_loud (refine wpList_append_Own _ rfl (.tmp 35) (.tmp 37) 33 rfl w.heap.size 5 i0 (.int .u8 0) 1 1 Tryz.underlying33 hi hz0 hz1 hz2 rfl (by decide) _ _ _ rfl (hown.alloc _) ⟨wr.heap.size, 0, none⟩ 1 1 [.int .u8 (s[k].toNat : Int)] rfl rfl (cell_one_new _ _ _) (by simp [Value.oneCell']) (by unfold maxLen; omega) (by omega) (by simp; omega) ?_))
            intro v' w1 hown1 hg1 hbk hne
            go_wp2
            go_roundw
            case rel => exact ⟨k + 1, by omega, by go_num, UpSt.app hlt HT.out rfl HV.out hown1 hne, (hb.alloc hsz _).grown hg1 (by simp; omega) (by intro j hj; simp only [Value.ownBlock, Option.some.injEq] at hj; omega)⟩
            case measure => simp [intOf]; omega
    · have hkn : s.data.toList.take k = s.data.toList := List.take_of_length_le (by rw [HS.out]; omega)
      rcases hst with ⟨rfl, hsame⟩ | ⟨g, cap, rfl, hown⟩
      · have HSM := Lib.hid hsame; clear hsame
        have HKN := Lib.hid hkn; clear hkn
        go_wp2
        go_ret
        refine ⟨ret_str ?_, hb⟩
        have h := HSM.out
        rw [HKN.out] at h
        rw [h]
      · rw [hkn] at hown
        clear hkn
        have hcv2 := run_string_Own (P := Tryz.prog) (w := wr) hown 33 9 Tryz.underlying33 Tryz.underlying5 Tryz.underlying9
        go_wp2
        go_ret
        exact ⟨rfl, hb⟩
end Go.Proofs.YtcelnnjjakiehaaGreatDoor
