/-
  The contracts of token.zzIndex, zzSplit (at one line feed), File.init, File.ResolvePos.
-/
import Derived.Test.YtcelnnjjakiehaaGreatDoorRows
import Derived.Test.YtcelnnjjakiehaaGreatDoorLines
import Derived.Lib.Strings
namespace Go.Proofs.YtcelnnjjakiehaaGreatDoor
open Go.RowKit
theorem info_str : (Tryz.prog.info? 9).map (fun i => (i.zero, i.size, i.bytes)) = some (some (.string ⟨#[]⟩), 1, 16) := by kernel_rfl
theorem info_pos : (Tryz.prog.info? 60).map (fun i => (i.zero, i.size, i.bytes)) = some (some (.int .i64 0), 1, 8) := by kernel_rfl
theorem one_at (s : ByteArray) (k : Nat) (h : k < s.size) : (s.extract k (k + 1)).toList = [s[k]] := by
  rw [Lib.toList_data, Lib.extract_data, List.drop_eq_getElem_cons (by rw [ba_toList_length]; exact h)]
  simp; rfl
theorem drop_at (s : ByteArray) (k : Nat) (h : k < s.size) : s.data.toList.drop k = s[k] :: s.data.toList.drop (k + 1) := by
  rw [List.drop_eq_getElem_cons (by rw [ba_toList_length]; exact h)]; rfl
set_option maxRecDepth 20000 in
set_option maxHeartbeats 400000 in
theorem index_any (s : ByteArray) (w : World) (hs : s.size ≤ 140737488355328) :
    Calls Tryz.prog 131 #[.string s, .string ⟨#[10]⟩] w fun e w' => e = .returned (.int .i64 (nlFrom s.data.toList 0)) ∧ w = w' := by
  go_enter Tryz.func131, Tryz.ntmps131
  go_wp2
  go_loop [5] (fun i => ∃ k : Nat, k ≤ s.size ∧ i = .int .i64 k ∧ nlFrom s.data.toList 0 = nlFrom (s.data.toList.drop k) k) (fun i => s.size - (intOf i).toNat)
  case atStart => exact ⟨0, Nat.zero_le _, rfl, rfl⟩
  case round =>
    obtain ⟨k, hk, rfl, hA⟩ := hrel
    have HA := Lib.hid hA; clear hA
    by_cases hlt : k < s.size
    · have HO := Lib.hid (one_at s k hlt)
      have HD := Lib.hid (drop_at s k hlt)
      go_wp2
      · have ht : ((s.extract k (k + 1)).toList == [10]) = true := by assumption
        rw [HO.out] at ht
        have ht : s[k] = 10 := by simpa using ht
        go_ret
        exact ⟨ret_int (by rw [HA.out, HD.out, nlFrom, if_pos ht]), rfl⟩
      · have ht : ((s.extract k (k + 1)).toList == [10]) = false := by assumption
        rw [HO.out] at ht
        have ht : ¬ s[k] = 10 := by simpa using ht
        go_round
        case rel => exact ⟨k + 1, by omega, by go_num, by rw [HA.out, HD.out, nlFrom, if_neg ht]⟩
        case measure => simp [intOf]; omega
    · go_wp2
      go_ret
      exact ⟨ret_int (by rw [HA.out, List.drop_of_length_le (by rw [ba_toList_length]; omega)]; rfl), rfl⟩

def strLen : Value → Nat | .string s => s.size | _ => 0
/-- what zzSplit hands back -/
def GaveStrs (B : Nat) (w : World) (l : List (List UInt8)) (e : Ending) (w' : World) : Prop :=
  ∃ v, e = .returned v ∧ Own w' B 9 1 v l.length (sv l) ∧ Below B w w'
/-- what it has gathered -/
def SpSt (B : Nat) (l : List (List UInt8)) (s0 v : Value) (wr : World) : Prop :=
  ∃ s done, s0 = .string s ∧ l = done ++ pieces s.data.toList ∧ Own wr B 9 1 v done.length (sv done)
theorem str_val {s : ByteArray} {l : List UInt8} (h : s.data.toList = l) : Value.string s = .string ⟨l.toArray⟩ := by
  rw [show s = ⟨l.toArray⟩ from ba_ext (by rw [h])]
set_option maxRecDepth 20000 in
set_option maxHeartbeats 400000 in
theorem split_any (s : ByteArray) (w : World) (hs : s.size ≤ 4294967296) :
    Calls Tryz.prog 121 #[.string s, .string ⟨#[10]⟩] w (GaveStrs w.heap.size w (pieces s.data.toList)) := by
  obtain ⟨i0, hi, hz0, hz1, hz2⟩ := info_parts info_str
  have hlen := pieces_length s.data.toList
  rw [ba_toList_length] at hlen
  go_enter Tryz.func121, Tryz.ntmps121
  go_wp2
  go_loopw [0, 5] (fun s0 v wr => strLen s0 ≤ s.size ∧ SpSt w.heap.size (pieces s.data.toList) s0 v wr ∧ Below w.heap.size w wr) (fun s0 _ _ => strLen s0)
  case atStart => exact ⟨Nat.le_refl _, ⟨s, [], rfl, rfl, Own.nil _ _ _ _⟩, Below.refl _ _⟩
  case round =>
    obtain ⟨hle, ⟨r, done, rfl, hp, hown⟩, hb⟩ := hrel
    have hdl : done.length ≤ s.size := by
      have h1 := congrArg List.length hp
      rw [List.length_append] at h1
      have := List.length_pos_iff.2 (pieces_ne r.data.toList)
      omega
    have hsz : w.heap.size ≤ wr.heap.size := hb.size
    have hrs : r.size ≤ s.size := hle
    have hblk := hown.lt
    rcases nlFrom_spec r.data.toList 0 with ⟨h1, h2⟩ | ⟨i, h1, h2, h3⟩
    · have HP := Lib.hid hp; clear hp
      have H1 := Lib.hid h1; clear h1
      have H2 := Lib.hid h2; clear h2
      have HB := Lib.hid hblk; clear hblk
      go_wp2_with fail
      refine (index_any r _ (by omega)).mono ?_
      rintro e w' ⟨rfl, rfl⟩
      rw [H1.out]
      go_wp2_with (at_builtin; go_loud (refine wpList_append_Own _ rfl (.tmp 42) (.tmp 44) 190 rfl w.heap.size 9 i0 (.string ⟨#[]⟩) 1 16 Tryz.underlying190 hi hz0 hz1 hz2 rfl (by decide) _ _ _ rfl (hown.alloc _) ⟨wr.heap.size, 0, none⟩ 1 1 [.string r] rfl rfl (cell_one_new _ _ _) (by simp [Value.oneCell']) (by unfold maxLen; omega) (by omega) (by simp; omega) ?_))
      intro v' w1 hown1 hg1 hbk hne
      go_wp2
      go_ret
      have hl : (pieces s.data.toList).length = done.length + 1 := by rw [HP.out, H2.out]; simp
      have hv : sv (pieces s.data.toList) = sv done ++ [Value.string r] := by
        rw [HP.out, H2.out]; simp only [sv, List.map_append, List.map_cons, List.map_nil]
      refine ⟨v', rfl, ?_, (hb.alloc hsz _).grown hg1 (by simp; omega) (fun j hj => (HB.out j hj).1)⟩
      rw [hl, hv]
      exact hown1
    · have HP := Lib.hid hp; clear hp
      have H1 := Lib.hid h1; clear h1
      have H3 := Lib.hid h3; clear h3
      have HB := Lib.hid hblk; clear hblk
      rw [ba_toList_length] at h2
      go_wp2_with fail
      refine (index_any r _ (by omega)).mono ?_
      rintro e w' ⟨rfl, rfl⟩
      rw [H1.out, Nat.zero_add]
      go_wp2_with (at_builtin; go_loud (refine wpList_append_Own _ rfl (.tmp 46) (.tmp 50) 190 rfl w.heap.size 9 i0 (.string ⟨#[]⟩) 1 16 Tryz.underlying190 hi hz0 hz1 hz2 rfl (by decide) _ _ _ rfl (hown.alloc _) ⟨wr.heap.size, 0, none⟩ 1 1 [.string (r.extract 0 i)] rfl rfl (cell_one_new _ _ _) (by simp [Value.oneCell']) (by unfold maxLen; omega) (by omega) (by simp; omega) ?_))
      intro v' w1 hown1 hg1 hbk hne
      go_wp2
      go_roundw
      case rel =>
        have e1 : (r.extract (i + 1) r.size).data.toList = r.data.toList.drop (i + 1) := by
          rw [Lib.extract_data]; exact List.take_of_length_le (by rw [List.length_drop, ba_toList_length]; exact Nat.le_refl _)
        have e2 : (r.extract 0 i).data.toList = r.data.toList.take i := by rw [Lib.extract_data]; simp
        refine ⟨?_, ⟨_, done ++ [r.data.toList.take i], rfl, ?_, ?_⟩, (hb.alloc hsz _).grown hg1 (by simp; omega) (fun j hj => (HB.out j hj).1)⟩
        · show (r.extract (i + 1) r.size).size ≤ _
          rw [← ba_toList_length, e1, List.length_drop, ba_toList_length]; omega
        · rw [e1, HP.out, H3.out]; simp
        · rw [List.length_append, sv, List.map_append, List.map_cons, List.map_nil, ← str_val e2]
          exact hown1
      case measure =>
        show strLen (.string (r.extract (i + 1) r.size)) < strLen (.string r)
        simp only [strLen, ByteArray.size_extract]; omega

theorem Own.ne_of {w : World} {base : Nat} {e : TypeId} {size : Nat} {v : Value} {n : Nat} {xs : List Value} (h : Own w base e size v n xs) {b : Nat} {cs : Array Value} {T : TypeId} {fz : Nat × Nat} (hb : w.heap[b]? = some (.cells cs T fz)) (hT : T ≠ e) : v.ownBlock ≠ some b := by
  rcases h.2 with ⟨rfl, _⟩ | ⟨g, cap, cur, f2, rfl, _, hg, _⟩
  · simp [Value.ownBlock]
  · intro hh
    simp only [Value.ownBlock, Option.some.injEq] at hh
    subst hh
    rw [hg] at hb
    simp only [Option.some.injEq, Obj.cells.injEq] at hb
    exact hT hb.2.1.symm
theorem Own.ne_own {w : World} {base base' : Nat} {e e' : TypeId} {size size' : Nat} {v v' : Value} {n n' : Nat} {xs xs' : List Value} (h : Own w base e size v n xs) (h' : Own w base' e' size' v' n' xs') (hT : e' ≠ e) : v.ownBlock = none ∨ v.ownBlock ≠ v'.ownBlock := by
  rcases h'.2 with ⟨rfl, _⟩ | ⟨g, cap, cur, f2, rfl, _, hg, _⟩
  · cases hv : v.ownBlock with
    | none => exact .inl rfl
    | some k => right; simp [Value.ownBlock]
  · right; exact h.ne_of hg hT

/-- block b holds a token.File: its path, its text, its lines -/
def FileAt (w : World) (b : Nat) (p s : ByteArray) (v : Value) : Prop := w.heap[b]? = some (.cells #[.string p, .string s, v] 71 (0, 0))
theorem FileAt.cells {w : World} {b : Nat} {p s : ByteArray} {v : Value} (h : FileAt w b p s v) :
    w.cell? ⟨b, 0, none⟩ = some (.string p) ∧ w.cell? ⟨b, 1, none⟩ = some (.string s) ∧ w.cell? ⟨b, 2, none⟩ = some v ∧ w.frozen? ⟨b, 2, none⟩ = false ∧ b < w.heap.size := by
  have hlt := (Array.getElem?_eq_some_iff.1 h).1
  refine ⟨?_, ?_, ?_, ?_, hlt⟩ <;> simp [World.cell?, World.frozen?, show w.heap[b]? = _ from h]
/-- init has laid the lines of the file in block b -/
def Inited (w : World) (b : Nat) (p s : ByteArray) (w' : World) : Prop :=
  ∃ v, FileAt w' b p s v ∧ Own w' 0 60 1 v ((pieces s.data.toList).length + 1) (posv (pieces s.data.toList) ((pieces s.data.toList).length + 1)) ∧ w.grownBy w' (some b)
set_option maxRecDepth 20000 in
set_option maxHeartbeats 1000000 in
theorem init_any (b : Nat) (p s : ByteArray) (w : World) (hs : s.size ≤ 4294967296) (hf : FileAt w b p s (.slice none 0 0)) :
    Calls Tryz.prog 109 #[.pointer (some ⟨b, 0, none⟩)] w (fun e w' => e = .returned (.tuple #[]) ∧ Inited w b p s w') := by
  obtain ⟨i0, hi, hz0, hz1, hz2⟩ := info_parts info_pos
  obtain ⟨c0, c1, c2, c3, hlt⟩ := hf.cells
  have hlen := pieces_length s.data.toList
  rw [ba_toList_length] at hlen
  have hpos := List.length_pos_iff.2 (pieces_ne s.data.toList)
  have hnnil := fun (wx : World) (a : Option Addr) (n c : Nat) => run_neq_slice_nil_any (P := Tryz.prog) wx 69 60 a n c 0 0 Tryz.underlying69
  go_enter Tryz.func109, Tryz.ntmps109
  go_wp2_with fail
  refine (split_any s _ hs).mono ?_
  rintro e w1 ⟨vs, rfl, howns, hb1⟩
  obtain ⟨gs, caps, rfl, hgs⟩ : ∃ g cap, vs = .slice (some ⟨g, 0, none⟩) (pieces s.data.toList).length cap ∧ True := by
    rcases howns.shape with ⟨_, h, _⟩ | ⟨g, cap, h, _⟩
    · omega
    · exact ⟨g, cap, h, trivial⟩
  have hown0 : Own w1 w.heap.size 60 1 (.slice (some ⟨w.heap.size, 0, none⟩) 1 1) (0 + 1) (posv (pieces s.data.toList) (0 + 1)) := by
    have h := Own.made (base := w.heap.size) (e := 60) (size := 1) w #[.int .i64 0] 1 1 (Nat.le_refl _) (Nat.le_refl _) (by unfold maxLen; omega) rfl
    have h2 := h.below hb1 (by intro g hg; simp only [Value.ownBlock, Option.some.injEq] at hg; subst hg; simp)
    exact h2
  have hb0 : Below w.heap.size w w1 := ((Below.refl _ _).alloc (Nat.le_refl _) _).trans (hb1.mono (by simp))
  have hsz1 : w.heap.size < w1.heap.size := by have := hb1.size; simp at this; omega
  clear hb1 hgs
  generalize hps : pieces s.data.toList = ps at *
  have HPS := Lib.hid hps; clear hps
  go_wp2_with fail
  go_loopw [2, 17] (fun v i wr => ∃ k : Nat, k ≤ ps.length ∧ i = .int .i64 k ∧ Own wr w.heap.size 60 1 v (k + 1) (posv ps (k + 1)) ∧ Own wr (w.alloc (.cells #[Value.int IntKind.i64 0] 60)).heap.size 9 1 (.slice (some ⟨gs, 0, none⟩) ps.length caps) ps.length (sv ps) ∧ Below w.heap.size w wr) (fun _ i _ => ps.length - (intOf i).toNat)
  case atStart => exact ⟨0, Nat.zero_le _, rfl, hown0, howns, hb0⟩
  case round =>
    obtain ⟨k, hk, rfl, hown, hs2, hb⟩ := hrel
    clear hown0 howns hb0 hsz1
    have hsz : w.heap.size ≤ wr.heap.size := hb.size
    obtain ⟨hbc, hbf⟩ := below_cell hb
    by_cases hkl : k < ps.length
    · obtain ⟨g, cap, rfl, hgb, hgl, hcap⟩ : ∃ g cap, u2 = .slice (some ⟨g, 0, none⟩) (k + 1) cap ∧ w.heap.size ≤ g ∧ g < wr.heap.size ∧ k + 1 ≤ cap := by
        rcases hown.shape with ⟨_, h, _⟩ | ⟨g, cap, h, h1, h2, h3, _⟩
        · omega
        · exact ⟨g, cap, h, h1, h2, h3⟩
      have hl := hown.cellAt k (by omega)
      rw [posv_get ps (k + 1) k (by omega)] at hl
      have hq := hs2.cellAt k (by omega)
      rw [sv_get ps k hkl] at hq
      have hst := stAt_succ ps k hkl
      have hmono := stAt_mono ps (k + 1) ps.length (by omega)
      have hend := stAt_end s.data.toList
      rw [HPS.out, ba_toList_length] at hend
      have hpl : (⟨ps[k].toArray⟩ : ByteArray).size = ps[k].length := by simp [ByteArray.size]
      have hlen2 : stAt ps k + ps[k].length + 1 ≤ s.size + 1 := by omega
      have hval : ((stAt ps k : Int) + ((⟨ps[k].toArray⟩ : ByteArray).size : Int) + 1) = ((stAt ps (k + 1) : Nat) : Int) := by rw [hpl, hst]; omega
      have HVAL := Lib.hid hval
      have hsb : (⟨ps[k].toArray⟩ : ByteArray).size ≤ s.size := by rw [hpl]; omega
      have hstb : stAt ps k ≤ s.size := by omega
      clear hval hst hmono hend hlen2 hpl
      generalize (⟨ps[k].toArray⟩ : ByteArray) = q at *
      generalize stAt ps k = st0 at *
      generalize hst1 : (stAt ps (k + 1) : Int) = st1 at *
      have HST1 := Lib.hid hst1; clear hst1
      have HS2 := Lib.hid hs2
      have HOWN := Lib.hid hown
      clear hf
      go_wp2_with (at_builtin; go_loud (refine wpList_append_Own _ rfl (.tmp 22) (.tmp 31) 69 rfl w.heap.size 60 i0 (.int .i64 0) 1 8 Tryz.underlying69 hi hz0 hz1 hz2 rfl (by decide) _ _ _ rfl (hown.alloc _) ⟨wr.heap.size, 0, none⟩ 1 1 [.int .i64 ((st0 : Int) + (q.size : Int) + 1)] rfl rfl (cell_one_new _ _ _) (by simp [Value.oneCell']) (by unfold maxLen; omega) (by omega) (by simp; omega) ?_))
      intro v' w1 hown1 hg1 hbk hne
      clear hbc hbf
      go_wp2_with fail
      go_roundw
      case rel =>
        have hne2 := (HS2.out.alloc (.cells #[Value.int IntKind.i64 ((st0 : Int) + (q.size : Int) + 1)] 60)).ne_own (HOWN.out.alloc (.cells #[Value.int IntKind.i64 ((st0 : Int) + (q.size : Int) + 1)] 60)) (by decide)
        refine ⟨k + 1, by omega, by go_num, ?_, (HS2.out.alloc _).kept hg1 hne2, (hb.alloc hsz _).grown hg1 (by simp; omega) (fun j hj => ?_)⟩
        · rw [posv_succ ps (k + 1), HST1.out]
          rw [HVAL.out] at hown1
          exact hown1
        · simp only [Value.ownBlock, Option.some.injEq] at hj; omega
      case measure => simp [intOf]; omega
    · obtain rfl : k = ps.length := by omega
      obtain ⟨g, cap, rfl, hgb, hgl, hcap⟩ : ∃ g cap, u2 = .slice (some ⟨g, 0, none⟩) (ps.length + 1) cap ∧ w.heap.size ≤ g ∧ g < wr.heap.size ∧ ps.length + 1 ≤ cap := by
        rcases hown.shape with ⟨_, h, _⟩ | ⟨g, cap, h, h1, h2, h3, _⟩
        · omega
        · exact ⟨g, cap, h, h1, h2, h3⟩
      have HS2 := Lib.hid hs2
      have HOWN := Lib.hid hown
      have HF := Lib.hid hf
      have HHB := Lib.hid hb
      clear hs2 hown hf hb
      go_wp2_with fail
      go_end0
      have hb := HHB.out
      have hfr : FileAt wr b p s (.slice none 0 0) := (hb.block b hlt).trans HF.out
      refine ⟨rfl, ?_⟩
      unfold Inited
      rw [HPS.out]
      refine ⟨_, ?_, ((HOWN.out.mono (Nat.zero_le _)).other ?_ _), ⟨hb.os, hb.tape, hb.output, by simpa using hb.size, fun j hj hne => ?_⟩⟩
      · show (wr.setCell _ _).heap[b]? = _
        simp [World.setCell, Array.getElem?_modify, show wr.heap[b]? = _ from hfr]
      · exact HOWN.out.ne_of hfr (by decide)
      · rw [Below.heap_setCell _ _ _ _ (fun e => hne (by rw [e]))]
        exact hb.block j hj

/-- the file's lines are laid -/
def Lined (w : World) (b : Nat) (p s : ByteArray) : Prop :=
  ∃ v, FileAt w b p s v ∧ Own w 0 60 1 v ((pieces s.data.toList).length + 1) (posv (pieces s.data.toList) ((pieces s.data.toList).length + 1))
def FileOk (w : World) (b : Nat) (p s : ByteArray) : Prop := FileAt w b p s (.slice none 0 0) ∨ Lined w b p s
theorem grownBy_refl (w : World) (r : Option Nat) : w.grownBy w r := ⟨rfl, rfl, rfl, Nat.le_refl _, fun _ _ _ => rfl⟩
set_option maxRecDepth 20000 in
set_option maxHeartbeats 400000 in
theorem init_ok (b : Nat) (p s : ByteArray) (w : World) (hs : s.size ≤ 4294967296) (hf : FileOk w b p s) :
    Calls Tryz.prog 109 #[.pointer (some ⟨b, 0, none⟩)] w (fun e w' => e = .returned (.tuple #[]) ∧ Lined w' b p s ∧ w.grownBy w' (some b)) := by
  rcases hf with hf | ⟨v, hf, hown⟩
  · refine (init_any b p s w hs hf).mono ?_
    rintro e w' ⟨rfl, v, h1, h2, h3⟩
    exact ⟨rfl, ⟨v, h1, h2⟩, h3⟩
  · obtain ⟨c0, c1, c2, c3, hlt⟩ := hf.cells
    have hnnil := fun (wx : World) (a : Option Addr) (n c : Nat) => run_neq_slice_nil_any (P := Tryz.prog) wx 69 60 a n c 0 0 Tryz.underlying69
    have hL : Lined w b p s := ⟨v, hf, hown⟩
    obtain ⟨g, cap, rfl⟩ : ∃ g cap, v = .slice (some ⟨g, 0, none⟩) ((pieces s.data.toList).length + 1) cap := by
      rcases hown.shape with ⟨_, h, _⟩ | ⟨g, cap, h, _⟩
      · omega
      · exact ⟨g, cap, h⟩
    have HL := Lib.hid hL
    clear hL hf hown
    go_enter Tryz.func109, Tryz.ntmps109
    go_wp2_with fail
    refine bodyPost_ret (results_none rfl _ _ _) rfl ⟨rfl, HL.out, grownBy_refl _ _⟩
/-- line and column are told, the file's lines are laid -/
def Resolved (w : World) (b : Nat) (p s : ByteArray) (pos : Nat) (e : Ending) (w' : World) : Prop :=
  e = .returned (.tuple #[.int .i64 ((lc (s.data.toList.take pos)).1 : Int), .int .i64 ((lc (s.data.toList.take pos)).2 : Int)]) ∧ Lined w' b p s ∧ w.grownBy w' (some b)
set_option maxRecDepth 20000 in
set_option maxHeartbeats 400000 in
theorem invalid_any (x : Int) (w : World) :
    Calls Tryz.prog 98 #[.int .i64 x] w fun e w' => e = .returned (.bool (decide (x < 0))) ∧ w = w' := by
  go_enter Tryz.func98, Tryz.ntmps98
  go_wp2
  go_ret
  exact ⟨rfl, rfl⟩
theorem ret_two {a b c d : Int} (h1 : a = c) (h2 : b = d) : Ending.returned (.tuple #[.int .i64 a, .int .i64 b]) = .returned (.tuple #[.int .i64 c, .int .i64 d]) := by rw [h1, h2]
set_option maxRecDepth 20000 in
set_option maxHeartbeats 1000000 in
theorem resolve_any (b pos : Nat) (p s : ByteArray) (w : World) (hs : s.size ≤ 4294967296) (hp : pos ≤ s.size) (hf : FileOk w b p s) :
    Calls Tryz.prog 97 #[.pointer (some ⟨b, 0, none⟩), .int .i64 pos] w (Resolved w b p s pos) := by
  have hlc := lc_spec s.data.toList pos (by rw [ba_toList_length]; exact hp)
  have HLC := Lib.hid hlc
  have hlen := pieces_length s.data.toList
  rw [ba_toList_length] at hlen
  have hend := stAt_end s.data.toList
  rw [ba_toList_length] at hend
  have HEND := Lib.hid hend
  clear hlc hend
  have hx0 : (decide ((pos : Int) < 0)) = false := by simp
  go_enter Tryz.func97, Tryz.ntmps97
  go_wp2_with fail
  refine (invalid_any _ _).mono ?_
  rintro e w' ⟨rfl, rfl⟩
  rw [hx0]
  clear hx0
  go_wp2_with fail
  refine (init_ok b p s w hs hf).mono ?_
  rintro e w1 ⟨rfl, ⟨v, hf1, hown⟩, hg⟩
  have HL : Hid (Lined w1 b p s) := Lib.hid ⟨v, hf1, hown⟩
  have HG := Lib.hid hg
  clear hf hg
  obtain ⟨c0, c1, c2, c3, hlt⟩ := hf1.cells
  obtain ⟨g, cap, rfl⟩ : ∃ g cap, v = .slice (some ⟨g, 0, none⟩) ((pieces s.data.toList).length + 1) cap := by
    rcases hown.shape with ⟨_, h, _⟩ | ⟨g, cap, h, _⟩
    · omega
    · exact ⟨g, cap, h⟩
  have HOWN := Lib.hid hown
  clear hown hf1
  generalize hps : pieces s.data.toList = ps at *
  have HPS := Lib.hid hps; clear hps
  go_wp2_with fail
  go_loop [4] (fun i => ∃ k : Nat, k ≤ ps.length ∧ i = .int .i64 k ∧ ∀ j, k < j → j ≤ ps.length → pos < stAt ps j) (fun i => (intOf i).toNat)
  case atStart => exact ⟨ps.length, Nat.le_refl _, by go_num, fun j h1 h2 => by omega⟩
  case round =>
    obtain ⟨k, hk, rfl, hall⟩ := hrel
    have HALL := Lib.hid hall; clear hall
    have hl := HOWN.out.cellAt k (by omega)
    rw [posv_get ps _ k (by omega)] at hl
    have hle : stAt ps k ≤ s.size + 1 := by rw [← HEND.out]; exact stAt_mono ps k _ hk
    generalize hst : stAt ps k = st at *
    have HST := Lib.hid hst; clear hst
    by_cases hc : (st : Int) ≤ (pos : Int)
    · go_wp2_with fail
      go_ret2
      obtain ⟨l1, l2, l3⟩ := HLC.out
      have hk2 : k = (lc (s.data.toList.take pos)).1 := by
        rcases Nat.lt_trichotomy k (lc (s.data.toList.take pos)).1 with h | h | h
        · have := HALL.out _ h (by omega); omega
        · exact h
        · have := l3 k h hk; rw [HST.out] at this; omega
      rw [← hk2, HST.out] at l2
      exact ⟨ret_two (by rw [hk2]) (by omega), HL.out, HG.out⟩
    · have hk0 : 1 ≤ k := by
        cases k with
        | zero => have h0 := HST.out; rw [stAt_zero] at h0; omega
        | succ k => omega
      go_wp2_with fail
      go_round
      case rel =>
        refine ⟨k - 1, by omega, by go_num, fun j h1 h2 => ?_⟩
        by_cases e : j = k
        · subst e; rw [HST.out]; omega
        · exact HALL.out j (by omega) h2
      case measure => simp [intOf]; omega
end Go.Proofs.YtcelnnjjakiehaaGreatDoor
