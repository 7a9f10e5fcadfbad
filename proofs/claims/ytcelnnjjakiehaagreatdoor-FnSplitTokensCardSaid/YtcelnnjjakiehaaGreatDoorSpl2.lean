/-
  The contracts of impl.Split, of the laws' lexed and split.
-/
import Derived.Test.YtcelnnjjakiehaaGreatDoorSpl
import Derived.Test.YtcelnnjjakiehaaGreatDoorLaw0
namespace Go.Proofs.YtcelnnjjakiehaaGreatDoor
open Go.RowKit
set_option linter.unusedVariables false
set_option maxRecDepth 1000000
set_option maxHeartbeats 4000000

theorem splitT_len : ∀ (T : List TkF) (first : Nat), (splitT T first).length ≤ T.length := by
  intro T
  induction T with
  | nil => intro first; exact Nat.le_refl _
  | cons t R ih =>
    intro first
    rw [splitT]
    split
    · have := ih ((R.head?.map firstT).getD 0)
      simp only [List.length_cons]; omega
    · split
      · split <;> simp
      · have := ih first
        simp only [List.length_cons]; omega
theorem splitAll_len (l : List UInt8) : (splitAll l).length ≤ l.length + 1 := by
  have h1 := splitT_len (lexAll l).1 0
  have h2 := lexRun_len l (l.length + 1) [] false 0
  change (lexAll l).1.length ≤ _ at h2
  unfold splitAll
  split
  · simp
  · omega
/-- the cells of statements, one behind the other -/
def rawsL (s : ByteArray) : List (Nat × Nat) → List Value
  | [] => []
  | x :: r => (rawCells s x).toList ++ rawsL s r
theorem rawsL_app (s : ByteArray) (a b : List (Nat × Nat)) : rawsL s (a ++ b) = rawsL s a ++ rawsL s b := by
  induction a with
  | nil => rfl
  | cons x r ih => show (rawCells s x).toList ++ rawsL s (r ++ b) = _; rw [ih]; simp [rawsL]
theorem rawsL_at (s : ByteArray) : ∀ (S : List (Nat × Nat)) (k : Nat) (x : Nat × Nat), S[k]? = some x → ∀ j, j < 3 → (rawsL s S)[k * 3 + j]? = (rawCells s x)[j]? := by
  intro S
  induction S with
  | nil => intro k x h; simp at h
  | cons y r ih =>
    intro k x h j hj
    have hl : (rawCells s y).toList.length = 3 := rfl
    show ((rawCells s y).toList ++ rawsL s r)[k * 3 + j]? = _
    cases k with
    | zero =>
      simp at h
      subst h
      rw [List.getElem?_append_left (by omega)]
      simp
    | succ k =>
      rw [List.getElem?_append_right (by omega), hl, show (k + 1) * 3 + j - 3 = k * 3 + j from by omega]
      exact ih k x (by simpa using h) j hj
theorem rawsL_take (s : ByteArray) (S : List (Nat × Nat)) (k : Nat) (h : k < S.length) : rawsL s (S.take (k + 1)) = rawsL s (S.take k) ++ (rawCells s S[k]).toList := by
  rw [List.take_succ_eq_append_getElem h, rawsL_app]
  simp [rawsL]
theorem info_ir : (Tryz.prog.info? 49).map (fun i => (i.zero, i.size, i.bytes)) = some (some (.agg #[.int .i64 0, .int .i64 0, .string ⟨#[]⟩]), 3, 32) := by kernel_rfl
theorem implSplit_any {W w : World} (s : ByteArray) (hL : LaidE W) (hb : Below W.heap.size W w) (hs : s.size ≤ 1048576) (hg : lexGood s.data.toList (s.size + 1) [] false 0) :
    Calls Tryz.prog 41 #[.string s] w fun e w' => ∃ v, e = .returned (.tuple #[v, .bool (lexAll s.data.toList).2.isNone]) ∧ Below w.heap.size w w' ∧ ((lexAll s.data.toList).2 = none → Own w' w.heap.size 49 3 v (splitAll s.data.toList).length (rawsL s (splitAll s.data.toList))) := by
  obtain ⟨i0, hinf, hz0, hz1, hz2⟩ := info_parts info_ir
  have hX := splitRaw_any s hL hb hs hg
  have hlen := splitAll_len s.data.toList
  rw [ba_toList_length] at hlen
  generalize splitAll s.data.toList = S at *
  generalize (lexAll s.data.toList).2 = o at *
  have HX := Lib.hid hX
  clear hX hg hL hb
  go_enter Tryz.func41, Tryz.ntmps41
  go_wp2_with fail
  refine HX.out.mono ?_
  rintro e w1 ⟨v, ev, rfl, hb1, hcase⟩
  have HB1 := Lib.hid hb1
  clear HX hb1
  rcases hcase with ⟨rfl, rfl, hR⟩ | ⟨ho, EB, rfl⟩
  · obtain ⟨bs, o1, o2, o3⟩ := hR
    obtain ⟨pv, cap, rfl⟩ := own_shape2 o1
    have O1 := Lib.hid o1; have O3 := Lib.hid o3
    have hS1 := HB1.out.size
    clear o1 o3
    go_wp2_with fail
    go_loopw [6, 18] (fun u i wr => ∃ k : Nat, i = .int .i64 k ∧ k ≤ S.length ∧ Own wr w1.heap.size 49 3 u k (rawsL s (S.take k)) ∧ Below w1.heap.size w1 wr) (fun _ i _ => S.length - (intOf i).toNat)
    case atStart => exact ⟨0, rfl, Nat.zero_le _, Own.nil _ _ _ _, Below.refl _ _⟩
    case round =>
      obtain ⟨k, rfl, hk, hown, hb⟩ := hrel
      by_cases hlt : k < S.length
      · obtain ⟨b, hbk⟩ : ∃ b, bs[k]? = some b := ⟨_, List.getElem?_eq_getElem (show k < bs.length by omega)⟩
        obtain ⟨x, e1, e2, e3⟩ := O3.out k b hbk
        have hbl := (Array.getElem?_eq_some_iff.1 e3).1
        have hsh := O1.out.shape
        obtain ⟨g, rfl⟩ : ∃ g, pv = some ⟨g, 0, none⟩ := by
          rcases hsh with ⟨_, h2, _⟩ | ⟨g, _, h1, _⟩
          · omega
          · injection h1 with h1; exact ⟨g, h1⟩
        have hcap : k < cap := by
          rcases hsh with ⟨_, h2, _⟩ | ⟨g, _, h1, _, _, h5, _⟩
          · omega
          · injection h1 with _ _ h1; omega
        have hgl := (O1.out.lt g rfl).2
        have hc : wr.cell? ⟨g, k, none⟩ = some (.pointer (some ⟨b, 0, none⟩)) := by
          rw [hb.cell (p := ⟨g, k, none⟩) hgl, O1.out.cellAt k (by omega), List.getElem?_map, hbk]
          rfl
        have hcell : ∀ j, wr.cell? ⟨b, j, none⟩ = (rawCells s x)[j]? := by
          intro j
          rw [hb.cell (p := ⟨b, j, none⟩) hbl]
          simp [World.cell?, e3]
        have q0 := hcell 0
        have q1 := hcell 1
        have q2 := hcell 2
        simp only [rawCells, List.getElem?_toArray, List.getElem?_cons_succ, List.getElem?_cons_zero] at q0 q1 q2
        have hx : S[k] = x := by
          have := List.getElem?_eq_getElem hlt
          rw [e1] at this
          injection this with this
          exact this.symm
        have htk := rawsL_take s S k hlt
        rw [hx] at htk
        obtain ⟨pu, cu, rfl⟩ := own_shape2 hown
        have hws : w1.heap.size ≤ wr.heap.size := hb.size
        have O5 : Hid (Own (wr.drewN 1) w1.heap.size 49 3 (.slice pu k cu) k (rawsL s (S.take k))) := Lib.hid (hown.keptB fun _ _ => rfl)
        have HGD : Hid (wr.grownBy (wr.drewN 1) (Value.slice pu k cu).ownBlock) := Lib.hid ⟨rfl, rfl, rfl, Nat.le_refl _, fun _ _ _ => rfl⟩
        have HB := Lib.hid hb; have HTK := Lib.hid htk
        clear hown hb hcell e1 e3 hx htk hsh
        go_wp2_with fail
        go_region_held3 (fun w' => w'.cell? ⟨b, 0, none⟩ = some (.int .i64 (x.1 : Int)) ∧ w'.cell? ⟨b, 1, none⟩ = some (.int .i64 (x.2 : Int)) ∧ w'.cell? ⟨b, 2, none⟩ = some (.string (s.extract x.1 x.2))) (first | exact ⟨q0, q1, q2⟩ | exact ⟨by assumption, by assumption, by assumption⟩ | go_keep)
          (first | (refine step_append_Own rfl (.tmp 22) (.tmp 36) 45 rfl w1.heap.size 49 i0 (.agg #[.int .i64 0, .int .i64 0, .string ⟨#[]⟩]) 3 32 Tryz.underlying45 hinf hz0 hz1 hz2 rfl (by decide) _ _ _ rfl (O5.out.alloc _) ⟨wr.heap.size, 0, none⟩ 1 1 [.int .i64 (x.1 : Int), .int .i64 (x.2 : Int), .string (s.extract x.1 x.2)] rfl rfl (cell_arr _ _ _ _ _ rfl (by simp)) (by simp [Value.oneCell']) (by unfold maxLen; omega) (by omega) (by simp; omega) ?_; intro v' w4 hown5 hg5; have hg6 : wr.grownBy w4 (Value.slice pu k cu).ownBlock := grownBy_trans HGD.out (grownBy_trans (World.grownBy_alloc _ _ _) hg5); have hb4 : Below w1.heap.size w1 w4 := ⟨hg6.os.trans HB.out.os, hg6.tape.trans HB.out.tape, hg6.output.trans HB.out.output, Nat.le_trans hws hg6.size, fun b hbb => (hg6.block b (Nat.lt_of_lt_of_le hbb hws) (fun e => by have := (O5.out.lt b e.symm).1; omega)).trans (HB.out.block b hbb)⟩; have p0 : w4.cell? ⟨b, 0, none⟩ = _ := (hb4.cell (p := ⟨b, 0, none⟩) hbl).trans ((HB.out.cell (p := ⟨b, 0, none⟩) hbl).symm.trans q0); have p1 : w4.cell? ⟨b, 1, none⟩ = _ := (hb4.cell (p := ⟨b, 1, none⟩) hbl).trans ((HB.out.cell (p := ⟨b, 1, none⟩) hbl).symm.trans q1); have p2 : w4.cell? ⟨b, 2, none⟩ = _ := (hb4.cell (p := ⟨b, 2, none⟩) hbl).trans ((HB.out.cell (p := ⟨b, 2, none⟩) hbl).symm.trans q2)))
        have HO6 : Hid (Own w4 w1.heap.size 49 3 v' (k + 1) (rawsL s (S.take (k + 1)))) := Lib.hid (by rw [HTK.out]; exact hown5)
        have HB6 := Lib.hid hb4
        clear hown5 hg5 hg6 hb4 p0 p1 p2 q0 q1 q2
        go_wp2_with fail
        exact ⟨⟨k + 1, by go_num, by omega, HO6.out, HB6.out⟩, by simp [intOf]; omega⟩
      · obtain rfl : k = S.length := by omega
        obtain ⟨pu, cu, rfl⟩ := own_shape2 hown
        rw [List.take_of_length_le (Nat.le_refl _)] at hown
        have HOW := Lib.hid hown; have HBF := Lib.hid (HB1.out.trans (hb.mono hS1))
        clear hown hb
        go_wp2_with fail
        refine bodyPost_ret (v := .tuple #[.slice pu S.length cu, .bool true]) (by simp [results, Tryz.results41, go_sem]) rfl ⟨.slice pu S.length cu, rfl, HBF.out, by first | exact HOW.out.mono hS1 | exact fun _ => HOW.out.mono hS1⟩
  · have hon : o.isNone = false := by cases o with | none => exact absurd rfl ho | some q => rfl
    have HON := Lib.hid hon; have HO := Lib.hid ho
    clear hon ho
    go_wp2_with fail
    refine bodyPost_ret (v := .tuple #[.slice none 0 0, .bool false]) (by simp [results, Tryz.results41, go_sem]) rfl ⟨.slice none 0 0, by rw [HON.out], HB1.out, fun h => absurd h HO.out⟩
theorem lexed_any {W w : World} (s : ByteArray) (hL : LaidE W) (hb : Below W.heap.size W w) (hs : s.size ≤ 1048000) (hg : lexGood (pad s.data.toList) ((pad s.data.toList).length + 1) [] false 0) :
    Calls Tryz.prog 27 #[.string s] w fun e w' => ∃ v l at_, e = .returned (.tuple #[v, .int .i64 at_, .bool (lexAll (pad s.data.toList)).2.isNone]) ∧ l.map (·.1) = (lexAll (pad s.data.toList)).1 ∧ Toks w' w.heap.size v l ∧ Below w.heap.size w w' := by
  have hP := padded_any s w (by omega)
  have hpl : (pad s.data.toList).length ≤ s.size + 9 := by unfold pad; have := ba_toList_length s; split <;> simp <;> omega
  have hX := Lex_any ⟨(pad s.data.toList).toArray⟩ hL hb (by rw [ba_size]; omega) (by rw [ba_size]; exact hg)
  change Calls _ _ _ _ (fun e w' => ∃ (v : Value) (l : List (TkF × Value)) (at_ : Int), e = .returned (.tuple #[v, .int .i64 at_, .bool (lexAll (pad s.data.toList)).2.isNone]) ∧ l.map (·.1) = (lexAll (pad s.data.toList)).1 ∧ _) at hX
  generalize pad s.data.toList = P at *
  generalize lexAll P = A at *
  have HP := Lib.hid hP; have HX := Lib.hid hX
  clear hP hX hg
  go_enter Tryz.func27, Tryz.ntmps27
  go_wp2_with fail
  refine HP.out.mono ?_
  rintro e w1 ⟨rfl, rfl⟩
  go_wp2_with fail
  refine HX.out.mono ?_
  rintro e w2 ⟨v, l, at_, rfl, hl, hT, hb2⟩
  have HT := Lib.hid hT; have HB2 := Lib.hid hb2; have HL := Lib.hid hl
  clear hT hb2 hl
  go_wp2_with fail
  refine bodyPost_ret (v := .tuple #[v, .int .i64 at_, .bool A.2.isNone]) (by simp [results, Tryz.results27, go_sem]) rfl ⟨v, l, at_, rfl, HL.out, HT.out, HB2.out⟩
theorem lawSplit_any {W w : World} (s : ByteArray) (hL : LaidE W) (hb : Below W.heap.size W w) (hs : s.size ≤ 1048000) (hbr : brit s.data.toList = false) (hg : lexGood s.data.toList (s.size + 1) [] false 0) :
    Calls Tryz.prog 28 #[.string s] w fun e w' => ∃ v, e = .returned (.tuple #[v, .bool (lexAll s.data.toList).2.isNone]) ∧ Below w.heap.size w w' ∧ ((lexAll s.data.toList).2 = none → Own w' w.heap.size 49 3 v (splitAll s.data.toList).length (rawsL s (splitAll s.data.toList))) := by
  have hP := padded_any s w (by omega)
  have hpd : (⟨(pad s.data.toList).toArray⟩ : ByteArray) = s := by
    unfold pad
    rw [hbr, if_neg (by decide)]
  rw [hpd] at hP
  have hX := implSplit_any s hL hb (by omega) hg
  generalize splitAll s.data.toList = S at *
  generalize lexAll s.data.toList = A at *
  have HP := Lib.hid hP; have HX := Lib.hid hX
  clear hP hX hg hpd hbr
  go_enter Tryz.func28, Tryz.ntmps28
  go_wp2_with fail
  refine HP.out.mono ?_
  rintro e w1 ⟨rfl, rfl⟩
  go_wp2_with fail
  refine HX.out.mono ?_
  rintro e w2 ⟨v, rfl, hb2, hO⟩
  have HB2 := Lib.hid hb2; have HO := Lib.hid hO
  clear hb2 hO
  go_wp2_with fail
  refine bodyPost_ret (v := .tuple #[v, .bool A.2.isNone]) (by simp [results, Tryz.results28, go_sem]) rfl ⟨v, rfl, HB2.out, HO.out⟩
end Go.Proofs.YtcelnnjjakiehaaGreatDoor
