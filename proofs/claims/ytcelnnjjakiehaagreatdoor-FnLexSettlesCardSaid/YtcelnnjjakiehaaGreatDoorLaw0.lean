/-
  The contracts of the laws' helpers that read tokens: lexes, whole.
-/
import Derived.Test.YtcelnnjjakiehaaGreatDoorLexI
import Derived.Test.YtcelnnjjakiehaaGreatDoorLoc
import Derived.Test.YtcelnnjjakiehaaGreatDoorHelp
namespace Go.Proofs.YtcelnnjjakiehaaGreatDoor
open Go.RowKit
set_option linter.unusedVariables false
set_option maxRecDepth 1000000
set_option maxHeartbeats 4000000

theorem Toks.at {w : World} {B : Nat} {v : Value} {l : List (TkF × Value)} (h : Toks w B v l) (k : Nat) (hk : k < l.length) : ∃ g cap, v = .slice (some ⟨g, 0, none⟩) l.length cap ∧ B ≤ g ∧ l.length ≤ cap ∧ ∀ j, j < 8 → w.cell? ⟨g, k * 8 + j, none⟩ = (tkCells l[k].1 l[k].2)[j]? := by
  rcases h.own.shape with ⟨_, h2, _⟩ | ⟨g, cap, rfl, hB, _, hc, _⟩
  · omega
  · refine ⟨g, cap, rfl, hB, hc, fun j hj => ?_⟩
    rw [h.own.cellAt (k * 8 + j) (by omega)]
    exact tksCells_at l k l[k] (List.getElem?_eq_getElem hk) j hj
theorem next_a : lexAll [97] = ([⟨kIdent, [], [], [97], [97], 0, 0, 1⟩, ⟨kEof, [], [], [], [], 0, 1, 1⟩], none) := by
  have s1 : spLen [97] = 0 := spLen_stop _ (spOne_byte _ (by decide) (by decide) (by decide))
  have s0 : spLen [] = 0 := spLen_stop [] rfl
  have l1 : lead 0 [97] [] = .ok [] [] 0 := by rw [lead_no 0 [97] [] (by rw [s1]; rfl), s1]; rfl
  have l2 : lead 1 [] [] = .ok [] [] 1 := by rw [lead_no 1 [] [] (by rw [s0]; rfl), s0]; rfl
  have t1 : anyTok false [] [97] = .ok ⟨kIdent, [97], 0, 1, none⟩ := by rfl
  have t2 : anyTok false kIdent [] = .ok ⟨kEof, [], 0, 0, none⟩ := anyTok_nil _ _
  have n1 : next [97] [] false 0 = .ok ⟨kIdent, [], [], [97], [97], 0, 0, 1⟩ false := by
    unfold next
    rw [show ([97] : List UInt8).drop 0 = [97] from rfl, l1]
    simp only
    rw [show ([97] : List UInt8).drop 0 = [97] from rfl, t1]
    rfl
  have n2 : next [97] kIdent false 1 = .ok ⟨kEof, [], [], [], [], 0, 1, 1⟩ false := by
    unfold next
    rw [show ([97] : List UInt8).drop 1 = [] from rfl, l2]
    simp only
    rw [show ([97] : List UInt8).drop 1 = [] from rfl, t2]
    rfl
  show lexRun [97] 2 [] false 0 = _
  rw [lexRun, n1]
  simp only
  rw [if_neg (by decide), lexRun, n2]
  rfl
theorem two_of {l : List (TkF × Value)} {x y : TkF} (h : l.map (·.1) = [x, y]) : ∃ a b, l = [a, b] ∧ a.1 = x ∧ b.1 = y := by
  rcases l with _ | ⟨a, _ | ⟨b, _ | ⟨c, t⟩⟩⟩
  · cases h
  · cases h
  · simp at h
    exact ⟨a, b, rfl, h.1, h.2⟩
  · simp at h
theorem lexes_any {W w : World} (hL : LaidE W) (hb : Below W.heap.size W w) :
    Calls Tryz.prog 12 #[] w fun e w' => e = .returned (.bool true) ∧ Below w.heap.size w w' := by
  have hX := Lex_any ⟨#[97]⟩ hL hb (by decide) (lexGood_done _ _ _ _ _ (Nat.zero_le _) (congrArg (·.2) next_a))
  have HX := Lib.hid hX; clear hX
  go_enter Tryz.func12, Tryz.ntmps12
  go_wp2_with fail
  refine HX.out.mono ?_
  rintro e w1 ⟨v, l, at_, rfl, hl, hT, hb1⟩
  have hl' : l.map (·.1) = (lexAll [97]).1 := hl
  rw [next_a] at hl'
  have hok : (lexAll (⟨#[97]⟩ : ByteArray).data.toList).2.isNone = true := by
    show (lexAll [97]).2.isNone = true
    rw [next_a]; rfl
  rw [hok]
  obtain ⟨a, b, rfl, ha, _⟩ := two_of hl'
  obtain ⟨g, cap, rfl, _, hcap, hcell⟩ := hT.at 0 (by simp)
  have c3 := hcell 3 (by omega)
  rw [show ([a, b] : List (TkF × Value))[0] = a from rfl, ha] at c3
  simp only [tkCells, List.getElem?_cons_zero, List.getElem?_cons_succ] at c3
  have c3 : w1.cell? ⟨g, 3, none⟩ = some (.string ⟨#[97]⟩) := c3
  have HB1 := Lib.hid hb1
  clear hb1 hT hl hl' hcell hok ha HX
  go_wp2_with fail
  go_ret
  exact ⟨rfl, HB1.out⟩
theorem cmText_take (l : List Cm) (k : Nat) (h : k < l.length) : cmText (l.take (k + 1)) = cmText (l.take k) ++ (l[k].space ++ l[k].raw) := by
  rw [List.take_succ_eq_append_getElem h, cmText_append]
  simp [cmText]
theorem wholeT_append (a b : List TkF) : wholeT (a ++ b) = wholeT a ++ wholeT b := by
  induction a with
  | nil => rfl
  | cons t r ih => show tkText t ++ wholeT (r ++ b) = _; rw [ih]; simp [wholeT]
theorem wholeT_take (l : List TkF) (k : Nat) (h : k < l.length) : wholeT (l.take (k + 1)) = wholeT (l.take k) ++ tkText l[k] := by
  rw [List.take_succ_eq_append_getElem h, wholeT_append]
  simp [wholeT]
theorem wholeT_le (l : List TkF) (k : Nat) : (wholeT (l.take k)).length ≤ (wholeT l).length := by
  have h : wholeT l = wholeT (l.take k) ++ wholeT (l.drop k) := by rw [← wholeT_append, List.take_append_drop]
  rw [h, List.length_append]
  omega
theorem cmText_le (l : List Cm) (k : Nat) : (cmText (l.take k)).length ≤ (cmText l).length := by
  have h : cmText l = cmText (l.take k) ++ cmText (l.drop k) := by rw [← cmText_append, List.take_append_drop]
  rw [h, List.length_append]
  omega
theorem ba_size (l : List UInt8) : (⟨l.toArray⟩ : ByteArray).size = l.length := by
  show l.toArray.size = _
  simp
theorem ba_app (a b : List UInt8) : (⟨a.toArray⟩ : ByteArray) ++ ⟨b.toArray⟩ = ⟨(a ++ b).toArray⟩ := by
  apply ba_ext
  rw [ByteArray.data_append]
  simp
theorem whole_any {w : World} {B : Nat} {v : Value} {l : List (TkF × Value)} (hT : Toks w B v l) (hlen : l.length ≤ 1048577) (hsz : (wholeT (l.map (·.1))).length ≤ 1048576) :
    Calls Tryz.prog 20 #[v] w fun e w' => e = .returned (.string ⟨(wholeT (l.map (·.1))).toArray⟩) ∧ Below w.heap.size w w' := by
  obtain ⟨pv, cap, rfl⟩ := own_shape2 hT.own
  have HT := Lib.hid hT; have HS := Lib.hid hsz
  clear hT hsz
  go_enter Tryz.func20, Tryz.ntmps20
  go_wp2_with fail
  go_loopw [3, 9] (fun sv i wr => ∃ k : Nat, i = .int .i64 k ∧ k ≤ l.length ∧ sv = .string ⟨(wholeT ((l.map (·.1)).take k)).toArray⟩ ∧ Below w.heap.size w wr) (fun _ i _ => l.length - (intOf i).toNat)
  case atStart => exact ⟨0, rfl, Nat.zero_le _, rfl, Below.refl _ _⟩
  case round =>
    obtain ⟨k, rfl, hk, rfl, hb⟩ := hrel
    by_cases hlt : k < l.length
    · have hTr := HT.out.below hb
      obtain ⟨g, cap2, he, hBg, hcap, hcell⟩ := hTr.at k hlt
      injection he with he1 he2 he3
      subst he1 he3
      have hco := hTr.coms l[k] (List.getElem_mem hlt)
      have c7 := hcell 7 (by omega)
      have c1 := hcell 1 (by omega)
      have c2 := hcell 2 (by omega)
      have hwk := wholeT_take (l.map (·.1)) k (by simpa using hlt)
      have hwl := wholeT_le (l.map (·.1)) (k + 1)
      simp only [List.getElem_map] at hwk
      rw [hwk, List.length_append] at hwl
      have hgl := hTr.own.lt g rfl
      generalize l[k] = p at *
      obtain ⟨t, cv⟩ := p
      simp only [tkCells, List.getElem?_cons_zero, List.getElem?_cons_succ] at c7 c1 c2 hco hwk hwl
      obtain ⟨pc, cc, rfl⟩ := own_shape2 hco
      have HW := Lib.hid hwk; have HCO := Lib.hid hco; have HTR := Lib.hid hTr; have HB := Lib.hid hb
      have hbd := HS.out
      clear hwk hco hTr hcell hb
      generalize wholeT ((l.map (·.1)).take k) = acc at *
      have hacc : acc.length ≤ 1048576 := by omega
      have htx : acc.length + (tkText t).length ≤ 1048576 := by omega
      have HTX := Lib.hid htx; clear htx hwl hbd
      go_wp2_with fail
      rename World => wo
      go_loopw [3, 18] (fun sv i wx => ∃ j : Nat, i = .int .i64 j ∧ j ≤ t.coms.length ∧ sv = .string ⟨(acc ++ cmText (t.coms.take j)).toArray⟩ ∧ Below wo.heap.size wo wx) (fun _ i _ => t.coms.length - (intOf i).toNat)
      case atStart => exact ⟨0, rfl, Nat.zero_le _, by simp [cmText], Below.refl _ _⟩
      case round =>
        obtain ⟨j, rfl, hj, rfl, hb2⟩ := hrel
        by_cases hjl : j < t.coms.length
        · have hcx := HCO.out.below hb2 (fun g' hg' => (HCO.out.lt g' hg').2)
          obtain ⟨gc, rfl⟩ : ∃ gc, pc = some ⟨gc, 0, none⟩ := by
            rcases hcx.shape with ⟨_, h2, _⟩ | ⟨gc, _, h1, _⟩
            · omega
            · injection h1 with h1; exact ⟨gc, h1⟩
          have hcc : ∀ i, i < 4 → wr.cell? ⟨gc, j * 4 + i, none⟩ = t.coms[j].cells[i]? := by
            intro i hi
            rw [hcx.cellAt (j * 4 + i) (by omega), ← cmCells_at t.coms j t.coms[j] (List.getElem?_eq_getElem hjl) i hi, Nat.mul_comm]
          have q0 : wr.cell? ⟨gc, j * 4, none⟩ = _ := hcc 0 (by omega)
          have q1 := hcc 1 (by omega)
          have q2 := hcc 2 (by omega)
          have q3 := hcc 3 (by omega)
          have hct := cmText_take t.coms j hjl
          have hcl := cmText_le t.coms (j + 1)
          rw [hct, List.length_append, List.length_append] at hcl
          have hb3 : Below wo.heap.size wo wr := hb2
          have hcap3 : j < cc := by
            rcases hcx.shape with ⟨_, h2, _⟩ | ⟨gc, _, h1, _, _, h5, _⟩
            · omega
            · injection h1 with _ _ h1; omega
          have htl : (tkText t).length = (cmText t.coms).length + t.space.length + t.raw.length := by unfold tkText; simp only [List.length_append]
          have htx := HTX.out
          rw [htl] at htx
          generalize t.coms[j] = c at *
          simp only [Cm.cells, List.getElem?_cons_zero, List.getElem?_cons_succ] at q0 q1 q2 q3
          generalize hcp : cmText (t.coms.take j) = pre at *
          have HCT := Lib.hid hct; have HB3 := Lib.hid hb3
          have hle : acc.length + pre.length + c.space.length + c.raw.length ≤ 1048576 := by omega
          have hjm := hcx.le
          unfold maxLen at hjm
          clear hcc hct hcx hb2 hb3 hcl htl htx
          go_wp2_with fail
          refine ⟨⟨j + 1, by go_num, by omega, ?_, HB3.out.alloc HB3.out.size _⟩, by simp [intOf]; omega⟩
          rw [ba_app, ba_app, HCT.out]
          simp
        · have ej : j = t.coms.length := by omega
          have hall : cmText (t.coms.take j) = cmText t.coms := by rw [ej, List.take_of_length_le (Nat.le_refl _)]
          rw [hall]
          clear hall
          have htl : (tkText t).length = (cmText t.coms).length + t.space.length + t.raw.length := by unfold tkText; simp only [List.length_append]
          have hT2 : tkText t = cmText t.coms ++ t.space ++ t.raw := rfl
          have HT2 := Lib.hid hT2
          have htx := HTX.out
          rw [htl] at htx
          have r1 : wr.cell? ⟨g, k * 8 + 1, none⟩ = some (.string ⟨t.space.toArray⟩) := by rw [hb2.cell (p := ⟨g, k * 8 + 1, none⟩) hgl.2]; exact c1
          have r2 : wr.cell? ⟨g, k * 8 + 2, none⟩ = some (.string ⟨t.raw.toArray⟩) := by rw [hb2.cell (p := ⟨g, k * 8 + 2, none⟩) hgl.2]; exact c2
          have HB2 := Lib.hid (HB.out.trans (hb2.mono HB.out.size))
          generalize cmText t.coms = pre at *
          clear hb2 c1 c2 c7 htl hT2
          go_wp2_with fail
          go_quiet (fail)
          go_wp2_with fail
          refine ⟨⟨k + 1, by go_num, by omega, ?_, HB2.out.trans (below_drewN _ _ _)⟩, by simp [intOf]; omega⟩
          rw [ba_app, ba_app, HW.out, HT2.out]
          simp
    · go_wp2_with fail
      go_ret
      have e : k = l.length := by omega
      exact ⟨ret_str (by rw [e, List.take_of_length_le (by simp)]), hb⟩
end Go.Proofs.YtcelnnjjakiehaaGreatDoor
