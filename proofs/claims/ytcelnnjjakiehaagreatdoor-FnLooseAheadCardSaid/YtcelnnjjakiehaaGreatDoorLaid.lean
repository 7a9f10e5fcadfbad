/-
  From the row's listed package variables to what the contracts ask of the world.
-/
import Derived.Test.YtcelnnjjakiehaaGreatDoorLexI
import Derived.LaidMore
import Derived.LaidLaws
import Derived.LaidHandle
import Derived.Lib.LaidTab
import Derived.Lib.LaidU8
import Derived.Stop.Joined
import Derived.Stop.LaidErr
import Derived.Lay
namespace Go.Proofs.YtcelnnjjakiehaaGreatDoor
open Go.RowKit
set_option linter.unusedVariables false
set_option maxRecDepth 100000

theorem own : ownKnob Tryz.prog.godebug = none := by kernel_rfl
theorem gTabType : (Tryz.prog.globals[8]?).map (·.type) = some 211 := by kernel_rfl
theorem gRt : (Tryz.prog.cutTypes.find? (·.1 == "internal/reflectlite.rtype")).map (·.2) = some 118 := by kernel_rfl
theorem gEt : Tryz.prog.globalNamed "errors.errorType" = some 0 := by kernel_rfl
theorem gOneRow : ((List.range 242).filter fun t => Tryz.prog.rowNamed t [101, 114, 114, 111, 114]) = [53] := by kernel_rfl
theorem gSize : Tryz.prog.types.size = 242 := by kernel_rfl
theorem gFirst : Rows.laid_unicode_utf8_first = Lib.firstData := by kernel_rfl
theorem gAccept : (Rows.laid_unicode_utf8_acceptRanges : DataW Unit) = Lib.acceptData := by kernel_rfl
theorem gWhite : (Rows.laid_unicode_White_Space : DataW Unit) = Lib.whiteData := by kernel_rfl
theorem gPow : (Rows.laid_internal_strconv_uint64pow10 : DataW Unit) = Lib.tabData .u64 Lib.pow10Tab := by kernel_rfl
/-- the row's list without the handle -/
def plainLaid : List (String × DataW Unit) := [("math/bits.deBruijn32tab", Rows.laid_math_bits_deBruijn32tab), ("math/bits.deBruijn64tab", Rows.laid_math_bits_deBruijn64tab), ("internal/strconv.uint64pow10", Rows.laid_internal_strconv_uint64pow10), ("unicode/utf8.acceptRanges", Rows.laid_unicode_utf8_acceptRanges), ("strconv.ErrRange", Rows.laid_strconv_ErrRange), ("strconv.ErrSyntax", Rows.laid_strconv_ErrSyntax), ("unicode.White_Space", Rows.laid_unicode_White_Space), ("bytes.ErrTooLarge", Rows.laid_bytes_ErrTooLarge), ("unicode/utf8.first", Rows.laid_unicode_utf8_first)]
theorem laid_parts {W : World} (h : laidMetH Tryz.prog Rows.fnLexKeepsRow.laid W) : laidMet Tryz.prog plainLaid W ∧ handlesMet Tryz.prog [("errors.errorType", Rows.laid_errors_errorType)] W := h
theorem handle_of {W : World} (h : handlesMet Tryz.prog [("errors.errorType", Rows.laid_errors_errorType)] W) : W.cell? ⟨0, 0, none⟩ = some (.iface 118 (.agg #[.pointer (some ⟨12, 53, none⟩)])) := by
  obtain ⟨name, u, ty, e1, e2, e3, e4, e5⟩ := h _ (List.mem_singleton.2 rfl)
  have en : name = [101, 114, 114, 111, 114] := (Option.some.inj e1).symm
  subst en
  obtain rfl := Option.some.inj (gRt.symm.trans e2)
  have hm : ty ∈ (List.range 242).filter fun t => Tryz.prog.rowNamed t [101, 114, 114, 111, 114] := List.mem_filter.2 ⟨List.mem_range.2 (by rw [← gSize]; exact e3), e4⟩
  rw [gOneRow] at hm
  obtain rfl := List.mem_singleton.1 hm
  have hh : typeHandle Tryz.prog 53 = .pointer (some ⟨12, 53, none⟩) := by kernel_rfl
  rw [hh] at e5
  simpa using World.var?_cell gEt e5 0
theorem gSyn : Tryz.prog.globalNamed "strconv.ErrSyntax" = some 4 := by kernel_rfl
theorem gSynType : (Tryz.prog.globals[4]?).map (·.type) = some 53 := by kernel_rfl
theorem gStar : "*" ++ "errors.errorString" = "*errors.errorString" := by decide
theorem gPtr (u : TypeId) (h : Tryz.prog.typeName? 3 u = some "*errors.errorString") : u = 198 :=
  typeName_ptr_named (nm := "errors.errorString") (by rw [gStar]; kernel_rfl) (by kernel_rfl) (by decide) u (by rw [gStar]; exact h)
theorem gCellsE : Tryz.prog.cellsOf 200 = 1 := by kernel_rfl
theorem gCellsS : Tryz.prog.cellsOf 9 = 1 := by kernel_rfl
theorem syn_of {W : World} (h : laidMet Tryz.prog plainLaid W) : ∃ ev, W.cell? ⟨4, 0, none⟩ = some ev ∧ (ev = .nilIface ∨ ∃ te pe, ev = .iface te pe) := by
  obtain ⟨a, s, hv, _, _, _⟩ := laid_sentinel (laidMet.tail (laidMet.tail (laidMet.tail (laidMet.tail (laidMet.tail h))))) gSyn gSynType Tryz.underlying53 gPtr Tryz.underlying198 Tryz.underlying200 rfl rfl Tryz.underlying9 gCellsE gCellsS
  exact ⟨_, by simpa using World.var?_cell gSyn hv 0, .inr ⟨_, _, rfl⟩⟩
theorem laidE_of {W : World} (h : laidMetH Tryz.prog Rows.fnLexKeepsRow.laid W) : LaidE W := by
  obtain ⟨h1, h2⟩ := laid_parts h
  refine ⟨⟨?_, ?_, ?_, syn_of h1⟩, handle_of h2⟩
  · have h' : laidMet Tryz.prog (("internal/strconv.uint64pow10", Lib.tabData .u64 Lib.pow10Tab) :: plainLaid.drop 3) W := by
      have := laidMet.tail (laidMet.tail h1)
      rw [gPow] at this
      exact this
    exact Lib.tabIs_of_head glob_tab gTabType Tryz.underlying211 Tryz.underlying135 (by kernel_rfl) (by kernel_rfl) h'
  · exact utf8Tabs_of_reads (ρ := Tryz.lays260_ren) { Tryz.lays260 with } ⟨by kernel_rfl, by kernel_rfl, by kernel_rfl, by kernel_rfl, by kernel_rfl, by kernel_rfl, by kernel_rfl⟩ (gFirst ▸ Lib.laidMet.reads h1 (by simp [plainLaid])) (gAccept ▸ Lib.laidMet.reads h1 (by simp [plainLaid]))
  · exact whiteTab_of_reads (ρ := Tryz.lays199_ren) { Tryz.lays199 with } ⟨by kernel_rfl, by kernel_rfl, by kernel_rfl, by kernel_rfl, by kernel_rfl, by kernel_rfl, by kernel_rfl, by kernel_rfl⟩ (gWhite ▸ Lib.laidMet.reads h1 (by simp [plainLaid]))
/-- a world with the handle laid -/
noncomputable def baseW (os : Os) : World :=
  let w0 := World.holding Tryz.prog os ⟨#[], #[], []⟩
  { w0 with heap := w0.heap.modify 0 fun
      | .cells _ t frozen => .cells #[.iface 118 (.agg #[.pointer (some ⟨12, 53, none⟩)])] t frozen
      | o => o }
/-- the same with the plain variables laid: the witness -/
noncomputable def laidW (os : Os) : World := (baseW os).layVars Tryz.prog plainLaid
theorem laidW_os (os : Os) : (laidW os).os = os := World.layVars_os _ _ _
def plainNames : List String := plainLaid.map (·.1)
theorem plain_mem (x : String × DataW Unit) (hx : x ∈ plainLaid) : plainNames.contains x.1 = true := List.contains_iff_mem.2 (List.mem_map.2 ⟨x, hx, rfl⟩)
theorem plain_all : (plainLaid.filter fun x => plainNames.contains x.1) = plainLaid := List.filter_eq_self.2 plain_mem
theorem plain_none : (plainLaid.filter fun x => !plainNames.contains x.1) = [] := List.filter_eq_nil_iff.2 fun x hx => by rw [plain_mem x hx]; simp
theorem plain_met (os : Os) (args : Array Value) : laidMet Tryz.prog plainLaid ((laidW os).forCall (fun _ _ => 0) ⟨#[], args, []⟩).memory := by
  have h : laidMet Tryz.prog plainLaid (laidW os) := laidMet_layVars (w0 := baseW os) plainNames [] (by rw [plain_all]; rfl) (by rw [plain_all]; kernel_rfl) (by rw [plain_all]; kernel_rfl) (by rw [plain_none]; exact LaidIn.none)
  exact h.of_heap (by simp [World.memory, World.forCall, Input.heap])
theorem laidW_met (os : Os) (args : Array Value) : laidMetH Tryz.prog Rows.fnLexKeepsRow.laid ((laidW os).forCall (fun _ _ => 0) ⟨#[], args, []⟩).memory :=
  laidMetH_of_parts (show laidMet Tryz.prog plainLaid _ from plain_met os args) (by kernel_rfl)
theorem laidW_shaped (os : Os) : (laidW os).Shaped Tryz.prog := World.shaped_of_ZipB (by kernel_rfl) (by kernel_rfl)
end Go.Proofs.YtcelnnjjakiehaaGreatDoor
