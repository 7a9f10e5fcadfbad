/-
  DERIVED. GIVEN WITH THE SEED: THE CARDS: each row of YtcelnnjjakiehaaDoorRows.lean that lists a variable, with what it lists TIED to the program's text (the seventh form; the later family's looks); each row that meets fmt, with fmt's text TOLD by the authors' own Lean function (tested against real Go, not proved from fmt's source: count such statements apart). THE CARD IS WHAT COUNTS. Prove the row's statement (the work); the ties are given (YtcelnnjjakiehaaDoorTie.lean); close each card by the builder's one call (the guide's Derived/Test/ToyasCard.lean, 'card_holds'). Laid BY PROGRAM, IN A SANDBOX (cutbox-door.mjs). By AI agents, Wed Nov 11 2026. No macro, syntax, notation, axiom, sorry.
-/
import Derived.Test.YtcelnnjjakiehaaDoorRows
import GoSem.ClaimSeven
namespace Go.Proofs.YtcelnnjjakiehaaDoor
namespace Rows

/-- THE TIED CARD OF 'laws.FnSourceKeeps'. -/
def fnSourceKeepsCard : Claim7 := { stood := { row := fnSourceKeepsRow, standIns := [], harness := (true, "1d89460dfba7d29e25f14883fb9f415bf2c5a12bf110a313ddc20ea0f4a90bd1"), looks := false }, kinds := [], alts := [], laidByText := true, laidKinds := [.data, .data, .data, .sentinel], laidTests := true, laidLooks := .later }
def FnSourceKeepsCardSaid : Prop := Claim7.holds Tryd.pinned (.plain (OpenSpec.ofChange fnSourceKeepsSpec)) fnSourceKeepsCard

/-- THE TIED CARD OF 'laws.FnSpans'. -/
def fnSpansCard : Claim7 := { stood := { row := fnSpansRow, standIns := [], harness := (true, "1d89460dfba7d29e25f14883fb9f415bf2c5a12bf110a313ddc20ea0f4a90bd1"), looks := false }, kinds := [], alts := [], laidByText := true, laidKinds := [.data, .data, .data, .sentinel], laidTests := true, laidLooks := .later }
def FnSpansCardSaid : Prop := Claim7.holds Tryd.pinned (.plain (OpenSpec.ofChange fnSpansSpec)) fnSpansCard

/-- THE SECOND FORM's CARD OF 'laws.FnSourceKeeps'. -/
def fnSourceKeepsUptoCard : Claim7 := { stood := { row := fnSourceKeepsUptoRow, standIns := [], harness := (true, "1d89460dfba7d29e25f14883fb9f415bf2c5a12bf110a313ddc20ea0f4a90bd1"), looks := false }, kinds := [], alts := [], laidByText := true, laidKinds := [.data, .data, .data, .sentinel], laidTests := true, laidLooks := .later }
def FnSourceKeepsUptoCardSaid : Prop := Claim7.holds Tryd.pinned (.plain (OpenSpec.upto fnSourceKeepsSpec)) fnSourceKeepsUptoCard

/-- THE SECOND FORM's CARD OF 'laws.FnSpans'. -/
def fnSpansUptoCard : Claim7 := { stood := { row := fnSpansUptoRow, standIns := [], harness := (true, "1d89460dfba7d29e25f14883fb9f415bf2c5a12bf110a313ddc20ea0f4a90bd1"), looks := false }, kinds := [], alts := [], laidByText := true, laidKinds := [.data, .data, .data, .sentinel], laidTests := true, laidLooks := .later }
def FnSpansUptoCardSaid : Prop := Claim7.holds Tryd.pinned (.plain (OpenSpec.upto fnSpansSpec)) fnSpansUptoCard
end Rows
end Go.Proofs.YtcelnnjjakiehaaDoor
