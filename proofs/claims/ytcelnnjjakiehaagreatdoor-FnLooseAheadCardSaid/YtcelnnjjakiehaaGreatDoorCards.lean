/-
  DERIVED. GIVEN WITH THE SEED: THE CARDS: each row of YtcelnnjjakiehaaGreatDoorRows.lean that lists a variable, with what it lists TIED to the program's text (the seventh form; the later family's looks); each row that meets fmt, with fmt's text TOLD by the authors' own Lean function (tested against real Go, not proved from fmt's source: count such statements apart). THE CARD IS WHAT COUNTS. Prove the row's statement (the work); the ties are given (YtcelnnjjakiehaaGreatDoorTie.lean); close each card by the builder's one call (the guide's Derived/Test/ToyasCard.lean, 'card_holds'). Laid BY PROGRAM, IN A SANDBOX (cutbox-door.mjs). By AI agents, Wed Nov 11 2026. No macro, syntax, notation, axiom, sorry.
-/
import Derived.Test.YtcelnnjjakiehaaGreatDoorRows
import GoSem.ClaimSeven
namespace Go.Proofs.YtcelnnjjakiehaaGreatDoor
namespace Rows

/-- THE TIED CARD OF 'laws.FnLexBetween'. -/
def fnLexBetweenCard : Claim7 := { stood := { row := fnLexBetweenRow, standIns := [], harness := (true, "5fe7ccd58e18878a6769549798521f259301e9cfd978644aa70da327156381c1"), looks := true }, kinds := [], alts := [], laidByText := true, laidKinds := [.data, .data, .data, .data, .handle, .sentinel, .sentinel, .listed, .sentinel, .pinned], laidTests := true, laidLooks := .later }
def FnLexBetweenCardSaid : Prop := Claim7.holds Tryz.pinned (.plain (OpenSpec.ofChange fnLexBetweenSpec)) fnLexBetweenCard

/-- THE TIED CARD OF 'laws.FnLexGaps'. -/
def fnLexGapsCard : Claim7 := { stood := { row := fnLexGapsRow, standIns := [], harness := (true, "5fe7ccd58e18878a6769549798521f259301e9cfd978644aa70da327156381c1"), looks := true }, kinds := [], alts := [], laidByText := true, laidKinds := [.data, .data, .data, .data, .handle, .sentinel, .sentinel, .listed, .sentinel, .pinned], laidTests := true, laidLooks := .later }
def FnLexGapsCardSaid : Prop := Claim7.holds Tryz.pinned (.plain (OpenSpec.ofChange fnLexGapsSpec)) fnLexGapsCard

/-- THE TIED CARD OF 'laws.FnLexKeeps'. -/
def fnLexKeepsCard : Claim7 := { stood := { row := fnLexKeepsRow, standIns := [], harness := (true, "5fe7ccd58e18878a6769549798521f259301e9cfd978644aa70da327156381c1"), looks := true }, kinds := [], alts := [], laidByText := true, laidKinds := [.data, .data, .data, .data, .handle, .sentinel, .sentinel, .listed, .sentinel, .pinned], laidTests := true, laidLooks := .later }
def FnLexKeepsCardSaid : Prop := Claim7.holds Tryz.pinned (.plain (OpenSpec.ofChange fnLexKeepsSpec)) fnLexKeepsCard

/-- THE TIED CARD OF 'laws.FnKeywordTokens'. -/
def fnKeywordTokensCard : Claim7 := { stood := { row := fnKeywordTokensRow, standIns := [], harness := (true, "5fe7ccd58e18878a6769549798521f259301e9cfd978644aa70da327156381c1"), looks := true }, kinds := [], alts := [], laidByText := true, laidKinds := [.data, .data, .data, .data, .handle, .sentinel, .sentinel, .listed, .sentinel, .pinned], laidTests := true, laidLooks := .later }
def FnKeywordTokensCardSaid : Prop := Claim7.holds Tryz.pinned (.plain (OpenSpec.ofChange fnKeywordTokensSpec)) fnKeywordTokensCard

/-- THE TIED CARD OF 'laws.FnLooseAhead'. -/
def fnLooseAheadCard : Claim7 := { stood := { row := fnLooseAheadRow, standIns := [], harness := (true, "5fe7ccd58e18878a6769549798521f259301e9cfd978644aa70da327156381c1"), looks := true }, kinds := [], alts := [], laidByText := true, laidKinds := [.data, .data, .data, .data, .handle, .sentinel, .sentinel, .listed, .sentinel, .pinned], laidTests := true, laidLooks := .later }
def FnLooseAheadCardSaid : Prop := Claim7.holds Tryz.pinned (.plain (OpenSpec.ofChange fnLooseAheadSpec)) fnLooseAheadCard

/-- THE TIED CARD OF 'laws.FnLexSettles'. -/
def fnLexSettlesCard : Claim7 := { stood := { row := fnLexSettlesRow, standIns := [], harness := (true, "5fe7ccd58e18878a6769549798521f259301e9cfd978644aa70da327156381c1"), looks := true }, kinds := [], alts := [], laidByText := true, laidKinds := [.data, .data, .data, .data, .handle, .sentinel, .sentinel, .listed, .sentinel, .pinned], laidTests := true, laidLooks := .later }
def FnLexSettlesCardSaid : Prop := Claim7.holds Tryz.pinned (.plain (OpenSpec.ofChange fnLexSettlesSpec)) fnLexSettlesCard

/-- THE TIED CARD OF 'laws.FnSplitTokens'. -/
def fnSplitTokensCard : Claim7 := { stood := { row := fnSplitTokensRow, standIns := [], harness := (true, "5fe7ccd58e18878a6769549798521f259301e9cfd978644aa70da327156381c1"), looks := true }, kinds := [], alts := [], laidByText := true, laidKinds := [.data, .data, .data, .data, .handle, .sentinel, .sentinel, .listed, .sentinel, .pinned], laidTests := true, laidLooks := .later }
def FnSplitTokensCardSaid : Prop := Claim7.holds Tryz.pinned (.plain (OpenSpec.ofChange fnSplitTokensSpec)) fnSplitTokensCard

/-- THE SECOND FORM's CARD OF 'laws.FnLexBetween'. -/
def fnLexBetweenUptoCard : Claim7 := { stood := { row := fnLexBetweenUptoRow, standIns := [], harness := (true, "5fe7ccd58e18878a6769549798521f259301e9cfd978644aa70da327156381c1"), looks := true }, kinds := [], alts := [], laidByText := true, laidKinds := [.data, .data, .data, .data, .handle, .sentinel, .sentinel, .listed, .sentinel, .pinned], laidTests := true, laidLooks := .later }
def FnLexBetweenUptoCardSaid : Prop := Claim7.holds Tryz.pinned (.plain (OpenSpec.upto fnLexBetweenSpec)) fnLexBetweenUptoCard

/-- THE SECOND FORM's CARD OF 'laws.FnLexGaps'. -/
def fnLexGapsUptoCard : Claim7 := { stood := { row := fnLexGapsUptoRow, standIns := [], harness := (true, "5fe7ccd58e18878a6769549798521f259301e9cfd978644aa70da327156381c1"), looks := true }, kinds := [], alts := [], laidByText := true, laidKinds := [.data, .data, .data, .data, .handle, .sentinel, .sentinel, .listed, .sentinel, .pinned], laidTests := true, laidLooks := .later }
def FnLexGapsUptoCardSaid : Prop := Claim7.holds Tryz.pinned (.plain (OpenSpec.upto fnLexGapsSpec)) fnLexGapsUptoCard

/-- THE SECOND FORM's CARD OF 'laws.FnLexKeeps'. -/
def fnLexKeepsUptoCard : Claim7 := { stood := { row := fnLexKeepsUptoRow, standIns := [], harness := (true, "5fe7ccd58e18878a6769549798521f259301e9cfd978644aa70da327156381c1"), looks := true }, kinds := [], alts := [], laidByText := true, laidKinds := [.data, .data, .data, .data, .handle, .sentinel, .sentinel, .listed, .sentinel, .pinned], laidTests := true, laidLooks := .later }
def FnLexKeepsUptoCardSaid : Prop := Claim7.holds Tryz.pinned (.plain (OpenSpec.upto fnLexKeepsSpec)) fnLexKeepsUptoCard

/-- THE SECOND FORM's CARD OF 'laws.FnKeywordTokens'. -/
def fnKeywordTokensUptoCard : Claim7 := { stood := { row := fnKeywordTokensUptoRow, standIns := [], harness := (true, "5fe7ccd58e18878a6769549798521f259301e9cfd978644aa70da327156381c1"), looks := true }, kinds := [], alts := [], laidByText := true, laidKinds := [.data, .data, .data, .data, .handle, .sentinel, .sentinel, .listed, .sentinel, .pinned], laidTests := true, laidLooks := .later }
def FnKeywordTokensUptoCardSaid : Prop := Claim7.holds Tryz.pinned (.plain (OpenSpec.upto fnKeywordTokensSpec)) fnKeywordTokensUptoCard

/-- THE SECOND FORM's CARD OF 'laws.FnLooseAhead'. -/
def fnLooseAheadUptoCard : Claim7 := { stood := { row := fnLooseAheadUptoRow, standIns := [], harness := (true, "5fe7ccd58e18878a6769549798521f259301e9cfd978644aa70da327156381c1"), looks := true }, kinds := [], alts := [], laidByText := true, laidKinds := [.data, .data, .data, .data, .handle, .sentinel, .sentinel, .listed, .sentinel, .pinned], laidTests := true, laidLooks := .later }
def FnLooseAheadUptoCardSaid : Prop := Claim7.holds Tryz.pinned (.plain (OpenSpec.upto fnLooseAheadSpec)) fnLooseAheadUptoCard

/-- THE SECOND FORM's CARD OF 'laws.FnLexSettles'. -/
def fnLexSettlesUptoCard : Claim7 := { stood := { row := fnLexSettlesUptoRow, standIns := [], harness := (true, "5fe7ccd58e18878a6769549798521f259301e9cfd978644aa70da327156381c1"), looks := true }, kinds := [], alts := [], laidByText := true, laidKinds := [.data, .data, .data, .data, .handle, .sentinel, .sentinel, .listed, .sentinel, .pinned], laidTests := true, laidLooks := .later }
def FnLexSettlesUptoCardSaid : Prop := Claim7.holds Tryz.pinned (.plain (OpenSpec.upto fnLexSettlesSpec)) fnLexSettlesUptoCard

/-- THE SECOND FORM's CARD OF 'laws.FnSplitTokens'. -/
def fnSplitTokensUptoCard : Claim7 := { stood := { row := fnSplitTokensUptoRow, standIns := [], harness := (true, "5fe7ccd58e18878a6769549798521f259301e9cfd978644aa70da327156381c1"), looks := true }, kinds := [], alts := [], laidByText := true, laidKinds := [.data, .data, .data, .data, .handle, .sentinel, .sentinel, .listed, .sentinel, .pinned], laidTests := true, laidLooks := .later }
def FnSplitTokensUptoCardSaid : Prop := Claim7.holds Tryz.pinned (.plain (OpenSpec.upto fnSplitTokensSpec)) fnSplitTokensUptoCard
end Rows
end Go.Proofs.YtcelnnjjakiehaaGreatDoor
