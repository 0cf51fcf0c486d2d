/-
  DERIVED. GIVEN WITH THE SEED: THE CARDS: each row of YtfooeinfgmfhpaaDoorRows.lean that lists a variable, with what it lists TIED to the program's text (the seventh form; the later family's looks); each row that meets fmt, with fmt's text TOLD by the authors' own Lean function (tested against real Go, not proved from fmt's source: count such statements apart). THE CARD IS WHAT COUNTS. Prove the row's statement (the work); the ties are given (YtfooeinfgmfhpaaDoorTie.lean); close each card by the builder's one call (the guide's Derived/Test/ToyasCard.lean, 'card_holds'). Laid BY PROGRAM, IN A SANDBOX (cutbox-door.mjs). By AI agents, Wed Nov 11 2026. No macro, syntax, notation, axiom, sorry.
-/
import Derived.Test.YtfooeinfgmfhpaaDoorRows
import GoSem.ClaimSeven
namespace Go.Proofs.YtfooeinfgmfhpaaDoor
namespace Rows

/-- THE TIED CARD OF 'laws.FnLongest'. -/
def fnLongestCard : Claim7 := { stood := { row := fnLongestRow, standIns := [], harness := (true, "d6202f4be4604237a2d905750e86265f7345d5ddce109a6a9275b166888a5077"), looks := false }, kinds := [], alts := [], laidByText := true, laidKinds := [.data, .data, .pinned, .pinned, .pinned], laidTests := true, laidLooks := .later }
def FnLongestCardSaid : Prop := Claim7.holds Tryd.pinned (.plain (OpenSpec.ofChange fnLongestSpec)) fnLongestCard

/-- THE TIED CARD OF 'laws.FnScan'. -/
def fnScanCard : Claim7 := { stood := { row := fnScanRow, standIns := [], harness := (true, "d6202f4be4604237a2d905750e86265f7345d5ddce109a6a9275b166888a5077"), looks := false }, kinds := [], alts := [], laidByText := true, laidKinds := [.data, .data, .pinned, .pinned, .pinned], laidTests := true, laidLooks := .later }
def FnScanCardSaid : Prop := Claim7.holds Tryd.pinned (.plain (OpenSpec.ofChange fnScanSpec)) fnScanCard

/-- THE TIED CARD OF 'laws.FnWords'. -/
def fnWordsCard : Claim7 := { stood := { row := fnWordsRow, standIns := [], harness := (true, "d6202f4be4604237a2d905750e86265f7345d5ddce109a6a9275b166888a5077"), looks := false }, kinds := [], alts := [], laidByText := true, laidKinds := [.data, .data, .pinned, .pinned, .pinned], laidTests := true, laidLooks := .later }
def FnWordsCardSaid : Prop := Claim7.holds Tryd.pinned (.plain (OpenSpec.ofChange fnWordsSpec)) fnWordsCard

/-- THE SECOND FORM's CARD OF 'laws.FnLongest'. -/
def fnLongestUptoCard : Claim7 := { stood := { row := fnLongestUptoRow, standIns := [], harness := (true, "d6202f4be4604237a2d905750e86265f7345d5ddce109a6a9275b166888a5077"), looks := false }, kinds := [], alts := [], laidByText := true, laidKinds := [.data, .data, .pinned, .pinned, .pinned], laidTests := true, laidLooks := .later }
def FnLongestUptoCardSaid : Prop := Claim7.holds Tryd.pinned (.plain (OpenSpec.upto fnLongestSpec)) fnLongestUptoCard

/-- THE SECOND FORM's CARD OF 'laws.FnScan'. -/
def fnScanUptoCard : Claim7 := { stood := { row := fnScanUptoRow, standIns := [], harness := (true, "d6202f4be4604237a2d905750e86265f7345d5ddce109a6a9275b166888a5077"), looks := false }, kinds := [], alts := [], laidByText := true, laidKinds := [.data, .data, .pinned, .pinned, .pinned], laidTests := true, laidLooks := .later }
def FnScanUptoCardSaid : Prop := Claim7.holds Tryd.pinned (.plain (OpenSpec.upto fnScanSpec)) fnScanUptoCard

/-- THE SECOND FORM's CARD OF 'laws.FnWords'. -/
def fnWordsUptoCard : Claim7 := { stood := { row := fnWordsUptoRow, standIns := [], harness := (true, "d6202f4be4604237a2d905750e86265f7345d5ddce109a6a9275b166888a5077"), looks := false }, kinds := [], alts := [], laidByText := true, laidKinds := [.data, .data, .pinned, .pinned, .pinned], laidTests := true, laidLooks := .later }
def FnWordsUptoCardSaid : Prop := Claim7.holds Tryd.pinned (.plain (OpenSpec.upto fnWordsSpec)) fnWordsUptoCard
end Rows
end Go.Proofs.YtfooeinfgmfhpaaDoor
