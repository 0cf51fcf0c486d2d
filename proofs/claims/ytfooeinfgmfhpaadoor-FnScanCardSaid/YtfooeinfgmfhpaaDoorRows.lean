/-
  NARROWER THAN 'FOR EVERY INPUT', by the rows' own cells (each row's printed sentence says how): FnLongest: laid · FnScan: laid · FnWords: laid.
  DERIVED. THE GIVEN ROWS OF THIS SEAT. 3 by the template 'for every input the law returns true; each argument reads behind the call as it read before'; 0 by the template 'total and deterministic' (their statements: YtfooeinfgmfhpaaDoorTotals.lean).
  GIVEN WITH THE SEED: the statements are not yours to turn. If you find one false, say at which input.
  Laid BY PROGRAM, IN A SANDBOX (cutbox-rows.mjs): the forced cells as the released guide's own fill.sh prints them over the translation 1f065ca22b3330c7… (all of the seat's roots in one cut). By AI agents, Wed Nov 11 2026. No macro, syntax, notation, axiom, sorry.
-/
import Derived.Test.YtfooeinfgmfhpaaDoorChecked
import GoSem.PinnedTables
import GoSem.Claim
import GoSem.ClaimJoined
import GoSem.ClaimMapViews
import Derived.JoinedTies
import Derived.KernelRfl
namespace Go.Proofs.YtfooeinfgmfhpaaDoor
/- THE CELL 'sum', in the pinned program and in every row, IS THE sha256 OF THE DUMP (.gsa) THAT YtfooeinfgmfhpaaDoorProg.lean LOADS. Nothing in Lean hashes anything: it is a label: what it is worth is what the hold of that sum in a sandbox is worth. -/
noncomputable def Tryd.pinned : Pinned := { name := "ytfooeinfgmfhpaadoor", sum := "1f065ca22b3330c76bdc554c0ad5e42d9021efeda0d8efb99503020a5c1b5290", checked := Tryd.checked }
namespace Rows
def none {H : Type} : Left H := { results := [], args := [] }

/- WHAT THE LISTED PACKAGE-LEVEL VARIABLES READ AS WHEN THE CALL BEGINS. Each datum BY PROGRAM (the guide's laid-datum.mjs) off the statement by which the dump's own 'gosem.cut.vars' lays the variable. In a bare row this is a premise. The card (YtfooeinfgmfhpaaDoorCards.lean) ties it to the program's text. -/
def laid_unicode_utf8_acceptRanges {H : Type} : DataW H := .agg [.agg [.lit (.int .u8 128), .lit (.int .u8 191)], .agg [.lit (.int .u8 160), .lit (.int .u8 191)], .agg [.lit (.int .u8 128), .lit (.int .u8 159)], .agg [.lit (.int .u8 144), .lit (.int .u8 191)], .agg [.lit (.int .u8 128), .lit (.int .u8 143)], .agg [.lit (.int .u8 0), .lit (.int .u8 0)], .agg [.lit (.int .u8 0), .lit (.int .u8 0)], .agg [.lit (.int .u8 0), .lit (.int .u8 0)], .agg [.lit (.int .u8 0), .lit (.int .u8 0)], .agg [.lit (.int .u8 0), .lit (.int .u8 0)], .agg [.lit (.int .u8 0), .lit (.int .u8 0)], .agg [.lit (.int .u8 0), .lit (.int .u8 0)], .agg [.lit (.int .u8 0), .lit (.int .u8 0)], .agg [.lit (.int .u8 0), .lit (.int .u8 0)], .agg [.lit (.int .u8 0), .lit (.int .u8 0)], .agg [.lit (.int .u8 0), .lit (.int .u8 0)]]
def laid_unicode_properties {H : Type} : DataW H := .agg [.lit (.int .u8 1), .lit (.int .u8 1), .lit (.int .u8 1), .lit (.int .u8 1), .lit (.int .u8 1), .lit (.int .u8 1), .lit (.int .u8 1), .lit (.int .u8 1), .lit (.int .u8 1), .lit (.int .u8 1), .lit (.int .u8 1), .lit (.int .u8 1), .lit (.int .u8 1), .lit (.int .u8 1), .lit (.int .u8 1), .lit (.int .u8 1), .lit (.int .u8 1), .lit (.int .u8 1), .lit (.int .u8 1), .lit (.int .u8 1), .lit (.int .u8 1), .lit (.int .u8 1), .lit (.int .u8 1), .lit (.int .u8 1), .lit (.int .u8 1), .lit (.int .u8 1), .lit (.int .u8 1), .lit (.int .u8 1), .lit (.int .u8 1), .lit (.int .u8 1), .lit (.int .u8 1), .lit (.int .u8 1), .lit (.int .u8 144), .lit (.int .u8 130), .lit (.int .u8 130), .lit (.int .u8 130), .lit (.int .u8 136), .lit (.int .u8 130), .lit (.int .u8 130), .lit (.int .u8 130), .lit (.int .u8 130), .lit (.int .u8 130), .lit (.int .u8 130), .lit (.int .u8 136), .lit (.int .u8 130), .lit (.int .u8 130), .lit (.int .u8 130), .lit (.int .u8 130), .lit (.int .u8 132), .lit (.int .u8 132), .lit (.int .u8 132), .lit (.int .u8 132), .lit (.int .u8 132), .lit (.int .u8 132), .lit (.int .u8 132), .lit (.int .u8 132), .lit (.int .u8 132), .lit (.int .u8 132), .lit (.int .u8 130), .lit (.int .u8 130), .lit (.int .u8 136), .lit (.int .u8 136), .lit (.int .u8 136), .lit (.int .u8 130), .lit (.int .u8 130), .lit (.int .u8 160), .lit (.int .u8 160), .lit (.int .u8 160), .lit (.int .u8 160), .lit (.int .u8 160), .lit (.int .u8 160), .lit (.int .u8 160), .lit (.int .u8 160), .lit (.int .u8 160), .lit (.int .u8 160), .lit (.int .u8 160), .lit (.int .u8 160), .lit (.int .u8 160), .lit (.int .u8 160), .lit (.int .u8 160), .lit (.int .u8 160), .lit (.int .u8 160), .lit (.int .u8 160), .lit (.int .u8 160), .lit (.int .u8 160), .lit (.int .u8 160), .lit (.int .u8 160), .lit (.int .u8 160), .lit (.int .u8 160), .lit (.int .u8 160), .lit (.int .u8 160), .lit (.int .u8 130), .lit (.int .u8 130), .lit (.int .u8 130), .lit (.int .u8 136), .lit (.int .u8 130), .lit (.int .u8 136), .lit (.int .u8 192), .lit (.int .u8 192), .lit (.int .u8 192), .lit (.int .u8 192), .lit (.int .u8 192), .lit (.int .u8 192), .lit (.int .u8 192), .lit (.int .u8 192), .lit (.int .u8 192), .lit (.int .u8 192), .lit (.int .u8 192), .lit (.int .u8 192), .lit (.int .u8 192), .lit (.int .u8 192), .lit (.int .u8 192), .lit (.int .u8 192), .lit (.int .u8 192), .lit (.int .u8 192), .lit (.int .u8 192), .lit (.int .u8 192), .lit (.int .u8 192), .lit (.int .u8 192), .lit (.int .u8 192), .lit (.int .u8 192), .lit (.int .u8 192), .lit (.int .u8 192), .lit (.int .u8 130), .lit (.int .u8 136), .lit (.int .u8 130), .lit (.int .u8 136), .lit (.int .u8 1), .lit (.int .u8 1), .lit (.int .u8 1), .lit (.int .u8 1), .lit (.int .u8 1), .lit (.int .u8 1), .lit (.int .u8 1), .lit (.int .u8 1), .lit (.int .u8 1), .lit (.int .u8 1), .lit (.int .u8 1), .lit (.int .u8 1), .lit (.int .u8 1), .lit (.int .u8 1), .lit (.int .u8 1), .lit (.int .u8 1), .lit (.int .u8 1), .lit (.int .u8 1), .lit (.int .u8 1), .lit (.int .u8 1), .lit (.int .u8 1), .lit (.int .u8 1), .lit (.int .u8 1), .lit (.int .u8 1), .lit (.int .u8 1), .lit (.int .u8 1), .lit (.int .u8 1), .lit (.int .u8 1), .lit (.int .u8 1), .lit (.int .u8 1), .lit (.int .u8 1), .lit (.int .u8 1), .lit (.int .u8 1), .lit (.int .u8 16), .lit (.int .u8 130), .lit (.int .u8 136), .lit (.int .u8 136), .lit (.int .u8 136), .lit (.int .u8 136), .lit (.int .u8 136), .lit (.int .u8 130), .lit (.int .u8 136), .lit (.int .u8 136), .lit (.int .u8 224), .lit (.int .u8 130), .lit (.int .u8 136), .lit (.int .u8 0), .lit (.int .u8 136), .lit (.int .u8 136), .lit (.int .u8 136), .lit (.int .u8 136), .lit (.int .u8 132), .lit (.int .u8 132), .lit (.int .u8 136), .lit (.int .u8 192), .lit (.int .u8 130), .lit (.int .u8 130), .lit (.int .u8 136), .lit (.int .u8 132), .lit (.int .u8 224), .lit (.int .u8 130), .lit (.int .u8 132), .lit (.int .u8 132), .lit (.int .u8 132), .lit (.int .u8 130), .lit (.int .u8 160), .lit (.int .u8 160), .lit (.int .u8 160), .lit (.int .u8 160), .lit (.int .u8 160), .lit (.int .u8 160), .lit (.int .u8 160), .lit (.int .u8 160), .lit (.int .u8 160), .lit (.int .u8 160), .lit (.int .u8 160), .lit (.int .u8 160), .lit (.int .u8 160), .lit (.int .u8 160), .lit (.int .u8 160), .lit (.int .u8 160), .lit (.int .u8 160), .lit (.int .u8 160), .lit (.int .u8 160), .lit (.int .u8 160), .lit (.int .u8 160), .lit (.int .u8 160), .lit (.int .u8 160), .lit (.int .u8 136), .lit (.int .u8 160), .lit (.int .u8 160), .lit (.int .u8 160), .lit (.int .u8 160), .lit (.int .u8 160), .lit (.int .u8 160), .lit (.int .u8 160), .lit (.int .u8 192), .lit (.int .u8 192), .lit (.int .u8 192), .lit (.int .u8 192), .lit (.int .u8 192), .lit (.int .u8 192), .lit (.int .u8 192), .lit (.int .u8 192), .lit (.int .u8 192), .lit (.int .u8 192), .lit (.int .u8 192), .lit (.int .u8 192), .lit (.int .u8 192), .lit (.int .u8 192), .lit (.int .u8 192), .lit (.int .u8 192), .lit (.int .u8 192), .lit (.int .u8 192), .lit (.int .u8 192), .lit (.int .u8 192), .lit (.int .u8 192), .lit (.int .u8 192), .lit (.int .u8 192), .lit (.int .u8 192), .lit (.int .u8 136), .lit (.int .u8 192), .lit (.int .u8 192), .lit (.int .u8 192), .lit (.int .u8 192), .lit (.int .u8 192), .lit (.int .u8 192), .lit (.int .u8 192), .lit (.int .u8 192)]
/-- One of Go's own tables, pinned by name: the form's constant. -/
def laid_unicode_Digit : DataW Unit := Go.Pinned.digit
/-- One of Go's own tables, pinned by name: the form's constant. -/
def laid_unicode_Letter : DataW Unit := Go.Pinned.letter
/-- One of Go's own tables, pinned by name: the form's constant. -/
def laid_unicode_utf8_first : DataW Unit := Go.Pinned.utf8First

/-- 'laws.FnLongest': WHATEVER THE INPUT: true; the input reads as it did. -/
def fnLongestSpec : ChangeSpec := { name := "fnLongest", fn := fun _ => fun
  | [d] => { results := [.lit (.bool true)], args := [d] }
  | _ => none }
def fnLongestRow : OpenClaim := { program := "ytfooeinfgmfhpaadoor", sum := "1f065ca22b3330c76bdc554c0ad5e42d9021efeda0d8efb99503020a5c1b5290", func := "loop.example/pub-macrosexpanded/laws.FnLongest", spec := "fnLongest", unfollowed := true, recurses := true, named := ["unicode/utf8.first", "unicode/utf8.acceptRanges", "unicode.properties", "unicode.Letter", "unicode.Digit"], apart := false, laid := [("unicode/utf8.acceptRanges", laid_unicode_utf8_acceptRanges), ("unicode.properties", laid_unicode_properties), ("unicode.Digit", laid_unicode_Digit), ("unicode.Letter", laid_unicode_Letter), ("unicode/utf8.first", laid_unicode_utf8_first)] }
def FnLongestSaid : Prop := fnLongestRow.holds Tryd.pinned (OpenSpec.ofChange fnLongestSpec)

/-- ITS FALSE NEIGHBOUR: 'it returns false'. Refute it at one input. -/
def fnLongestWrong : ChangeSpec := { name := "fnLongest", fn := fun _ => fun
  | [d] => { results := [.lit (.bool false)], args := [d] }
  | _ => none }
def FnLongestWrongFalsely : Prop := fnLongestRow.holds Tryd.pinned (OpenSpec.ofChange fnLongestWrong)

/-- 'laws.FnScan': WHATEVER THE INPUT: true; the input reads as it did. -/
def fnScanSpec : ChangeSpec := { name := "fnScan", fn := fun _ => fun
  | [d] => { results := [.lit (.bool true)], args := [d] }
  | _ => none }
def fnScanRow : OpenClaim := { program := "ytfooeinfgmfhpaadoor", sum := "1f065ca22b3330c76bdc554c0ad5e42d9021efeda0d8efb99503020a5c1b5290", func := "loop.example/pub-macrosexpanded/laws.FnScan", spec := "fnScan", unfollowed := true, recurses := true, named := ["unicode/utf8.first", "unicode/utf8.acceptRanges", "unicode.properties", "unicode.Letter", "unicode.Digit"], apart := false, laid := [("unicode/utf8.acceptRanges", laid_unicode_utf8_acceptRanges), ("unicode.properties", laid_unicode_properties), ("unicode.Digit", laid_unicode_Digit), ("unicode.Letter", laid_unicode_Letter), ("unicode/utf8.first", laid_unicode_utf8_first)] }
def FnScanSaid : Prop := fnScanRow.holds Tryd.pinned (OpenSpec.ofChange fnScanSpec)

/-- ITS FALSE NEIGHBOUR: 'it returns false'. Refute it at one input. -/
def fnScanWrong : ChangeSpec := { name := "fnScan", fn := fun _ => fun
  | [d] => { results := [.lit (.bool false)], args := [d] }
  | _ => none }
def FnScanWrongFalsely : Prop := fnScanRow.holds Tryd.pinned (OpenSpec.ofChange fnScanWrong)

/-- 'laws.FnWords': WHATEVER THE INPUT: true; the input reads as it did. -/
def fnWordsSpec : ChangeSpec := { name := "fnWords", fn := fun _ => fun
  | [d] => { results := [.lit (.bool true)], args := [d] }
  | _ => none }
def fnWordsRow : OpenClaim := { program := "ytfooeinfgmfhpaadoor", sum := "1f065ca22b3330c76bdc554c0ad5e42d9021efeda0d8efb99503020a5c1b5290", func := "loop.example/pub-macrosexpanded/laws.FnWords", spec := "fnWords", unfollowed := true, recurses := true, named := ["unicode/utf8.first", "unicode/utf8.acceptRanges", "unicode.properties", "unicode.Letter", "unicode.Digit"], apart := false, laid := [("unicode/utf8.acceptRanges", laid_unicode_utf8_acceptRanges), ("unicode.properties", laid_unicode_properties), ("unicode.Digit", laid_unicode_Digit), ("unicode.Letter", laid_unicode_Letter), ("unicode/utf8.first", laid_unicode_utf8_first)] }
def FnWordsSaid : Prop := fnWordsRow.holds Tryd.pinned (OpenSpec.ofChange fnWordsSpec)

/-- ITS FALSE NEIGHBOUR: 'it returns false'. Refute it at one input. -/
def fnWordsWrong : ChangeSpec := { name := "fnWords", fn := fun _ => fun
  | [d] => { results := [.lit (.bool false)], args := [d] }
  | _ => none }
def FnWordsWrongFalsely : Prop := fnWordsRow.holds Tryd.pinned (OpenSpec.ofChange fnWordsWrong)

/- THE SECOND FORM. 'bulk': how many values and letters a reading holds, each counted each time it is reached (what is shared counts as often as it is met; a slice's spare places count too). A statement '..UptoSaid' is the law's where the arguments, and the package variables that the reading takes, are together of bulk at most 1048576: NARROWER than '..Said'. Prove '..Said' where nothing that the law and all that it calls make is longer than what came in: it says more and counts as full. Else prove '..UptoSaid'. A law counts once. -/
mutual
def uptoBulk {H : Type} : DataW H → Nat
  | .lit (.string bytes) => bytes.length + 1
  | .lit _ => 1
  | .nil => 1
  | .ptr d => uptoBulk d + 1
  | .slice elems spare => uptoBulkAll elems + uptoBulkAll spare + 1
  | .agg parts => uptoBulkAll parts + 1
  | .iface _ d => uptoBulk d + 1
  | .map entries => uptoBulkEntries entries + 1
  | .held _ => 1
def uptoBulkAll {H : Type} : List (DataW H) → Nat
  | [] => 0
  | d :: r => uptoBulk d + uptoBulkAll r
def uptoBulkEntries {H : Type} : List (Lit × DataW H) → Nat
  | [] => 0
  | x :: r => uptoBulkEntry x + uptoBulkEntries r
def uptoBulkEntry {H : Type} : Lit × DataW H → Nat
  | (.string bytes, d) => bytes.length + uptoBulk d + 1
  | (_, d) => uptoBulk d + 1
 end
def uptoSmall : (H : Type) → List (DataW H) → Bool := fun _ ds => decide (uptoBulkAll ds ≤ 1048576)
def OpenSpec.upto (s : _root_.Go.ChangeSpec) : _root_.Go.OpenSpec := { _root_.Go.OpenSpec.ofChange s with cond := some uptoSmall }

/-- 'laws.FnLongest', WHERE WHAT IT READS IS OF BULK AT MOST 1048576: true; the input reads as it did. -/
def fnLongestUptoRow : OpenClaim := { program := "ytfooeinfgmfhpaadoor", sum := "1f065ca22b3330c76bdc554c0ad5e42d9021efeda0d8efb99503020a5c1b5290", func := "loop.example/pub-macrosexpanded/laws.FnLongest", spec := "fnLongest", unfollowed := true, recurses := true, named := ["unicode/utf8.first", "unicode/utf8.acceptRanges", "unicode.properties", "unicode.Letter", "unicode.Digit"], apart := false, laid := [("unicode/utf8.acceptRanges", laid_unicode_utf8_acceptRanges), ("unicode.properties", laid_unicode_properties), ("unicode.Digit", laid_unicode_Digit), ("unicode.Letter", laid_unicode_Letter), ("unicode/utf8.first", laid_unicode_utf8_first)], narrowed := true }
def FnLongestUptoSaid : Prop := fnLongestUptoRow.holds Tryd.pinned (OpenSpec.upto fnLongestSpec)

/-- 'laws.FnScan', WHERE WHAT IT READS IS OF BULK AT MOST 1048576: true; the input reads as it did. -/
def fnScanUptoRow : OpenClaim := { program := "ytfooeinfgmfhpaadoor", sum := "1f065ca22b3330c76bdc554c0ad5e42d9021efeda0d8efb99503020a5c1b5290", func := "loop.example/pub-macrosexpanded/laws.FnScan", spec := "fnScan", unfollowed := true, recurses := true, named := ["unicode/utf8.first", "unicode/utf8.acceptRanges", "unicode.properties", "unicode.Letter", "unicode.Digit"], apart := false, laid := [("unicode/utf8.acceptRanges", laid_unicode_utf8_acceptRanges), ("unicode.properties", laid_unicode_properties), ("unicode.Digit", laid_unicode_Digit), ("unicode.Letter", laid_unicode_Letter), ("unicode/utf8.first", laid_unicode_utf8_first)], narrowed := true }
def FnScanUptoSaid : Prop := fnScanUptoRow.holds Tryd.pinned (OpenSpec.upto fnScanSpec)

/-- 'laws.FnWords', WHERE WHAT IT READS IS OF BULK AT MOST 1048576: true; the input reads as it did. -/
def fnWordsUptoRow : OpenClaim := { program := "ytfooeinfgmfhpaadoor", sum := "1f065ca22b3330c76bdc554c0ad5e42d9021efeda0d8efb99503020a5c1b5290", func := "loop.example/pub-macrosexpanded/laws.FnWords", spec := "fnWords", unfollowed := true, recurses := true, named := ["unicode/utf8.first", "unicode/utf8.acceptRanges", "unicode.properties", "unicode.Letter", "unicode.Digit"], apart := false, laid := [("unicode/utf8.acceptRanges", laid_unicode_utf8_acceptRanges), ("unicode.properties", laid_unicode_properties), ("unicode.Digit", laid_unicode_Digit), ("unicode.Letter", laid_unicode_Letter), ("unicode/utf8.first", laid_unicode_utf8_first)], narrowed := true }
def FnWordsUptoSaid : Prop := fnWordsUptoRow.holds Tryd.pinned (OpenSpec.upto fnWordsSpec)

end Rows
end Go.Proofs.YtfooeinfgmfhpaaDoor
