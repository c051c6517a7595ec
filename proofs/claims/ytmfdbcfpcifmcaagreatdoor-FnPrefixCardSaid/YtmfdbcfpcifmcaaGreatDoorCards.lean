/-
  DERIVED. GIVEN WITH THE SEED: THE CARDS: each row of YtmfdbcfpcifmcaaGreatDoorRows.lean that lists a variable, with what it lists TIED to the program's text (the seventh form; the later family's looks); each row that meets fmt, with fmt's text TOLD by the authors' own Lean function (tested against real Go, not proved from fmt's source: count such statements apart). THE CARD IS WHAT COUNTS. Prove the row's statement (the work); the ties are given (YtmfdbcfpcifmcaaGreatDoorTie.lean); close each card by the builder's one call (the guide's Derived/Test/ToyasCard.lean, 'card_holds'). Laid BY PROGRAM, IN A SANDBOX (cutbox-door.mjs). By AI agents, Wed Nov 11 2026. No macro, syntax, notation, axiom, sorry.
-/
import Derived.Test.YtmfdbcfpcifmcaaGreatDoorRows
import GoSem.ClaimSeven
namespace Go.Proofs.YtmfdbcfpcifmcaaGreatDoor
namespace Rows

/-- THE TIED CARD OF 'laws.FnLocal'. -/
def fnLocalCard : Claim7 := { stood := { row := fnLocalRow, standIns := [], harness := (true, "afd4bff98c1278d9d85fa19f1438027bf54837a2318627d3a9a2d23048f3671c"), looks := false }, kinds := [], alts := [], laidByText := true, laidKinds := [.data, .called, .called, .zero, .pinned, .pinned], laidTests := true, laidLooks := .later }
def FnLocalCardSaid : Prop := Claim7.holds Tryz.pinned (.plain (OpenSpec.ofChange fnLocalSpec)) fnLocalCard

/-- THE TIED CARD OF 'laws.FnPair'. -/
def fnPairCard : Claim7 := { stood := { row := fnPairRow, standIns := [], harness := (true, "afd4bff98c1278d9d85fa19f1438027bf54837a2318627d3a9a2d23048f3671c"), looks := false }, kinds := [], alts := [], laidByText := true, laidKinds := [.data, .called, .called, .zero, .pinned, .pinned], laidTests := true, laidLooks := .later }
def FnPairCardSaid : Prop := Claim7.holds Tryz.pinned (.plain (OpenSpec.ofChange fnPairSpec)) fnPairCard

/-- THE TIED CARD OF 'laws.FnFoundation'. -/
def fnFoundationCard : Claim7 := { stood := { row := fnFoundationRow, standIns := [], harness := (true, "afd4bff98c1278d9d85fa19f1438027bf54837a2318627d3a9a2d23048f3671c"), looks := false }, kinds := [], alts := [], laidByText := true, laidKinds := [.data, .called, .called, .zero, .pinned, .pinned], laidTests := true, laidLooks := .later }
def FnFoundationCardSaid : Prop := Claim7.holds Tryz.pinned (.plain (OpenSpec.ofChange fnFoundationSpec)) fnFoundationCard

/-- THE TIED CARD OF 'laws.FnPriority'. -/
def fnPriorityCard : Claim7 := { stood := { row := fnPriorityRow, standIns := [], harness := (true, "afd4bff98c1278d9d85fa19f1438027bf54837a2318627d3a9a2d23048f3671c"), looks := false }, kinds := [], alts := [], laidByText := true, laidKinds := [.data, .called, .called, .zero, .pinned, .pinned], laidTests := true, laidLooks := .later }
def FnPriorityCardSaid : Prop := Claim7.holds Tryz.pinned (.plain (OpenSpec.ofChange fnPrioritySpec)) fnPriorityCard

/-- THE TIED CARD OF 'laws.FnBroken'. -/
def fnBrokenCard : Claim7 := { stood := { row := fnBrokenRow, standIns := [], harness := (true, "afd4bff98c1278d9d85fa19f1438027bf54837a2318627d3a9a2d23048f3671c"), looks := false }, kinds := [], alts := [], laidByText := true, laidKinds := [.data, .called, .called, .zero, .pinned, .pinned], laidTests := true, laidLooks := .later }
def FnBrokenCardSaid : Prop := Claim7.holds Tryz.pinned (.plain (OpenSpec.ofChange fnBrokenSpec)) fnBrokenCard

/-- THE TIED CARD OF 'laws.FnParse'. -/
def fnParseCard : Claim7 := { stood := { row := fnParseRow, standIns := [], harness := (true, "afd4bff98c1278d9d85fa19f1438027bf54837a2318627d3a9a2d23048f3671c"), looks := false }, kinds := [], alts := [], laidByText := true, laidKinds := [.data, .called, .called, .zero, .pinned, .pinned], laidTests := true, laidLooks := .later }
def FnParseCardSaid : Prop := Claim7.holds Tryz.pinned (.plain (OpenSpec.ofChange fnParseSpec)) fnParseCard

/-- THE TIED CARD OF 'laws.FnPrefix'. -/
def fnPrefixCard : Claim7 := { stood := { row := fnPrefixRow, standIns := [], harness := (true, "afd4bff98c1278d9d85fa19f1438027bf54837a2318627d3a9a2d23048f3671c"), looks := false }, kinds := [], alts := [], laidByText := true, laidKinds := [.data, .called, .called, .zero, .pinned, .pinned], laidTests := true, laidLooks := .later }
def FnPrefixCardSaid : Prop := Claim7.holds Tryz.pinned (.plain (OpenSpec.ofChange fnPrefixSpec)) fnPrefixCard

/-- THE TIED CARD OF 'laws.FnFormat'. -/
def fnFormatCard : Claim7 := { stood := { row := fnFormatRow, standIns := [], harness := (true, "afd4bff98c1278d9d85fa19f1438027bf54837a2318627d3a9a2d23048f3671c"), looks := false }, kinds := [], alts := [], laidByText := true, laidKinds := [.data, .called, .called, .zero, .pinned, .pinned], laidTests := true, laidLooks := .later }
def FnFormatCardSaid : Prop := Claim7.holds Tryz.pinned (.plain (OpenSpec.ofChange fnFormatSpec)) fnFormatCard

/-- THE SECOND FORM's CARD OF 'laws.FnLocal'. -/
def fnLocalUptoCard : Claim7 := { stood := { row := fnLocalUptoRow, standIns := [], harness := (true, "afd4bff98c1278d9d85fa19f1438027bf54837a2318627d3a9a2d23048f3671c"), looks := false }, kinds := [], alts := [], laidByText := true, laidKinds := [.data, .called, .called, .zero, .pinned, .pinned], laidTests := true, laidLooks := .later }
def FnLocalUptoCardSaid : Prop := Claim7.holds Tryz.pinned (.plain (OpenSpec.upto fnLocalSpec)) fnLocalUptoCard

/-- THE SECOND FORM's CARD OF 'laws.FnPair'. -/
def fnPairUptoCard : Claim7 := { stood := { row := fnPairUptoRow, standIns := [], harness := (true, "afd4bff98c1278d9d85fa19f1438027bf54837a2318627d3a9a2d23048f3671c"), looks := false }, kinds := [], alts := [], laidByText := true, laidKinds := [.data, .called, .called, .zero, .pinned, .pinned], laidTests := true, laidLooks := .later }
def FnPairUptoCardSaid : Prop := Claim7.holds Tryz.pinned (.plain (OpenSpec.upto fnPairSpec)) fnPairUptoCard

/-- THE SECOND FORM's CARD OF 'laws.FnFoundation'. -/
def fnFoundationUptoCard : Claim7 := { stood := { row := fnFoundationUptoRow, standIns := [], harness := (true, "afd4bff98c1278d9d85fa19f1438027bf54837a2318627d3a9a2d23048f3671c"), looks := false }, kinds := [], alts := [], laidByText := true, laidKinds := [.data, .called, .called, .zero, .pinned, .pinned], laidTests := true, laidLooks := .later }
def FnFoundationUptoCardSaid : Prop := Claim7.holds Tryz.pinned (.plain (OpenSpec.upto fnFoundationSpec)) fnFoundationUptoCard

/-- THE SECOND FORM's CARD OF 'laws.FnPriority'. -/
def fnPriorityUptoCard : Claim7 := { stood := { row := fnPriorityUptoRow, standIns := [], harness := (true, "afd4bff98c1278d9d85fa19f1438027bf54837a2318627d3a9a2d23048f3671c"), looks := false }, kinds := [], alts := [], laidByText := true, laidKinds := [.data, .called, .called, .zero, .pinned, .pinned], laidTests := true, laidLooks := .later }
def FnPriorityUptoCardSaid : Prop := Claim7.holds Tryz.pinned (.plain (OpenSpec.upto fnPrioritySpec)) fnPriorityUptoCard

/-- THE SECOND FORM's CARD OF 'laws.FnBroken'. -/
def fnBrokenUptoCard : Claim7 := { stood := { row := fnBrokenUptoRow, standIns := [], harness := (true, "afd4bff98c1278d9d85fa19f1438027bf54837a2318627d3a9a2d23048f3671c"), looks := false }, kinds := [], alts := [], laidByText := true, laidKinds := [.data, .called, .called, .zero, .pinned, .pinned], laidTests := true, laidLooks := .later }
def FnBrokenUptoCardSaid : Prop := Claim7.holds Tryz.pinned (.plain (OpenSpec.upto fnBrokenSpec)) fnBrokenUptoCard

/-- THE SECOND FORM's CARD OF 'laws.FnParse'. -/
def fnParseUptoCard : Claim7 := { stood := { row := fnParseUptoRow, standIns := [], harness := (true, "afd4bff98c1278d9d85fa19f1438027bf54837a2318627d3a9a2d23048f3671c"), looks := false }, kinds := [], alts := [], laidByText := true, laidKinds := [.data, .called, .called, .zero, .pinned, .pinned], laidTests := true, laidLooks := .later }
def FnParseUptoCardSaid : Prop := Claim7.holds Tryz.pinned (.plain (OpenSpec.upto fnParseSpec)) fnParseUptoCard

/-- THE SECOND FORM's CARD OF 'laws.FnPrefix'. -/
def fnPrefixUptoCard : Claim7 := { stood := { row := fnPrefixUptoRow, standIns := [], harness := (true, "afd4bff98c1278d9d85fa19f1438027bf54837a2318627d3a9a2d23048f3671c"), looks := false }, kinds := [], alts := [], laidByText := true, laidKinds := [.data, .called, .called, .zero, .pinned, .pinned], laidTests := true, laidLooks := .later }
def FnPrefixUptoCardSaid : Prop := Claim7.holds Tryz.pinned (.plain (OpenSpec.upto fnPrefixSpec)) fnPrefixUptoCard

/-- THE SECOND FORM's CARD OF 'laws.FnFormat'. -/
def fnFormatUptoCard : Claim7 := { stood := { row := fnFormatUptoRow, standIns := [], harness := (true, "afd4bff98c1278d9d85fa19f1438027bf54837a2318627d3a9a2d23048f3671c"), looks := false }, kinds := [], alts := [], laidByText := true, laidKinds := [.data, .called, .called, .zero, .pinned, .pinned], laidTests := true, laidLooks := .later }
def FnFormatUptoCardSaid : Prop := Claim7.holds Tryz.pinned (.plain (OpenSpec.upto fnFormatSpec)) fnFormatUptoCard
end Rows
end Go.Proofs.YtmfdbcfpcifmcaaGreatDoor
