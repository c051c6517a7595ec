/-
  NARROWER THAN 'FOR EVERY INPUT', by the rows' own cells (each row's printed sentence says how): FnLocal: laid · FnPair: laid · FnFoundation: laid · FnPriority: laid · FnBroken: laid · FnParse: laid · FnPrefix: laid · FnFormat: laid.
  DERIVED. THE GIVEN ROWS OF THIS SEAT. 8 by the template 'for every input the law returns true; each argument reads behind the call as it read before'; 0 by the template 'total and deterministic' (their statements: YtmfdbcfpcifmcaaGreatDoorTotals.lean).
  GIVEN WITH THE SEED: the statements are not yours to turn. If you find one false, say at which input.
  Laid BY PROGRAM, IN A SANDBOX (cutbox-rows.mjs): the forced cells as the released guide's own fill.sh prints them over the translation 9ba73d62c031487b… (all of the seat's roots in one cut). By AI agents, Wed Nov 11 2026. No macro, syntax, notation, axiom, sorry.
-/
import Derived.Test.YtmfdbcfpcifmcaaGreatDoorChecked
import GoSem.PinnedTables
import GoSem.Claim
import GoSem.ClaimJoined
import GoSem.ClaimMapViews
import Derived.JoinedTies
import Derived.KernelRfl
namespace Go.Proofs.YtmfdbcfpcifmcaaGreatDoor
/- THE CELL 'sum', in the pinned program and in every row, IS THE sha256 OF THE DUMP (.gsa) THAT YtmfdbcfpcifmcaaGreatDoorProg.lean LOADS. Nothing in Lean hashes anything: it is a label: what it is worth is what the hold of that sum in a sandbox is worth. -/
noncomputable def Tryz.pinned : Pinned := { name := "ytmfdbcfpcifmcaagreatdoor", sum := "9ba73d62c031487b56fe5e11750313bc9eec82fb341279f00d6c06927b7294b6", checked := Tryz.checked }
namespace Rows
def none {H : Type} : Left H := { results := [], args := [] }

/- WHAT THE LISTED PACKAGE-LEVEL VARIABLES READ AS WHEN THE CALL BEGINS. Each datum BY PROGRAM (the guide's laid-datum.mjs) off the statement by which the dump's own 'gosem.cut.vars' lays the variable. In a bare row this is a premise. The card (YtmfdbcfpcifmcaaGreatDoorCards.lean) ties it to the program's text. -/
def laid_unicode_utf8_acceptRanges {H : Type} : DataW H := .agg [.agg [.lit (.int .u8 128), .lit (.int .u8 191)], .agg [.lit (.int .u8 160), .lit (.int .u8 191)], .agg [.lit (.int .u8 128), .lit (.int .u8 159)], .agg [.lit (.int .u8 144), .lit (.int .u8 191)], .agg [.lit (.int .u8 128), .lit (.int .u8 143)], .agg [.lit (.int .u8 0), .lit (.int .u8 0)], .agg [.lit (.int .u8 0), .lit (.int .u8 0)], .agg [.lit (.int .u8 0), .lit (.int .u8 0)], .agg [.lit (.int .u8 0), .lit (.int .u8 0)], .agg [.lit (.int .u8 0), .lit (.int .u8 0)], .agg [.lit (.int .u8 0), .lit (.int .u8 0)], .agg [.lit (.int .u8 0), .lit (.int .u8 0)], .agg [.lit (.int .u8 0), .lit (.int .u8 0)], .agg [.lit (.int .u8 0), .lit (.int .u8 0)], .agg [.lit (.int .u8 0), .lit (.int .u8 0)], .agg [.lit (.int .u8 0), .lit (.int .u8 0)]]
def laid_net_netip_z4 {H : Type} : DataW H := .agg [.ptr (.agg [.lit (.bool false), .lit (.string [])])]
def laid_net_netip_z6noz {H : Type} : DataW H := .agg [.ptr (.agg [.lit (.bool true), .lit (.string [])])]
def laid_net_netip_z0 {H : Type} : DataW H := .agg [.nil]
/-- One of Go's own tables, pinned by name: the form's constant. -/
def laid_unicode_CaseRanges : DataW Unit := Go.Pinned.caseRanges
/-- One of Go's own tables, pinned by name: the form's constant. -/
def laid_unicode_utf8_first : DataW Unit := Go.Pinned.utf8First

/-- 'laws.FnLocal': WHATEVER THE INPUT: true; the input reads as it did. -/
def fnLocalSpec : ChangeSpec := { name := "fnLocal", fn := fun _ => fun
  | [d] => { results := [.lit (.bool true)], args := [d] }
  | _ => none }
def fnLocalRow : OpenClaim := { program := "ytmfdbcfpcifmcaagreatdoor", sum := "9ba73d62c031487b56fe5e11750313bc9eec82fb341279f00d6c06927b7294b6", func := "pionice/laws.FnLocal", spec := "fnLocal", inPlace := ["internal/bytealg.IndexByteString", "unique.Make[net/netip.addrDetail]", "internal/abi.NoEscape", "internal/bytealg.MakeNoZero"], unfollowed := true, recurses := true, named := ["net/netip.z4", "net/netip.z6noz", "net/netip.z0", "unicode/utf8.first", "unicode/utf8.acceptRanges", "unicode.CaseRanges"], apart := false, laid := [("unicode/utf8.acceptRanges", laid_unicode_utf8_acceptRanges), ("net/netip.z4", laid_net_netip_z4), ("net/netip.z6noz", laid_net_netip_z6noz), ("net/netip.z0", laid_net_netip_z0), ("unicode.CaseRanges", laid_unicode_CaseRanges), ("unicode/utf8.first", laid_unicode_utf8_first)] }
def FnLocalSaid : Prop := fnLocalRow.holds Tryz.pinned (OpenSpec.ofChange fnLocalSpec)

/-- ITS FALSE NEIGHBOUR: 'it returns false'. Refute it at one input. -/
def fnLocalWrong : ChangeSpec := { name := "fnLocal", fn := fun _ => fun
  | [d] => { results := [.lit (.bool false)], args := [d] }
  | _ => none }
def FnLocalWrongFalsely : Prop := fnLocalRow.holds Tryz.pinned (OpenSpec.ofChange fnLocalWrong)

/-- 'laws.FnPair': WHATEVER THE INPUT: true; the input reads as it did. -/
def fnPairSpec : ChangeSpec := { name := "fnPair", fn := fun _ => fun
  | [d1, d2, d3] => { results := [.lit (.bool true)], args := [d1, d2, d3] }
  | _ => none }
def fnPairRow : OpenClaim := { program := "ytmfdbcfpcifmcaagreatdoor", sum := "9ba73d62c031487b56fe5e11750313bc9eec82fb341279f00d6c06927b7294b6", func := "pionice/laws.FnPair", spec := "fnPair", inPlace := ["internal/bytealg.IndexByteString", "unique.Make[net/netip.addrDetail]", "internal/abi.NoEscape", "internal/bytealg.MakeNoZero"], unfollowed := true, recurses := true, named := ["net/netip.z4", "net/netip.z6noz", "net/netip.z0", "unicode/utf8.first", "unicode/utf8.acceptRanges", "unicode.CaseRanges"], apart := false, laid := [("unicode/utf8.acceptRanges", laid_unicode_utf8_acceptRanges), ("net/netip.z4", laid_net_netip_z4), ("net/netip.z6noz", laid_net_netip_z6noz), ("net/netip.z0", laid_net_netip_z0), ("unicode.CaseRanges", laid_unicode_CaseRanges), ("unicode/utf8.first", laid_unicode_utf8_first)] }
def FnPairSaid : Prop := fnPairRow.holds Tryz.pinned (OpenSpec.ofChange fnPairSpec)

/-- ITS FALSE NEIGHBOUR: 'it returns false'. Refute it at one input. -/
def fnPairWrong : ChangeSpec := { name := "fnPair", fn := fun _ => fun
  | [d1, d2, d3] => { results := [.lit (.bool false)], args := [d1, d2, d3] }
  | _ => none }
def FnPairWrongFalsely : Prop := fnPairRow.holds Tryz.pinned (OpenSpec.ofChange fnPairWrong)

/-- 'laws.FnFoundation': WHATEVER THE INPUT: true; the input reads as it did. -/
def fnFoundationSpec : ChangeSpec := { name := "fnFoundation", fn := fun _ => fun
  | [d1, d2, d3] => { results := [.lit (.bool true)], args := [d1, d2, d3] }
  | _ => none }
def fnFoundationRow : OpenClaim := { program := "ytmfdbcfpcifmcaagreatdoor", sum := "9ba73d62c031487b56fe5e11750313bc9eec82fb341279f00d6c06927b7294b6", func := "pionice/laws.FnFoundation", spec := "fnFoundation", inPlace := ["internal/bytealg.IndexByteString", "unique.Make[net/netip.addrDetail]", "internal/abi.NoEscape", "internal/bytealg.MakeNoZero"], unfollowed := true, recurses := true, named := ["net/netip.z4", "net/netip.z6noz", "net/netip.z0", "unicode/utf8.first", "unicode/utf8.acceptRanges", "unicode.CaseRanges"], apart := false, laid := [("unicode/utf8.acceptRanges", laid_unicode_utf8_acceptRanges), ("net/netip.z4", laid_net_netip_z4), ("net/netip.z6noz", laid_net_netip_z6noz), ("net/netip.z0", laid_net_netip_z0), ("unicode.CaseRanges", laid_unicode_CaseRanges), ("unicode/utf8.first", laid_unicode_utf8_first)] }
def FnFoundationSaid : Prop := fnFoundationRow.holds Tryz.pinned (OpenSpec.ofChange fnFoundationSpec)

/-- ITS FALSE NEIGHBOUR: 'it returns false'. Refute it at one input. -/
def fnFoundationWrong : ChangeSpec := { name := "fnFoundation", fn := fun _ => fun
  | [d1, d2, d3] => { results := [.lit (.bool false)], args := [d1, d2, d3] }
  | _ => none }
def FnFoundationWrongFalsely : Prop := fnFoundationRow.holds Tryz.pinned (OpenSpec.ofChange fnFoundationWrong)

/-- 'laws.FnPriority': WHATEVER THE INPUT: true; the input reads as it did. -/
def fnPrioritySpec : ChangeSpec := { name := "fnPriority", fn := fun _ => fun
  | [d] => { results := [.lit (.bool true)], args := [d] }
  | _ => none }
def fnPriorityRow : OpenClaim := { program := "ytmfdbcfpcifmcaagreatdoor", sum := "9ba73d62c031487b56fe5e11750313bc9eec82fb341279f00d6c06927b7294b6", func := "pionice/laws.FnPriority", spec := "fnPriority", inPlace := ["internal/bytealg.IndexByteString", "unique.Make[net/netip.addrDetail]", "internal/abi.NoEscape", "internal/bytealg.MakeNoZero"], unfollowed := true, recurses := true, named := ["net/netip.z4", "net/netip.z6noz", "net/netip.z0", "unicode/utf8.first", "unicode/utf8.acceptRanges", "unicode.CaseRanges"], apart := false, laid := [("unicode/utf8.acceptRanges", laid_unicode_utf8_acceptRanges), ("net/netip.z4", laid_net_netip_z4), ("net/netip.z6noz", laid_net_netip_z6noz), ("net/netip.z0", laid_net_netip_z0), ("unicode.CaseRanges", laid_unicode_CaseRanges), ("unicode/utf8.first", laid_unicode_utf8_first)] }
def FnPrioritySaid : Prop := fnPriorityRow.holds Tryz.pinned (OpenSpec.ofChange fnPrioritySpec)

/-- ITS FALSE NEIGHBOUR: 'it returns false'. Refute it at one input. -/
def fnPriorityWrong : ChangeSpec := { name := "fnPriority", fn := fun _ => fun
  | [d] => { results := [.lit (.bool false)], args := [d] }
  | _ => none }
def FnPriorityWrongFalsely : Prop := fnPriorityRow.holds Tryz.pinned (OpenSpec.ofChange fnPriorityWrong)

/-- 'laws.FnBroken': WHATEVER THE INPUT: true; the input reads as it did. -/
def fnBrokenSpec : ChangeSpec := { name := "fnBroken", fn := fun _ => fun
  | [d1, d2] => { results := [.lit (.bool true)], args := [d1, d2] }
  | _ => none }
def fnBrokenRow : OpenClaim := { program := "ytmfdbcfpcifmcaagreatdoor", sum := "9ba73d62c031487b56fe5e11750313bc9eec82fb341279f00d6c06927b7294b6", func := "pionice/laws.FnBroken", spec := "fnBroken", inPlace := ["internal/abi.NoEscape", "internal/bytealg.MakeNoZero", "internal/bytealg.IndexByteString", "unique.Make[net/netip.addrDetail]"], unfollowed := true, recurses := true, named := ["unicode/utf8.first", "unicode/utf8.acceptRanges", "unicode.CaseRanges", "net/netip.z4", "net/netip.z6noz", "net/netip.z0"], apart := false, laid := [("unicode/utf8.acceptRanges", laid_unicode_utf8_acceptRanges), ("net/netip.z4", laid_net_netip_z4), ("net/netip.z6noz", laid_net_netip_z6noz), ("net/netip.z0", laid_net_netip_z0), ("unicode.CaseRanges", laid_unicode_CaseRanges), ("unicode/utf8.first", laid_unicode_utf8_first)] }
def FnBrokenSaid : Prop := fnBrokenRow.holds Tryz.pinned (OpenSpec.ofChange fnBrokenSpec)

/-- ITS FALSE NEIGHBOUR: 'it returns false'. Refute it at one input. -/
def fnBrokenWrong : ChangeSpec := { name := "fnBroken", fn := fun _ => fun
  | [d1, d2] => { results := [.lit (.bool false)], args := [d1, d2] }
  | _ => none }
def FnBrokenWrongFalsely : Prop := fnBrokenRow.holds Tryz.pinned (OpenSpec.ofChange fnBrokenWrong)

/-- 'laws.FnParse': WHATEVER THE INPUT: true; the input reads as it did. -/
def fnParseSpec : ChangeSpec := { name := "fnParse", fn := fun _ => fun
  | [d] => { results := [.lit (.bool true)], args := [d] }
  | _ => none }
def fnParseRow : OpenClaim := { program := "ytmfdbcfpcifmcaagreatdoor", sum := "9ba73d62c031487b56fe5e11750313bc9eec82fb341279f00d6c06927b7294b6", func := "pionice/laws.FnParse", spec := "fnParse", inPlace := ["internal/abi.NoEscape", "internal/bytealg.MakeNoZero", "internal/bytealg.IndexByteString", "unique.Make[net/netip.addrDetail]"], unfollowed := true, recurses := true, named := ["unicode/utf8.first", "unicode/utf8.acceptRanges", "unicode.CaseRanges", "net/netip.z4", "net/netip.z6noz", "net/netip.z0"], apart := false, laid := [("unicode/utf8.acceptRanges", laid_unicode_utf8_acceptRanges), ("net/netip.z4", laid_net_netip_z4), ("net/netip.z6noz", laid_net_netip_z6noz), ("net/netip.z0", laid_net_netip_z0), ("unicode.CaseRanges", laid_unicode_CaseRanges), ("unicode/utf8.first", laid_unicode_utf8_first)] }
def FnParseSaid : Prop := fnParseRow.holds Tryz.pinned (OpenSpec.ofChange fnParseSpec)

/-- ITS FALSE NEIGHBOUR: 'it returns false'. Refute it at one input. -/
def fnParseWrong : ChangeSpec := { name := "fnParse", fn := fun _ => fun
  | [d] => { results := [.lit (.bool false)], args := [d] }
  | _ => none }
def FnParseWrongFalsely : Prop := fnParseRow.holds Tryz.pinned (OpenSpec.ofChange fnParseWrong)

/-- 'laws.FnPrefix': WHATEVER THE INPUT: true; the input reads as it did. -/
def fnPrefixSpec : ChangeSpec := { name := "fnPrefix", fn := fun _ => fun
  | [d] => { results := [.lit (.bool true)], args := [d] }
  | _ => none }
def fnPrefixRow : OpenClaim := { program := "ytmfdbcfpcifmcaagreatdoor", sum := "9ba73d62c031487b56fe5e11750313bc9eec82fb341279f00d6c06927b7294b6", func := "pionice/laws.FnPrefix", spec := "fnPrefix", inPlace := ["internal/abi.NoEscape", "internal/bytealg.MakeNoZero", "internal/bytealg.IndexByteString", "unique.Make[net/netip.addrDetail]"], unfollowed := true, recurses := true, named := ["unicode/utf8.first", "unicode/utf8.acceptRanges", "unicode.CaseRanges", "net/netip.z4", "net/netip.z6noz", "net/netip.z0"], apart := false, laid := [("unicode/utf8.acceptRanges", laid_unicode_utf8_acceptRanges), ("net/netip.z4", laid_net_netip_z4), ("net/netip.z6noz", laid_net_netip_z6noz), ("net/netip.z0", laid_net_netip_z0), ("unicode.CaseRanges", laid_unicode_CaseRanges), ("unicode/utf8.first", laid_unicode_utf8_first)] }
def FnPrefixSaid : Prop := fnPrefixRow.holds Tryz.pinned (OpenSpec.ofChange fnPrefixSpec)

/-- ITS FALSE NEIGHBOUR: 'it returns false'. Refute it at one input. -/
def fnPrefixWrong : ChangeSpec := { name := "fnPrefix", fn := fun _ => fun
  | [d] => { results := [.lit (.bool false)], args := [d] }
  | _ => none }
def FnPrefixWrongFalsely : Prop := fnPrefixRow.holds Tryz.pinned (OpenSpec.ofChange fnPrefixWrong)

/-- 'laws.FnFormat': WHATEVER THE INPUT: true; the input reads as it did. -/
def fnFormatSpec : ChangeSpec := { name := "fnFormat", fn := fun _ => fun
  | [d] => { results := [.lit (.bool true)], args := [d] }
  | _ => none }
def fnFormatRow : OpenClaim := { program := "ytmfdbcfpcifmcaagreatdoor", sum := "9ba73d62c031487b56fe5e11750313bc9eec82fb341279f00d6c06927b7294b6", func := "pionice/laws.FnFormat", spec := "fnFormat", inPlace := ["internal/abi.NoEscape", "internal/bytealg.MakeNoZero", "internal/bytealg.IndexByteString", "unique.Make[net/netip.addrDetail]"], unfollowed := true, recurses := true, named := ["unicode/utf8.first", "unicode/utf8.acceptRanges", "unicode.CaseRanges", "net/netip.z4", "net/netip.z6noz", "net/netip.z0"], apart := false, laid := [("unicode/utf8.acceptRanges", laid_unicode_utf8_acceptRanges), ("net/netip.z4", laid_net_netip_z4), ("net/netip.z6noz", laid_net_netip_z6noz), ("net/netip.z0", laid_net_netip_z0), ("unicode.CaseRanges", laid_unicode_CaseRanges), ("unicode/utf8.first", laid_unicode_utf8_first)] }
def FnFormatSaid : Prop := fnFormatRow.holds Tryz.pinned (OpenSpec.ofChange fnFormatSpec)

/-- ITS FALSE NEIGHBOUR: 'it returns false'. Refute it at one input. -/
def fnFormatWrong : ChangeSpec := { name := "fnFormat", fn := fun _ => fun
  | [d] => { results := [.lit (.bool false)], args := [d] }
  | _ => none }
def FnFormatWrongFalsely : Prop := fnFormatRow.holds Tryz.pinned (OpenSpec.ofChange fnFormatWrong)

/- THE SECOND FORM. 'bulk': how many values and letters a reading holds, each counted each time it is reached (what is shared counts as often as it is met; a slice's spare places count too). A statement '..UptoSaid' is the law's where the arguments, and the package variables that the reading takes, are together of bulk at most 1048576: NARROWER than '..Said'. Prove '..Said' where nothing that the law and all that it calls make is longer than what came in: it says more and counts as full. Else prove '..UptoSaid'. A law counts once. -/
mutual
def uptoBulk {H : Type} : DataW H → Nat
  | .lit (.string bytes) => bytes.length + 1
  | .lit _ => 1
  | .nil => 1
  | .ptr d => uptoBulk d + 1
  | .slice elems spare => uptoBulkAll elems + uptoBulkAll spare + 1
  | .agg parts => uptoBulkAll parts + 1
  | .iface _ d => uptoBulk d + 1
  | .map entries => uptoBulkEntries entries + 1
  | .held _ => 1
def uptoBulkAll {H : Type} : List (DataW H) → Nat
  | [] => 0
  | d :: r => uptoBulk d + uptoBulkAll r
def uptoBulkEntries {H : Type} : List (Lit × DataW H) → Nat
  | [] => 0
  | x :: r => uptoBulkEntry x + uptoBulkEntries r
def uptoBulkEntry {H : Type} : Lit × DataW H → Nat
  | (.string bytes, d) => bytes.length + uptoBulk d + 1
  | (_, d) => uptoBulk d + 1
 end
def uptoSmall : (H : Type) → List (DataW H) → Bool := fun _ ds => decide (uptoBulkAll ds ≤ 1048576)
def OpenSpec.upto (s : _root_.Go.ChangeSpec) : _root_.Go.OpenSpec := { _root_.Go.OpenSpec.ofChange s with cond := some uptoSmall }

/-- 'laws.FnLocal', WHERE WHAT IT READS IS OF BULK AT MOST 1048576: true; the input reads as it did. -/
def fnLocalUptoRow : OpenClaim := { program := "ytmfdbcfpcifmcaagreatdoor", sum := "9ba73d62c031487b56fe5e11750313bc9eec82fb341279f00d6c06927b7294b6", func := "pionice/laws.FnLocal", spec := "fnLocal", inPlace := ["internal/bytealg.IndexByteString", "unique.Make[net/netip.addrDetail]", "internal/abi.NoEscape", "internal/bytealg.MakeNoZero"], unfollowed := true, recurses := true, named := ["net/netip.z4", "net/netip.z6noz", "net/netip.z0", "unicode/utf8.first", "unicode/utf8.acceptRanges", "unicode.CaseRanges"], apart := false, laid := [("unicode/utf8.acceptRanges", laid_unicode_utf8_acceptRanges), ("net/netip.z4", laid_net_netip_z4), ("net/netip.z6noz", laid_net_netip_z6noz), ("net/netip.z0", laid_net_netip_z0), ("unicode.CaseRanges", laid_unicode_CaseRanges), ("unicode/utf8.first", laid_unicode_utf8_first)], narrowed := true }
def FnLocalUptoSaid : Prop := fnLocalUptoRow.holds Tryz.pinned (OpenSpec.upto fnLocalSpec)

/-- 'laws.FnPair', WHERE WHAT IT READS IS OF BULK AT MOST 1048576: true; the input reads as it did. -/
def fnPairUptoRow : OpenClaim := { program := "ytmfdbcfpcifmcaagreatdoor", sum := "9ba73d62c031487b56fe5e11750313bc9eec82fb341279f00d6c06927b7294b6", func := "pionice/laws.FnPair", spec := "fnPair", inPlace := ["internal/bytealg.IndexByteString", "unique.Make[net/netip.addrDetail]", "internal/abi.NoEscape", "internal/bytealg.MakeNoZero"], unfollowed := true, recurses := true, named := ["net/netip.z4", "net/netip.z6noz", "net/netip.z0", "unicode/utf8.first", "unicode/utf8.acceptRanges", "unicode.CaseRanges"], apart := false, laid := [("unicode/utf8.acceptRanges", laid_unicode_utf8_acceptRanges), ("net/netip.z4", laid_net_netip_z4), ("net/netip.z6noz", laid_net_netip_z6noz), ("net/netip.z0", laid_net_netip_z0), ("unicode.CaseRanges", laid_unicode_CaseRanges), ("unicode/utf8.first", laid_unicode_utf8_first)], narrowed := true }
def FnPairUptoSaid : Prop := fnPairUptoRow.holds Tryz.pinned (OpenSpec.upto fnPairSpec)

/-- 'laws.FnFoundation', WHERE WHAT IT READS IS OF BULK AT MOST 1048576: true; the input reads as it did. -/
def fnFoundationUptoRow : OpenClaim := { program := "ytmfdbcfpcifmcaagreatdoor", sum := "9ba73d62c031487b56fe5e11750313bc9eec82fb341279f00d6c06927b7294b6", func := "pionice/laws.FnFoundation", spec := "fnFoundation", inPlace := ["internal/bytealg.IndexByteString", "unique.Make[net/netip.addrDetail]", "internal/abi.NoEscape", "internal/bytealg.MakeNoZero"], unfollowed := true, recurses := true, named := ["net/netip.z4", "net/netip.z6noz", "net/netip.z0", "unicode/utf8.first", "unicode/utf8.acceptRanges", "unicode.CaseRanges"], apart := false, laid := [("unicode/utf8.acceptRanges", laid_unicode_utf8_acceptRanges), ("net/netip.z4", laid_net_netip_z4), ("net/netip.z6noz", laid_net_netip_z6noz), ("net/netip.z0", laid_net_netip_z0), ("unicode.CaseRanges", laid_unicode_CaseRanges), ("unicode/utf8.first", laid_unicode_utf8_first)], narrowed := true }
def FnFoundationUptoSaid : Prop := fnFoundationUptoRow.holds Tryz.pinned (OpenSpec.upto fnFoundationSpec)

/-- 'laws.FnPriority', WHERE WHAT IT READS IS OF BULK AT MOST 1048576: true; the input reads as it did. -/
def fnPriorityUptoRow : OpenClaim := { program := "ytmfdbcfpcifmcaagreatdoor", sum := "9ba73d62c031487b56fe5e11750313bc9eec82fb341279f00d6c06927b7294b6", func := "pionice/laws.FnPriority", spec := "fnPriority", inPlace := ["internal/bytealg.IndexByteString", "unique.Make[net/netip.addrDetail]", "internal/abi.NoEscape", "internal/bytealg.MakeNoZero"], unfollowed := true, recurses := true, named := ["net/netip.z4", "net/netip.z6noz", "net/netip.z0", "unicode/utf8.first", "unicode/utf8.acceptRanges", "unicode.CaseRanges"], apart := false, laid := [("unicode/utf8.acceptRanges", laid_unicode_utf8_acceptRanges), ("net/netip.z4", laid_net_netip_z4), ("net/netip.z6noz", laid_net_netip_z6noz), ("net/netip.z0", laid_net_netip_z0), ("unicode.CaseRanges", laid_unicode_CaseRanges), ("unicode/utf8.first", laid_unicode_utf8_first)], narrowed := true }
def FnPriorityUptoSaid : Prop := fnPriorityUptoRow.holds Tryz.pinned (OpenSpec.upto fnPrioritySpec)

/-- 'laws.FnBroken', WHERE WHAT IT READS IS OF BULK AT MOST 1048576: true; the input reads as it did. -/
def fnBrokenUptoRow : OpenClaim := { program := "ytmfdbcfpcifmcaagreatdoor", sum := "9ba73d62c031487b56fe5e11750313bc9eec82fb341279f00d6c06927b7294b6", func := "pionice/laws.FnBroken", spec := "fnBroken", inPlace := ["internal/abi.NoEscape", "internal/bytealg.MakeNoZero", "internal/bytealg.IndexByteString", "unique.Make[net/netip.addrDetail]"], unfollowed := true, recurses := true, named := ["unicode/utf8.first", "unicode/utf8.acceptRanges", "unicode.CaseRanges", "net/netip.z4", "net/netip.z6noz", "net/netip.z0"], apart := false, laid := [("unicode/utf8.acceptRanges", laid_unicode_utf8_acceptRanges), ("net/netip.z4", laid_net_netip_z4), ("net/netip.z6noz", laid_net_netip_z6noz), ("net/netip.z0", laid_net_netip_z0), ("unicode.CaseRanges", laid_unicode_CaseRanges), ("unicode/utf8.first", laid_unicode_utf8_first)], narrowed := true }
def FnBrokenUptoSaid : Prop := fnBrokenUptoRow.holds Tryz.pinned (OpenSpec.upto fnBrokenSpec)

/-- 'laws.FnParse', WHERE WHAT IT READS IS OF BULK AT MOST 1048576: true; the input reads as it did. -/
def fnParseUptoRow : OpenClaim := { program := "ytmfdbcfpcifmcaagreatdoor", sum := "9ba73d62c031487b56fe5e11750313bc9eec82fb341279f00d6c06927b7294b6", func := "pionice/laws.FnParse", spec := "fnParse", inPlace := ["internal/abi.NoEscape", "internal/bytealg.MakeNoZero", "internal/bytealg.IndexByteString", "unique.Make[net/netip.addrDetail]"], unfollowed := true, recurses := true, named := ["unicode/utf8.first", "unicode/utf8.acceptRanges", "unicode.CaseRanges", "net/netip.z4", "net/netip.z6noz", "net/netip.z0"], apart := false, laid := [("unicode/utf8.acceptRanges", laid_unicode_utf8_acceptRanges), ("net/netip.z4", laid_net_netip_z4), ("net/netip.z6noz", laid_net_netip_z6noz), ("net/netip.z0", laid_net_netip_z0), ("unicode.CaseRanges", laid_unicode_CaseRanges), ("unicode/utf8.first", laid_unicode_utf8_first)], narrowed := true }
def FnParseUptoSaid : Prop := fnParseUptoRow.holds Tryz.pinned (OpenSpec.upto fnParseSpec)

/-- 'laws.FnPrefix', WHERE WHAT IT READS IS OF BULK AT MOST 1048576: true; the input reads as it did. -/
def fnPrefixUptoRow : OpenClaim := { program := "ytmfdbcfpcifmcaagreatdoor", sum := "9ba73d62c031487b56fe5e11750313bc9eec82fb341279f00d6c06927b7294b6", func := "pionice/laws.FnPrefix", spec := "fnPrefix", inPlace := ["internal/abi.NoEscape", "internal/bytealg.MakeNoZero", "internal/bytealg.IndexByteString", "unique.Make[net/netip.addrDetail]"], unfollowed := true, recurses := true, named := ["unicode/utf8.first", "unicode/utf8.acceptRanges", "unicode.CaseRanges", "net/netip.z4", "net/netip.z6noz", "net/netip.z0"], apart := false, laid := [("unicode/utf8.acceptRanges", laid_unicode_utf8_acceptRanges), ("net/netip.z4", laid_net_netip_z4), ("net/netip.z6noz", laid_net_netip_z6noz), ("net/netip.z0", laid_net_netip_z0), ("unicode.CaseRanges", laid_unicode_CaseRanges), ("unicode/utf8.first", laid_unicode_utf8_first)], narrowed := true }
def FnPrefixUptoSaid : Prop := fnPrefixUptoRow.holds Tryz.pinned (OpenSpec.upto fnPrefixSpec)

/-- 'laws.FnFormat', WHERE WHAT IT READS IS OF BULK AT MOST 1048576: true; the input reads as it did. -/
def fnFormatUptoRow : OpenClaim := { program := "ytmfdbcfpcifmcaagreatdoor", sum := "9ba73d62c031487b56fe5e11750313bc9eec82fb341279f00d6c06927b7294b6", func := "pionice/laws.FnFormat", spec := "fnFormat", inPlace := ["internal/abi.NoEscape", "internal/bytealg.MakeNoZero", "internal/bytealg.IndexByteString", "unique.Make[net/netip.addrDetail]"], unfollowed := true, recurses := true, named := ["unicode/utf8.first", "unicode/utf8.acceptRanges", "unicode.CaseRanges", "net/netip.z4", "net/netip.z6noz", "net/netip.z0"], apart := false, laid := [("unicode/utf8.acceptRanges", laid_unicode_utf8_acceptRanges), ("net/netip.z4", laid_net_netip_z4), ("net/netip.z6noz", laid_net_netip_z6noz), ("net/netip.z0", laid_net_netip_z0), ("unicode.CaseRanges", laid_unicode_CaseRanges), ("unicode/utf8.first", laid_unicode_utf8_first)], narrowed := true }
def FnFormatUptoSaid : Prop := fnFormatUptoRow.holds Tryz.pinned (OpenSpec.upto fnFormatSpec)

end Rows
end Go.Proofs.YtmfdbcfpcifmcaaGreatDoor
