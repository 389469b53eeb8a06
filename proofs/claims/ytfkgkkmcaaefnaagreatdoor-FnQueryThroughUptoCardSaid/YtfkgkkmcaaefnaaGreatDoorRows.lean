/-
  NARROWER THAN 'FOR EVERY INPUT', by the rows' own cells (each row's printed sentence says how): FnAgain: laid · FnThrough: laid · FnResolve: laid · FnAbsolute: laid · FnJoinClean: laid · FnQueryThrough: laid.
  DERIVED. THE GIVEN ROWS OF THIS SEAT. 6 by the template 'for every input the law returns true; each argument reads behind the call as it read before'; 0 by the template 'total and deterministic' (their statements: YtfkgkkmcaaefnaaGreatDoorTotals.lean).
  GIVEN WITH THE SEED: the statements are not yours to turn. If you find one false, say at which input.
  Laid BY PROGRAM, IN A SANDBOX (cutbox-rows.mjs): the forced cells as the released guide's own fill.sh prints them over the translation 1f89c99fb72210f0… (all of the seat's roots in one cut). By AI agents, Wed Nov 11 2026. No macro, syntax, notation, axiom, sorry.
-/
import Derived.Test.YtfkgkkmcaaefnaaGreatDoorChecked
import GoSem.PinnedTables
import GoSem.Claim
import GoSem.ClaimJoined
import GoSem.ClaimMapViews
import Derived.JoinedTies
import Derived.KernelRfl
namespace Go.Proofs.YtfkgkkmcaaefnaaGreatDoor
/- THE CELL 'sum', in the pinned program and in every row, IS THE sha256 OF THE DUMP (.gsa) THAT YtfkgkkmcaaefnaaGreatDoorProg.lean LOADS. Nothing in Lean hashes anything: it is a label: what it is worth is what the hold of that sum in a sandbox is worth. -/
noncomputable def Tryz.pinned : Pinned := { name := "ytfkgkkmcaaefnaagreatdoor", sum := "1f89c99fb72210f0c8e11d56b17586c9a8bd3e688420e848627fb481b2e752d9", checked := Tryz.checked }
namespace Rows
def none {H : Type} : Left H := { results := [], args := [] }

/- WHAT THE LISTED PACKAGE-LEVEL VARIABLES READ AS WHEN THE CALL BEGINS. Each datum BY PROGRAM (the guide's laid-datum.mjs) off the statement by which the dump's own 'gosem.cut.vars' lays the variable. In a bare row this is a premise. The card (YtfkgkkmcaaefnaaGreatDoorCards.lean) ties it to the program's text. -/
def laid_unicode_utf8_acceptRanges {H : Type} : DataW H := .agg [.agg [.lit (.int .u8 128), .lit (.int .u8 191)], .agg [.lit (.int .u8 160), .lit (.int .u8 191)], .agg [.lit (.int .u8 128), .lit (.int .u8 159)], .agg [.lit (.int .u8 144), .lit (.int .u8 191)], .agg [.lit (.int .u8 128), .lit (.int .u8 143)], .agg [.lit (.int .u8 0), .lit (.int .u8 0)], .agg [.lit (.int .u8 0), .lit (.int .u8 0)], .agg [.lit (.int .u8 0), .lit (.int .u8 0)], .agg [.lit (.int .u8 0), .lit (.int .u8 0)], .agg [.lit (.int .u8 0), .lit (.int .u8 0)], .agg [.lit (.int .u8 0), .lit (.int .u8 0)], .agg [.lit (.int .u8 0), .lit (.int .u8 0)], .agg [.lit (.int .u8 0), .lit (.int .u8 0)], .agg [.lit (.int .u8 0), .lit (.int .u8 0)], .agg [.lit (.int .u8 0), .lit (.int .u8 0)], .agg [.lit (.int .u8 0), .lit (.int .u8 0)]]
def laid_net_netip_z4 {H : Type} : DataW H := .agg [.ptr (.agg [.lit (.bool false), .lit (.string [])])]
def laid_net_netip_z6noz {H : Type} : DataW H := .agg [.ptr (.agg [.lit (.bool true), .lit (.string [])])]
def laid_signwriter_pub_neturl_table {H : Type} : DataW H := .agg [.lit (.int .u8 0), .lit (.int .u8 0), .lit (.int .u8 0), .lit (.int .u8 0), .lit (.int .u8 0), .lit (.int .u8 0), .lit (.int .u8 0), .lit (.int .u8 0), .lit (.int .u8 0), .lit (.int .u8 0), .lit (.int .u8 0), .lit (.int .u8 0), .lit (.int .u8 0), .lit (.int .u8 0), .lit (.int .u8 0), .lit (.int .u8 0), .lit (.int .u8 0), .lit (.int .u8 0), .lit (.int .u8 0), .lit (.int .u8 0), .lit (.int .u8 0), .lit (.int .u8 0), .lit (.int .u8 0), .lit (.int .u8 0), .lit (.int .u8 0), .lit (.int .u8 0), .lit (.int .u8 0), .lit (.int .u8 0), .lit (.int .u8 0), .lit (.int .u8 0), .lit (.int .u8 0), .lit (.int .u8 0), .lit (.int .u8 0), .lit (.int .u8 76), .lit (.int .u8 12), .lit (.int .u8 0), .lit (.int .u8 95), .lit (.int .u8 0), .lit (.int .u8 95), .lit (.int .u8 12), .lit (.int .u8 76), .lit (.int .u8 76), .lit (.int .u8 76), .lit (.int .u8 95), .lit (.int .u8 93), .lit (.int .u8 127), .lit (.int .u8 127), .lit (.int .u8 65), .lit (.int .u8 255), .lit (.int .u8 255), .lit (.int .u8 255), .lit (.int .u8 255), .lit (.int .u8 255), .lit (.int .u8 255), .lit (.int .u8 255), .lit (.int .u8 255), .lit (.int .u8 255), .lit (.int .u8 255), .lit (.int .u8 79), .lit (.int .u8 93), .lit (.int .u8 12), .lit (.int .u8 95), .lit (.int .u8 12), .lit (.int .u8 64), .lit (.int .u8 67), .lit (.int .u8 255), .lit (.int .u8 255), .lit (.int .u8 255), .lit (.int .u8 255), .lit (.int .u8 255), .lit (.int .u8 255), .lit (.int .u8 127), .lit (.int .u8 127), .lit (.int .u8 127), .lit (.int .u8 127), .lit (.int .u8 127), .lit (.int .u8 127), .lit (.int .u8 127), .lit (.int .u8 127), .lit (.int .u8 127), .lit (.int .u8 127), .lit (.int .u8 127), .lit (.int .u8 127), .lit (.int .u8 127), .lit (.int .u8 127), .lit (.int .u8 127), .lit (.int .u8 127), .lit (.int .u8 127), .lit (.int .u8 127), .lit (.int .u8 127), .lit (.int .u8 127), .lit (.int .u8 12), .lit (.int .u8 0), .lit (.int .u8 12), .lit (.int .u8 0), .lit (.int .u8 127), .lit (.int .u8 0), .lit (.int .u8 255), .lit (.int .u8 255), .lit (.int .u8 255), .lit (.int .u8 255), .lit (.int .u8 255), .lit (.int .u8 255), .lit (.int .u8 127), .lit (.int .u8 127), .lit (.int .u8 127), .lit (.int .u8 127), .lit (.int .u8 127), .lit (.int .u8 127), .lit (.int .u8 127), .lit (.int .u8 127), .lit (.int .u8 127), .lit (.int .u8 127), .lit (.int .u8 127), .lit (.int .u8 127), .lit (.int .u8 127), .lit (.int .u8 127), .lit (.int .u8 127), .lit (.int .u8 127), .lit (.int .u8 127), .lit (.int .u8 127), .lit (.int .u8 127), .lit (.int .u8 127), .lit (.int .u8 0), .lit (.int .u8 0), .lit (.int .u8 0), .lit (.int .u8 127), .lit (.int .u8 0), .lit (.int .u8 0), .lit (.int .u8 0), .lit (.int .u8 0), .lit (.int .u8 0), .lit (.int .u8 0), .lit (.int .u8 0), .lit (.int .u8 0), .lit (.int .u8 0), .lit (.int .u8 0), .lit (.int .u8 0), .lit (.int .u8 0), .lit (.int .u8 0), .lit (.int .u8 0), .lit (.int .u8 0), .lit (.int .u8 0), .lit (.int .u8 0), .lit (.int .u8 0), .lit (.int .u8 0), .lit (.int .u8 0), .lit (.int .u8 0), .lit (.int .u8 0), .lit (.int .u8 0), .lit (.int .u8 0), .lit (.int .u8 0), .lit (.int .u8 0), .lit (.int .u8 0), .lit (.int .u8 0), .lit (.int .u8 0), .lit (.int .u8 0), .lit (.int .u8 0), .lit (.int .u8 0), .lit (.int .u8 0), .lit (.int .u8 0), .lit (.int .u8 0), .lit (.int .u8 0), .lit (.int .u8 0), .lit (.int .u8 0), .lit (.int .u8 0), .lit (.int .u8 0), .lit (.int .u8 0), .lit (.int .u8 0), .lit (.int .u8 0), .lit (.int .u8 0), .lit (.int .u8 0), .lit (.int .u8 0), .lit (.int .u8 0), .lit (.int .u8 0), .lit (.int .u8 0), .lit (.int .u8 0), .lit (.int .u8 0), .lit (.int .u8 0), .lit (.int .u8 0), .lit (.int .u8 0), .lit (.int .u8 0), .lit (.int .u8 0), .lit (.int .u8 0), .lit (.int .u8 0), .lit (.int .u8 0), .lit (.int .u8 0), .lit (.int .u8 0), .lit (.int .u8 0), .lit (.int .u8 0), .lit (.int .u8 0), .lit (.int .u8 0), .lit (.int .u8 0), .lit (.int .u8 0), .lit (.int .u8 0), .lit (.int .u8 0), .lit (.int .u8 0), .lit (.int .u8 0), .lit (.int .u8 0), .lit (.int .u8 0), .lit (.int .u8 0), .lit (.int .u8 0), .lit (.int .u8 0), .lit (.int .u8 0), .lit (.int .u8 0), .lit (.int .u8 0), .lit (.int .u8 0), .lit (.int .u8 0), .lit (.int .u8 0), .lit (.int .u8 0), .lit (.int .u8 0), .lit (.int .u8 0), .lit (.int .u8 0), .lit (.int .u8 0), .lit (.int .u8 0), .lit (.int .u8 0), .lit (.int .u8 0), .lit (.int .u8 0), .lit (.int .u8 0), .lit (.int .u8 0), .lit (.int .u8 0), .lit (.int .u8 0), .lit (.int .u8 0), .lit (.int .u8 0), .lit (.int .u8 0), .lit (.int .u8 0), .lit (.int .u8 0), .lit (.int .u8 0), .lit (.int .u8 0), .lit (.int .u8 0), .lit (.int .u8 0), .lit (.int .u8 0), .lit (.int .u8 0), .lit (.int .u8 0), .lit (.int .u8 0), .lit (.int .u8 0), .lit (.int .u8 0), .lit (.int .u8 0), .lit (.int .u8 0), .lit (.int .u8 0), .lit (.int .u8 0), .lit (.int .u8 0), .lit (.int .u8 0), .lit (.int .u8 0), .lit (.int .u8 0), .lit (.int .u8 0), .lit (.int .u8 0), .lit (.int .u8 0), .lit (.int .u8 0), .lit (.int .u8 0), .lit (.int .u8 0), .lit (.int .u8 0), .lit (.int .u8 0), .lit (.int .u8 0), .lit (.int .u8 0), .lit (.int .u8 0)]
def laid_net_netip_z0 {H : Type} : DataW H := .agg [.nil]
/-- One of Go's own tables, pinned by name: the form's constant. -/
def laid_unicode_CaseRanges : DataW Unit := Go.Pinned.caseRanges
/-- One of Go's own tables, pinned by name: the form's constant. -/
def laid_unicode_utf8_first : DataW Unit := Go.Pinned.utf8First

/-- 'laws.FnAgain': WHATEVER THE INPUT: true; the input reads as it did. -/
def fnAgainSpec : ChangeSpec := { name := "fnAgain", fn := fun _ => fun
  | [d] => { results := [.lit (.bool true)], args := [d] }
  | _ => none }
def fnAgainRow : OpenClaim := { program := "ytfkgkkmcaaefnaagreatdoor", sum := "1f89c99fb72210f0c8e11d56b17586c9a8bd3e688420e848627fb481b2e752d9", func := "signwriter/laws.FnAgain", spec := "fnAgain", inPlace := ["internal/abi.NoEscape", "internal/bytealg.MakeNoZero", "internal/bytealg.IndexByteString", "unique.Make[net/netip.addrDetail]"], unfollowed := true, recurses := true, named := ["unicode/utf8.first", "unicode/utf8.acceptRanges", "unicode.CaseRanges", "signwriter/pub/neturl.table", "net/netip.z4", "net/netip.z6noz", "net/netip.z0"], apart := false, laid := [("unicode/utf8.acceptRanges", laid_unicode_utf8_acceptRanges), ("net/netip.z4", laid_net_netip_z4), ("net/netip.z6noz", laid_net_netip_z6noz), ("signwriter/pub/neturl.table", laid_signwriter_pub_neturl_table), ("net/netip.z0", laid_net_netip_z0), ("unicode.CaseRanges", laid_unicode_CaseRanges), ("unicode/utf8.first", laid_unicode_utf8_first)] }
def FnAgainSaid : Prop := fnAgainRow.holds Tryz.pinned (OpenSpec.ofChange fnAgainSpec)

/-- ITS FALSE NEIGHBOUR: 'it returns false'. Refute it at one input. -/
def fnAgainWrong : ChangeSpec := { name := "fnAgain", fn := fun _ => fun
  | [d] => { results := [.lit (.bool false)], args := [d] }
  | _ => none }
def FnAgainWrongFalsely : Prop := fnAgainRow.holds Tryz.pinned (OpenSpec.ofChange fnAgainWrong)

/-- 'laws.FnThrough': WHATEVER THE INPUT: true; the input reads as it did. -/
def fnThroughSpec : ChangeSpec := { name := "fnThrough", fn := fun _ => fun
  | [d] => { results := [.lit (.bool true)], args := [d] }
  | _ => none }
def fnThroughRow : OpenClaim := { program := "ytfkgkkmcaaefnaagreatdoor", sum := "1f89c99fb72210f0c8e11d56b17586c9a8bd3e688420e848627fb481b2e752d9", func := "signwriter/laws.FnThrough", spec := "fnThrough", inPlace := ["internal/abi.NoEscape", "internal/bytealg.MakeNoZero", "internal/bytealg.IndexByteString", "unique.Make[net/netip.addrDetail]"], unfollowed := true, recurses := true, named := ["unicode/utf8.first", "unicode/utf8.acceptRanges", "unicode.CaseRanges", "signwriter/pub/neturl.table", "net/netip.z4", "net/netip.z6noz", "net/netip.z0"], apart := false, laid := [("unicode/utf8.acceptRanges", laid_unicode_utf8_acceptRanges), ("net/netip.z4", laid_net_netip_z4), ("net/netip.z6noz", laid_net_netip_z6noz), ("signwriter/pub/neturl.table", laid_signwriter_pub_neturl_table), ("net/netip.z0", laid_net_netip_z0), ("unicode.CaseRanges", laid_unicode_CaseRanges), ("unicode/utf8.first", laid_unicode_utf8_first)] }
def FnThroughSaid : Prop := fnThroughRow.holds Tryz.pinned (OpenSpec.ofChange fnThroughSpec)

/-- ITS FALSE NEIGHBOUR: 'it returns false'. Refute it at one input. -/
def fnThroughWrong : ChangeSpec := { name := "fnThrough", fn := fun _ => fun
  | [d] => { results := [.lit (.bool false)], args := [d] }
  | _ => none }
def FnThroughWrongFalsely : Prop := fnThroughRow.holds Tryz.pinned (OpenSpec.ofChange fnThroughWrong)

/-- 'laws.FnResolve': WHATEVER THE INPUT: true; the input reads as it did. -/
def fnResolveSpec : ChangeSpec := { name := "fnResolve", fn := fun _ => fun
  | [d1, d2] => { results := [.lit (.bool true)], args := [d1, d2] }
  | _ => none }
def fnResolveRow : OpenClaim := { program := "ytfkgkkmcaaefnaagreatdoor", sum := "1f89c99fb72210f0c8e11d56b17586c9a8bd3e688420e848627fb481b2e752d9", func := "signwriter/laws.FnResolve", spec := "fnResolve", inPlace := ["internal/abi.NoEscape", "internal/bytealg.MakeNoZero", "internal/bytealg.IndexByteString", "unique.Make[net/netip.addrDetail]"], unfollowed := true, recurses := true, named := ["unicode/utf8.first", "unicode/utf8.acceptRanges", "unicode.CaseRanges", "signwriter/pub/neturl.table", "net/netip.z4", "net/netip.z6noz", "net/netip.z0"], apart := false, laid := [("unicode/utf8.acceptRanges", laid_unicode_utf8_acceptRanges), ("net/netip.z4", laid_net_netip_z4), ("net/netip.z6noz", laid_net_netip_z6noz), ("signwriter/pub/neturl.table", laid_signwriter_pub_neturl_table), ("net/netip.z0", laid_net_netip_z0), ("unicode.CaseRanges", laid_unicode_CaseRanges), ("unicode/utf8.first", laid_unicode_utf8_first)] }
def FnResolveSaid : Prop := fnResolveRow.holds Tryz.pinned (OpenSpec.ofChange fnResolveSpec)

/-- ITS FALSE NEIGHBOUR: 'it returns false'. Refute it at one input. -/
def fnResolveWrong : ChangeSpec := { name := "fnResolve", fn := fun _ => fun
  | [d1, d2] => { results := [.lit (.bool false)], args := [d1, d2] }
  | _ => none }
def FnResolveWrongFalsely : Prop := fnResolveRow.holds Tryz.pinned (OpenSpec.ofChange fnResolveWrong)

/-- 'laws.FnAbsolute': WHATEVER THE INPUT: true; the input reads as it did. -/
def fnAbsoluteSpec : ChangeSpec := { name := "fnAbsolute", fn := fun _ => fun
  | [d1, d2] => { results := [.lit (.bool true)], args := [d1, d2] }
  | _ => none }
def fnAbsoluteRow : OpenClaim := { program := "ytfkgkkmcaaefnaagreatdoor", sum := "1f89c99fb72210f0c8e11d56b17586c9a8bd3e688420e848627fb481b2e752d9", func := "signwriter/laws.FnAbsolute", spec := "fnAbsolute", inPlace := ["internal/abi.NoEscape", "internal/bytealg.MakeNoZero", "internal/bytealg.IndexByteString", "unique.Make[net/netip.addrDetail]"], unfollowed := true, recurses := true, named := ["unicode/utf8.first", "unicode/utf8.acceptRanges", "unicode.CaseRanges", "signwriter/pub/neturl.table", "net/netip.z4", "net/netip.z6noz", "net/netip.z0"], apart := false, laid := [("unicode/utf8.acceptRanges", laid_unicode_utf8_acceptRanges), ("net/netip.z4", laid_net_netip_z4), ("net/netip.z6noz", laid_net_netip_z6noz), ("signwriter/pub/neturl.table", laid_signwriter_pub_neturl_table), ("net/netip.z0", laid_net_netip_z0), ("unicode.CaseRanges", laid_unicode_CaseRanges), ("unicode/utf8.first", laid_unicode_utf8_first)] }
def FnAbsoluteSaid : Prop := fnAbsoluteRow.holds Tryz.pinned (OpenSpec.ofChange fnAbsoluteSpec)

/-- ITS FALSE NEIGHBOUR: 'it returns false'. Refute it at one input. -/
def fnAbsoluteWrong : ChangeSpec := { name := "fnAbsolute", fn := fun _ => fun
  | [d1, d2] => { results := [.lit (.bool false)], args := [d1, d2] }
  | _ => none }
def FnAbsoluteWrongFalsely : Prop := fnAbsoluteRow.holds Tryz.pinned (OpenSpec.ofChange fnAbsoluteWrong)

/-- 'laws.FnJoinClean': WHATEVER THE INPUT: true; the input reads as it did. -/
def fnJoinCleanSpec : ChangeSpec := { name := "fnJoinClean", fn := fun _ => fun
  | [d1, d2] => { results := [.lit (.bool true)], args := [d1, d2] }
  | _ => none }
def fnJoinCleanRow : OpenClaim := { program := "ytfkgkkmcaaefnaagreatdoor", sum := "1f89c99fb72210f0c8e11d56b17586c9a8bd3e688420e848627fb481b2e752d9", func := "signwriter/laws.FnJoinClean", spec := "fnJoinClean", inPlace := ["internal/abi.NoEscape", "internal/bytealg.MakeNoZero", "internal/bytealg.IndexByteString", "unique.Make[net/netip.addrDetail]"], unfollowed := true, recurses := true, named := ["unicode/utf8.first", "unicode/utf8.acceptRanges", "unicode.CaseRanges", "signwriter/pub/neturl.table", "net/netip.z4", "net/netip.z6noz", "net/netip.z0"], apart := false, laid := [("unicode/utf8.acceptRanges", laid_unicode_utf8_acceptRanges), ("net/netip.z4", laid_net_netip_z4), ("net/netip.z6noz", laid_net_netip_z6noz), ("signwriter/pub/neturl.table", laid_signwriter_pub_neturl_table), ("net/netip.z0", laid_net_netip_z0), ("unicode.CaseRanges", laid_unicode_CaseRanges), ("unicode/utf8.first", laid_unicode_utf8_first)] }
def FnJoinCleanSaid : Prop := fnJoinCleanRow.holds Tryz.pinned (OpenSpec.ofChange fnJoinCleanSpec)

/-- ITS FALSE NEIGHBOUR: 'it returns false'. Refute it at one input. -/
def fnJoinCleanWrong : ChangeSpec := { name := "fnJoinClean", fn := fun _ => fun
  | [d1, d2] => { results := [.lit (.bool false)], args := [d1, d2] }
  | _ => none }
def FnJoinCleanWrongFalsely : Prop := fnJoinCleanRow.holds Tryz.pinned (OpenSpec.ofChange fnJoinCleanWrong)

/-- 'laws.FnQueryThrough': WHATEVER THE INPUT: true; the input reads as it did. -/
def fnQueryThroughSpec : ChangeSpec := { name := "fnQueryThrough", fn := fun _ => fun
  | [d1, d2, d3, d4] => { results := [.lit (.bool true)], args := [d1, d2, d3, d4] }
  | _ => none }
def fnQueryThroughRow : OpenClaim := { program := "ytfkgkkmcaaefnaagreatdoor", sum := "1f89c99fb72210f0c8e11d56b17586c9a8bd3e688420e848627fb481b2e752d9", func := "signwriter/laws.FnQueryThrough", spec := "fnQueryThrough", inPlace := ["internal/abi.NoEscape", "internal/bytealg.MakeNoZero", "internal/bytealg.IndexByteString", "unique.Make[net/netip.addrDetail]"], unfollowed := true, recurses := true, named := ["signwriter/pub/neturl.table", "unicode/utf8.first", "unicode/utf8.acceptRanges", "unicode.CaseRanges", "net/netip.z4", "net/netip.z6noz", "net/netip.z0"], apart := false, laid := [("unicode/utf8.acceptRanges", laid_unicode_utf8_acceptRanges), ("net/netip.z4", laid_net_netip_z4), ("net/netip.z6noz", laid_net_netip_z6noz), ("signwriter/pub/neturl.table", laid_signwriter_pub_neturl_table), ("net/netip.z0", laid_net_netip_z0), ("unicode.CaseRanges", laid_unicode_CaseRanges), ("unicode/utf8.first", laid_unicode_utf8_first)] }
def FnQueryThroughSaid : Prop := fnQueryThroughRow.holds Tryz.pinned (OpenSpec.ofChange fnQueryThroughSpec)

/-- ITS FALSE NEIGHBOUR: 'it returns false'. Refute it at one input. -/
def fnQueryThroughWrong : ChangeSpec := { name := "fnQueryThrough", fn := fun _ => fun
  | [d1, d2, d3, d4] => { results := [.lit (.bool false)], args := [d1, d2, d3, d4] }
  | _ => none }
def FnQueryThroughWrongFalsely : Prop := fnQueryThroughRow.holds Tryz.pinned (OpenSpec.ofChange fnQueryThroughWrong)

/- THE SECOND FORM. 'bulk': how many values and letters a reading holds, each counted each time it is reached (what is shared counts as often as it is met; a slice's spare places count too). A statement '..UptoSaid' is the law's where the arguments, and the package variables that the reading takes, are together of bulk at most 1048576: NARROWER than '..Said'. Prove '..Said' where nothing that the law and all that it calls make is longer than what came in: it says more and counts as full. Else prove '..UptoSaid'. A law counts once. -/
mutual
def uptoBulk {H : Type} : DataW H → Nat
  | .lit (.string bytes) => bytes.length + 1
  | .lit _ => 1
  | .nil => 1
  | .ptr d => uptoBulk d + 1
  | .slice elems spare => uptoBulkAll elems + uptoBulkAll spare + 1
  | .agg parts => uptoBulkAll parts + 1
  | .iface _ d => uptoBulk d + 1
  | .map entries => uptoBulkEntries entries + 1
  | .held _ => 1
def uptoBulkAll {H : Type} : List (DataW H) → Nat
  | [] => 0
  | d :: r => uptoBulk d + uptoBulkAll r
def uptoBulkEntries {H : Type} : List (Lit × DataW H) → Nat
  | [] => 0
  | x :: r => uptoBulkEntry x + uptoBulkEntries r
def uptoBulkEntry {H : Type} : Lit × DataW H → Nat
  | (.string bytes, d) => bytes.length + uptoBulk d + 1
  | (_, d) => uptoBulk d + 1
 end
def uptoSmall : (H : Type) → List (DataW H) → Bool := fun _ ds => decide (uptoBulkAll ds ≤ 1048576)
def OpenSpec.upto (s : _root_.Go.ChangeSpec) : _root_.Go.OpenSpec := { _root_.Go.OpenSpec.ofChange s with cond := some uptoSmall }

/-- 'laws.FnAgain', WHERE WHAT IT READS IS OF BULK AT MOST 1048576: true; the input reads as it did. -/
def fnAgainUptoRow : OpenClaim := { program := "ytfkgkkmcaaefnaagreatdoor", sum := "1f89c99fb72210f0c8e11d56b17586c9a8bd3e688420e848627fb481b2e752d9", func := "signwriter/laws.FnAgain", spec := "fnAgain", inPlace := ["internal/abi.NoEscape", "internal/bytealg.MakeNoZero", "internal/bytealg.IndexByteString", "unique.Make[net/netip.addrDetail]"], unfollowed := true, recurses := true, named := ["unicode/utf8.first", "unicode/utf8.acceptRanges", "unicode.CaseRanges", "signwriter/pub/neturl.table", "net/netip.z4", "net/netip.z6noz", "net/netip.z0"], apart := false, laid := [("unicode/utf8.acceptRanges", laid_unicode_utf8_acceptRanges), ("net/netip.z4", laid_net_netip_z4), ("net/netip.z6noz", laid_net_netip_z6noz), ("signwriter/pub/neturl.table", laid_signwriter_pub_neturl_table), ("net/netip.z0", laid_net_netip_z0), ("unicode.CaseRanges", laid_unicode_CaseRanges), ("unicode/utf8.first", laid_unicode_utf8_first)], narrowed := true }
def FnAgainUptoSaid : Prop := fnAgainUptoRow.holds Tryz.pinned (OpenSpec.upto fnAgainSpec)

/-- 'laws.FnThrough', WHERE WHAT IT READS IS OF BULK AT MOST 1048576: true; the input reads as it did. -/
def fnThroughUptoRow : OpenClaim := { program := "ytfkgkkmcaaefnaagreatdoor", sum := "1f89c99fb72210f0c8e11d56b17586c9a8bd3e688420e848627fb481b2e752d9", func := "signwriter/laws.FnThrough", spec := "fnThrough", inPlace := ["internal/abi.NoEscape", "internal/bytealg.MakeNoZero", "internal/bytealg.IndexByteString", "unique.Make[net/netip.addrDetail]"], unfollowed := true, recurses := true, named := ["unicode/utf8.first", "unicode/utf8.acceptRanges", "unicode.CaseRanges", "signwriter/pub/neturl.table", "net/netip.z4", "net/netip.z6noz", "net/netip.z0"], apart := false, laid := [("unicode/utf8.acceptRanges", laid_unicode_utf8_acceptRanges), ("net/netip.z4", laid_net_netip_z4), ("net/netip.z6noz", laid_net_netip_z6noz), ("signwriter/pub/neturl.table", laid_signwriter_pub_neturl_table), ("net/netip.z0", laid_net_netip_z0), ("unicode.CaseRanges", laid_unicode_CaseRanges), ("unicode/utf8.first", laid_unicode_utf8_first)], narrowed := true }
def FnThroughUptoSaid : Prop := fnThroughUptoRow.holds Tryz.pinned (OpenSpec.upto fnThroughSpec)

/-- 'laws.FnResolve', WHERE WHAT IT READS IS OF BULK AT MOST 1048576: true; the input reads as it did. -/
def fnResolveUptoRow : OpenClaim := { program := "ytfkgkkmcaaefnaagreatdoor", sum := "1f89c99fb72210f0c8e11d56b17586c9a8bd3e688420e848627fb481b2e752d9", func := "signwriter/laws.FnResolve", spec := "fnResolve", inPlace := ["internal/abi.NoEscape", "internal/bytealg.MakeNoZero", "internal/bytealg.IndexByteString", "unique.Make[net/netip.addrDetail]"], unfollowed := true, recurses := true, named := ["unicode/utf8.first", "unicode/utf8.acceptRanges", "unicode.CaseRanges", "signwriter/pub/neturl.table", "net/netip.z4", "net/netip.z6noz", "net/netip.z0"], apart := false, laid := [("unicode/utf8.acceptRanges", laid_unicode_utf8_acceptRanges), ("net/netip.z4", laid_net_netip_z4), ("net/netip.z6noz", laid_net_netip_z6noz), ("signwriter/pub/neturl.table", laid_signwriter_pub_neturl_table), ("net/netip.z0", laid_net_netip_z0), ("unicode.CaseRanges", laid_unicode_CaseRanges), ("unicode/utf8.first", laid_unicode_utf8_first)], narrowed := true }
def FnResolveUptoSaid : Prop := fnResolveUptoRow.holds Tryz.pinned (OpenSpec.upto fnResolveSpec)

/-- 'laws.FnAbsolute', WHERE WHAT IT READS IS OF BULK AT MOST 1048576: true; the input reads as it did. -/
def fnAbsoluteUptoRow : OpenClaim := { program := "ytfkgkkmcaaefnaagreatdoor", sum := "1f89c99fb72210f0c8e11d56b17586c9a8bd3e688420e848627fb481b2e752d9", func := "signwriter/laws.FnAbsolute", spec := "fnAbsolute", inPlace := ["internal/abi.NoEscape", "internal/bytealg.MakeNoZero", "internal/bytealg.IndexByteString", "unique.Make[net/netip.addrDetail]"], unfollowed := true, recurses := true, named := ["unicode/utf8.first", "unicode/utf8.acceptRanges", "unicode.CaseRanges", "signwriter/pub/neturl.table", "net/netip.z4", "net/netip.z6noz", "net/netip.z0"], apart := false, laid := [("unicode/utf8.acceptRanges", laid_unicode_utf8_acceptRanges), ("net/netip.z4", laid_net_netip_z4), ("net/netip.z6noz", laid_net_netip_z6noz), ("signwriter/pub/neturl.table", laid_signwriter_pub_neturl_table), ("net/netip.z0", laid_net_netip_z0), ("unicode.CaseRanges", laid_unicode_CaseRanges), ("unicode/utf8.first", laid_unicode_utf8_first)], narrowed := true }
def FnAbsoluteUptoSaid : Prop := fnAbsoluteUptoRow.holds Tryz.pinned (OpenSpec.upto fnAbsoluteSpec)

/-- 'laws.FnJoinClean', WHERE WHAT IT READS IS OF BULK AT MOST 1048576: true; the input reads as it did. -/
def fnJoinCleanUptoRow : OpenClaim := { program := "ytfkgkkmcaaefnaagreatdoor", sum := "1f89c99fb72210f0c8e11d56b17586c9a8bd3e688420e848627fb481b2e752d9", func := "signwriter/laws.FnJoinClean", spec := "fnJoinClean", inPlace := ["internal/abi.NoEscape", "internal/bytealg.MakeNoZero", "internal/bytealg.IndexByteString", "unique.Make[net/netip.addrDetail]"], unfollowed := true, recurses := true, named := ["unicode/utf8.first", "unicode/utf8.acceptRanges", "unicode.CaseRanges", "signwriter/pub/neturl.table", "net/netip.z4", "net/netip.z6noz", "net/netip.z0"], apart := false, laid := [("unicode/utf8.acceptRanges", laid_unicode_utf8_acceptRanges), ("net/netip.z4", laid_net_netip_z4), ("net/netip.z6noz", laid_net_netip_z6noz), ("signwriter/pub/neturl.table", laid_signwriter_pub_neturl_table), ("net/netip.z0", laid_net_netip_z0), ("unicode.CaseRanges", laid_unicode_CaseRanges), ("unicode/utf8.first", laid_unicode_utf8_first)], narrowed := true }
def FnJoinCleanUptoSaid : Prop := fnJoinCleanUptoRow.holds Tryz.pinned (OpenSpec.upto fnJoinCleanSpec)

/-- 'laws.FnQueryThrough', WHERE WHAT IT READS IS OF BULK AT MOST 1048576: true; the input reads as it did. -/
def fnQueryThroughUptoRow : OpenClaim := { program := "ytfkgkkmcaaefnaagreatdoor", sum := "1f89c99fb72210f0c8e11d56b17586c9a8bd3e688420e848627fb481b2e752d9", func := "signwriter/laws.FnQueryThrough", spec := "fnQueryThrough", inPlace := ["internal/abi.NoEscape", "internal/bytealg.MakeNoZero", "internal/bytealg.IndexByteString", "unique.Make[net/netip.addrDetail]"], unfollowed := true, recurses := true, named := ["signwriter/pub/neturl.table", "unicode/utf8.first", "unicode/utf8.acceptRanges", "unicode.CaseRanges", "net/netip.z4", "net/netip.z6noz", "net/netip.z0"], apart := false, laid := [("unicode/utf8.acceptRanges", laid_unicode_utf8_acceptRanges), ("net/netip.z4", laid_net_netip_z4), ("net/netip.z6noz", laid_net_netip_z6noz), ("signwriter/pub/neturl.table", laid_signwriter_pub_neturl_table), ("net/netip.z0", laid_net_netip_z0), ("unicode.CaseRanges", laid_unicode_CaseRanges), ("unicode/utf8.first", laid_unicode_utf8_first)], narrowed := true }
def FnQueryThroughUptoSaid : Prop := fnQueryThroughUptoRow.holds Tryz.pinned (OpenSpec.upto fnQueryThroughSpec)

end Rows
end Go.Proofs.YtfkgkkmcaaefnaaGreatDoor
