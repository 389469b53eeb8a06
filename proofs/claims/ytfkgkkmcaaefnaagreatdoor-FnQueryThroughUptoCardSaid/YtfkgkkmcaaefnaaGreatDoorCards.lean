/-
  DERIVED. GIVEN WITH THE SEED: THE CARDS: each row of YtfkgkkmcaaefnaaGreatDoorRows.lean that lists a variable, with what it lists TIED to the program's text (the seventh form; the later family's looks); each row that meets fmt, with fmt's text TOLD by the authors' own Lean function (tested against real Go, not proved from fmt's source: count such statements apart). THE CARD IS WHAT COUNTS. Prove the row's statement (the work); the ties are given (YtfkgkkmcaaefnaaGreatDoorTie.lean); close each card by the builder's one call (the guide's Derived/Test/ToyasCard.lean, 'card_holds'). Laid BY PROGRAM, IN A SANDBOX (cutbox-door.mjs). By AI agents, Wed Nov 11 2026. No macro, syntax, notation, axiom, sorry.
-/
import Derived.Test.YtfkgkkmcaaefnaaGreatDoorRows
import GoSem.ClaimSeven
namespace Go.Proofs.YtfkgkkmcaaefnaaGreatDoor
namespace Rows

/-- THE TIED CARD OF 'laws.FnAgain'. -/
def fnAgainCard : Claim7 := { stood := { row := fnAgainRow, standIns := [], harness := (true, "a5a14c6f2d873ed8bee2c06cd6c30b41f83c4dcb32f868bda1d1e32a2b085df0"), looks := false }, kinds := [], alts := [], laidByText := true, laidKinds := [.data, .called, .called, .data, .zero, .pinned, .pinned], laidTests := true, laidLooks := .later }
def FnAgainCardSaid : Prop := Claim7.holds Tryz.pinned (.plain (OpenSpec.ofChange fnAgainSpec)) fnAgainCard

/-- THE TIED CARD OF 'laws.FnThrough'. -/
def fnThroughCard : Claim7 := { stood := { row := fnThroughRow, standIns := [], harness := (true, "a5a14c6f2d873ed8bee2c06cd6c30b41f83c4dcb32f868bda1d1e32a2b085df0"), looks := false }, kinds := [], alts := [], laidByText := true, laidKinds := [.data, .called, .called, .data, .zero, .pinned, .pinned], laidTests := true, laidLooks := .later }
def FnThroughCardSaid : Prop := Claim7.holds Tryz.pinned (.plain (OpenSpec.ofChange fnThroughSpec)) fnThroughCard

/-- THE TIED CARD OF 'laws.FnResolve'. -/
def fnResolveCard : Claim7 := { stood := { row := fnResolveRow, standIns := [], harness := (true, "a5a14c6f2d873ed8bee2c06cd6c30b41f83c4dcb32f868bda1d1e32a2b085df0"), looks := false }, kinds := [], alts := [], laidByText := true, laidKinds := [.data, .called, .called, .data, .zero, .pinned, .pinned], laidTests := true, laidLooks := .later }
def FnResolveCardSaid : Prop := Claim7.holds Tryz.pinned (.plain (OpenSpec.ofChange fnResolveSpec)) fnResolveCard

/-- THE TIED CARD OF 'laws.FnAbsolute'. -/
def fnAbsoluteCard : Claim7 := { stood := { row := fnAbsoluteRow, standIns := [], harness := (true, "a5a14c6f2d873ed8bee2c06cd6c30b41f83c4dcb32f868bda1d1e32a2b085df0"), looks := false }, kinds := [], alts := [], laidByText := true, laidKinds := [.data, .called, .called, .data, .zero, .pinned, .pinned], laidTests := true, laidLooks := .later }
def FnAbsoluteCardSaid : Prop := Claim7.holds Tryz.pinned (.plain (OpenSpec.ofChange fnAbsoluteSpec)) fnAbsoluteCard

/-- THE TIED CARD OF 'laws.FnJoinClean'. -/
def fnJoinCleanCard : Claim7 := { stood := { row := fnJoinCleanRow, standIns := [], harness := (true, "a5a14c6f2d873ed8bee2c06cd6c30b41f83c4dcb32f868bda1d1e32a2b085df0"), looks := false }, kinds := [], alts := [], laidByText := true, laidKinds := [.data, .called, .called, .data, .zero, .pinned, .pinned], laidTests := true, laidLooks := .later }
def FnJoinCleanCardSaid : Prop := Claim7.holds Tryz.pinned (.plain (OpenSpec.ofChange fnJoinCleanSpec)) fnJoinCleanCard

/-- THE TIED CARD OF 'laws.FnQueryThrough'. -/
def fnQueryThroughCard : Claim7 := { stood := { row := fnQueryThroughRow, standIns := [], harness := (true, "a5a14c6f2d873ed8bee2c06cd6c30b41f83c4dcb32f868bda1d1e32a2b085df0"), looks := false }, kinds := [], alts := [], laidByText := true, laidKinds := [.data, .called, .called, .data, .zero, .pinned, .pinned], laidTests := true, laidLooks := .later }
def FnQueryThroughCardSaid : Prop := Claim7.holds Tryz.pinned (.plain (OpenSpec.ofChange fnQueryThroughSpec)) fnQueryThroughCard

/-- THE SECOND FORM's CARD OF 'laws.FnAgain'. -/
def fnAgainUptoCard : Claim7 := { stood := { row := fnAgainUptoRow, standIns := [], harness := (true, "a5a14c6f2d873ed8bee2c06cd6c30b41f83c4dcb32f868bda1d1e32a2b085df0"), looks := false }, kinds := [], alts := [], laidByText := true, laidKinds := [.data, .called, .called, .data, .zero, .pinned, .pinned], laidTests := true, laidLooks := .later }
def FnAgainUptoCardSaid : Prop := Claim7.holds Tryz.pinned (.plain (OpenSpec.upto fnAgainSpec)) fnAgainUptoCard

/-- THE SECOND FORM's CARD OF 'laws.FnThrough'. -/
def fnThroughUptoCard : Claim7 := { stood := { row := fnThroughUptoRow, standIns := [], harness := (true, "a5a14c6f2d873ed8bee2c06cd6c30b41f83c4dcb32f868bda1d1e32a2b085df0"), looks := false }, kinds := [], alts := [], laidByText := true, laidKinds := [.data, .called, .called, .data, .zero, .pinned, .pinned], laidTests := true, laidLooks := .later }
def FnThroughUptoCardSaid : Prop := Claim7.holds Tryz.pinned (.plain (OpenSpec.upto fnThroughSpec)) fnThroughUptoCard

/-- THE SECOND FORM's CARD OF 'laws.FnResolve'. -/
def fnResolveUptoCard : Claim7 := { stood := { row := fnResolveUptoRow, standIns := [], harness := (true, "a5a14c6f2d873ed8bee2c06cd6c30b41f83c4dcb32f868bda1d1e32a2b085df0"), looks := false }, kinds := [], alts := [], laidByText := true, laidKinds := [.data, .called, .called, .data, .zero, .pinned, .pinned], laidTests := true, laidLooks := .later }
def FnResolveUptoCardSaid : Prop := Claim7.holds Tryz.pinned (.plain (OpenSpec.upto fnResolveSpec)) fnResolveUptoCard

/-- THE SECOND FORM's CARD OF 'laws.FnAbsolute'. -/
def fnAbsoluteUptoCard : Claim7 := { stood := { row := fnAbsoluteUptoRow, standIns := [], harness := (true, "a5a14c6f2d873ed8bee2c06cd6c30b41f83c4dcb32f868bda1d1e32a2b085df0"), looks := false }, kinds := [], alts := [], laidByText := true, laidKinds := [.data, .called, .called, .data, .zero, .pinned, .pinned], laidTests := true, laidLooks := .later }
def FnAbsoluteUptoCardSaid : Prop := Claim7.holds Tryz.pinned (.plain (OpenSpec.upto fnAbsoluteSpec)) fnAbsoluteUptoCard

/-- THE SECOND FORM's CARD OF 'laws.FnJoinClean'. -/
def fnJoinCleanUptoCard : Claim7 := { stood := { row := fnJoinCleanUptoRow, standIns := [], harness := (true, "a5a14c6f2d873ed8bee2c06cd6c30b41f83c4dcb32f868bda1d1e32a2b085df0"), looks := false }, kinds := [], alts := [], laidByText := true, laidKinds := [.data, .called, .called, .data, .zero, .pinned, .pinned], laidTests := true, laidLooks := .later }
def FnJoinCleanUptoCardSaid : Prop := Claim7.holds Tryz.pinned (.plain (OpenSpec.upto fnJoinCleanSpec)) fnJoinCleanUptoCard

/-- THE SECOND FORM's CARD OF 'laws.FnQueryThrough'. -/
def fnQueryThroughUptoCard : Claim7 := { stood := { row := fnQueryThroughUptoRow, standIns := [], harness := (true, "a5a14c6f2d873ed8bee2c06cd6c30b41f83c4dcb32f868bda1d1e32a2b085df0"), looks := false }, kinds := [], alts := [], laidByText := true, laidKinds := [.data, .called, .called, .data, .zero, .pinned, .pinned], laidTests := true, laidLooks := .later }
def FnQueryThroughUptoCardSaid : Prop := Claim7.holds Tryz.pinned (.plain (OpenSpec.upto fnQueryThroughSpec)) fnQueryThroughUptoCard
end Rows
end Go.Proofs.YtfkgkkmcaaefnaaGreatDoor
