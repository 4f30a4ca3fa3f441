/-
  DERIVED. GIVEN WITH THE SEED: THE CARDS: each row of YtccdhgfeimlndaaGreatDoorRows.lean that lists a variable, with what it lists TIED to the program's text (the seventh form; the later family's looks); each row that meets fmt, with fmt's text TOLD by the authors' own Lean function (tested against real Go, not proved from fmt's source: count such statements apart). THE CARD IS WHAT COUNTS. Prove the row's statement (the work); the ties are given (YtccdhgfeimlndaaGreatDoorTie.lean); close each card by the builder's one call (the guide's Derived/Test/ToyasCard.lean, 'card_holds'). Laid BY PROGRAM, IN A SANDBOX (cutbox-door.mjs). By AI agents, Wed Nov 11 2026. No macro, syntax, notation, axiom, sorry.
-/
import Derived.Test.YtccdhgfeimlndaaGreatDoorRows
import GoSem.ClaimSeven
namespace Go.Proofs.YtccdhgfeimlndaaGreatDoor
namespace Rows

/-- THE TIED CARD OF 'laws.FnGjArrayPathQuery'. -/
def fnGjArrayPathQueryCard : Claim7 := { stood := { row := fnGjArrayPathQueryRow, standIns := [], harness := (true, "9d280ca8c3c2ce420b381ffcd4231440a5514db65bb7718b4aeaee5a20682340"), looks := true }, kinds := [], alts := [], laidByText := true, laidKinds := [.data, .data, .widerDeep, .widerDeep, .data, .data, .data, .data, .data, .data, .sentinel, .sentinel, .data, .data, .pinned, .pinned, .pinned], laidTests := true, laidLooks := .later }
def FnGjArrayPathQueryCardSaid : Prop := Claim7.holds Tryz.pinned (.plain (OpenSpec.ofChange fnGjArrayPathQuerySpec)) fnGjArrayPathQueryCard

/-- THE TIED CARD OF 'laws.FnGjObjectPathAny'. -/
def fnGjObjectPathAnyCard : Claim7 := { stood := { row := fnGjObjectPathAnyRow, standIns := [], harness := (true, "9d280ca8c3c2ce420b381ffcd4231440a5514db65bb7718b4aeaee5a20682340"), looks := true }, kinds := [], alts := [], laidByText := true, laidKinds := [.data, .data, .widerDeep, .widerDeep, .data, .data, .data, .data, .data, .data, .sentinel, .sentinel, .data, .data, .pinned, .pinned, .pinned], laidTests := true, laidLooks := .later }
def FnGjObjectPathAnyCardSaid : Prop := Claim7.holds Tryz.pinned (.plain (OpenSpec.ofChange fnGjObjectPathAnySpec)) fnGjObjectPathAnyCard

/-- THE SECOND FORM's CARD OF 'laws.FnGjArrayPathQuery'. -/
def fnGjArrayPathQueryUptoCard : Claim7 := { stood := { row := fnGjArrayPathQueryUptoRow, standIns := [], harness := (true, "9d280ca8c3c2ce420b381ffcd4231440a5514db65bb7718b4aeaee5a20682340"), looks := true }, kinds := [], alts := [], laidByText := true, laidKinds := [.data, .data, .widerDeep, .widerDeep, .data, .data, .data, .data, .data, .data, .sentinel, .sentinel, .data, .data, .pinned, .pinned, .pinned], laidTests := true, laidLooks := .later }
def FnGjArrayPathQueryUptoCardSaid : Prop := Claim7.holds Tryz.pinned (.plain (OpenSpec.upto fnGjArrayPathQuerySpec)) fnGjArrayPathQueryUptoCard

/-- THE SECOND FORM's CARD OF 'laws.FnGjObjectPathAny'. -/
def fnGjObjectPathAnyUptoCard : Claim7 := { stood := { row := fnGjObjectPathAnyUptoRow, standIns := [], harness := (true, "9d280ca8c3c2ce420b381ffcd4231440a5514db65bb7718b4aeaee5a20682340"), looks := true }, kinds := [], alts := [], laidByText := true, laidKinds := [.data, .data, .widerDeep, .widerDeep, .data, .data, .data, .data, .data, .data, .sentinel, .sentinel, .data, .data, .pinned, .pinned, .pinned], laidTests := true, laidLooks := .later }
def FnGjObjectPathAnyUptoCardSaid : Prop := Claim7.holds Tryz.pinned (.plain (OpenSpec.upto fnGjObjectPathAnySpec)) fnGjObjectPathAnyUptoCard
end Rows
end Go.Proofs.YtccdhgfeimlndaaGreatDoor
