/-
  DERIVED. GIVEN WITH THE SEED: THE CARDS: each row of YtcekbhhpcmhicaaGreatDoorRows.lean that lists a variable, with what it lists TIED to the program's text (the seventh form; the later family's looks); each row that meets fmt, with fmt's text TOLD by the authors' own Lean function (tested against real Go, not proved from fmt's source: count such statements apart). THE CARD IS WHAT COUNTS. Prove the row's statement (the work); the ties are given (YtcekbhhpcmhicaaGreatDoorTie.lean); close each card by the builder's one call (the guide's Derived/Test/ToyasCard.lean, 'card_holds'). Laid BY PROGRAM, IN A SANDBOX (cutbox-door.mjs). By AI agents, Wed Nov 11 2026. No macro, syntax, notation, axiom, sorry.
-/
import Derived.Test.YtcekbhhpcmhicaaGreatDoorRows
import GoSem.ClaimSeven
namespace Go.Proofs.YtcekbhhpcmhicaaGreatDoor
namespace Rows

/-- THE TIED CARD OF 'laws.FnQRSelf'. -/
def fnQRSelfCard : Claim7 := { stood := { row := fnQRSelfRow, standIns := [], harness := (true, "716a79362c97038a3f39e8d280f247a206f1830b0b5c75ee4fed2cdbd6a9e74b"), looks := true }, kinds := [], alts := [], laidByText := true, laidKinds := [.data, .data, .data, .sentinel, .sentinel], laidTests := true, laidLooks := .later }
def FnQRSelfCardSaid : Prop := Claim7.holds Tryz.pinned (.plain (OpenSpec.ofChange fnQRSelfSpec)) fnQRSelfCard

/-- THE TIED CARD OF 'laws.FnRQSelf'. -/
def fnRQSelfCard : Claim7 := { stood := { row := fnRQSelfRow, standIns := [], harness := (true, "716a79362c97038a3f39e8d280f247a206f1830b0b5c75ee4fed2cdbd6a9e74b"), looks := true }, kinds := [], alts := [], laidByText := true, laidKinds := [.data, .data, .data, .sentinel, .sentinel], laidTests := true, laidLooks := .later }
def FnRQSelfCardSaid : Prop := Claim7.holds Tryz.pinned (.plain (OpenSpec.ofChange fnRQSelfSpec)) fnRQSelfCard

/-- THE SECOND FORM's CARD OF 'laws.FnQRSelf'. -/
def fnQRSelfUptoCard : Claim7 := { stood := { row := fnQRSelfUptoRow, standIns := [], harness := (true, "716a79362c97038a3f39e8d280f247a206f1830b0b5c75ee4fed2cdbd6a9e74b"), looks := true }, kinds := [], alts := [], laidByText := true, laidKinds := [.data, .data, .data, .sentinel, .sentinel], laidTests := true, laidLooks := .later }
def FnQRSelfUptoCardSaid : Prop := Claim7.holds Tryz.pinned (.plain (OpenSpec.upto fnQRSelfSpec)) fnQRSelfUptoCard

/-- THE SECOND FORM's CARD OF 'laws.FnRQSelf'. -/
def fnRQSelfUptoCard : Claim7 := { stood := { row := fnRQSelfUptoRow, standIns := [], harness := (true, "716a79362c97038a3f39e8d280f247a206f1830b0b5c75ee4fed2cdbd6a9e74b"), looks := true }, kinds := [], alts := [], laidByText := true, laidKinds := [.data, .data, .data, .sentinel, .sentinel], laidTests := true, laidLooks := .later }
def FnRQSelfUptoCardSaid : Prop := Claim7.holds Tryz.pinned (.plain (OpenSpec.upto fnRQSelfSpec)) fnRQSelfUptoCard
end Rows
end Go.Proofs.YtcekbhhpcmhicaaGreatDoor
