/-
  DERIVED. GIVEN WITH THE SEED: THE CARDS: each row of YtnpakacfdffbpaaDoorRows.lean that lists a variable, with what it lists TIED to the program's text (the seventh form; the later family's looks); each row that meets fmt, with fmt's text TOLD by the authors' own Lean function (tested against real Go, not proved from fmt's source: count such statements apart). THE CARD IS WHAT COUNTS. Prove the row's statement (the work); the ties are given (YtnpakacfdffbpaaDoorTie.lean); close each card by the builder's one call (the guide's Derived/Test/ToyasCard.lean, 'card_holds'). Laid BY PROGRAM, IN A SANDBOX (cutbox-door.mjs). By AI agents, Wed Nov 11 2026. No macro, syntax, notation, axiom, sorry.
-/
import Derived.Test.YtnpakacfdffbpaaDoorRows
import GoSem.ClaimSeven
namespace Go.Proofs.YtnpakacfdffbpaaDoor
namespace Rows

/-- THE TIED CARD OF 'laws.FnTextLong'. -/
def fnTextLongCard : Claim7 := { stood := { row := fnTextLongRow, standIns := [], harness := (true, "2863240bda4d5cfca951662604575e94db7c68c95d4ebf47d19e29a0f322fdea"), looks := true }, kinds := [], alts := [], laidByText := true, laidKinds := [.sentinel, .sentinel, .sentinel, .sentinel, .sentinel, .sentinel, .sentinel, .sentinel, .sentinel], laidTests := true, laidLooks := .later }
def FnTextLongCardSaid : Prop := Claim7.holds Tryd.pinned (.plain (OpenSpec.ofChange fnTextLongSpec)) fnTextLongCard

/-- THE TIED CARD OF 'laws.FnDefaultReason'. -/
def fnDefaultReasonCard : Claim7 := { stood := { row := fnDefaultReasonRow, standIns := [], harness := (true, "2863240bda4d5cfca951662604575e94db7c68c95d4ebf47d19e29a0f322fdea"), looks := true }, kinds := [], alts := [], laidByText := true, laidKinds := [.sentinel, .sentinel, .sentinel, .sentinel, .sentinel, .sentinel, .sentinel, .sentinel, .sentinel, .sentinel], laidTests := true, laidLooks := .later }
def FnDefaultReasonCardSaid : Prop := Claim7.holds Tryd.pinned (.plain (OpenSpec.ofChange fnDefaultReasonSpec)) fnDefaultReasonCard

/-- THE SECOND FORM's CARD OF 'laws.FnTextLong'. -/
def fnTextLongUptoCard : Claim7 := { stood := { row := fnTextLongUptoRow, standIns := [], harness := (true, "2863240bda4d5cfca951662604575e94db7c68c95d4ebf47d19e29a0f322fdea"), looks := true }, kinds := [], alts := [], laidByText := true, laidKinds := [.sentinel, .sentinel, .sentinel, .sentinel, .sentinel, .sentinel, .sentinel, .sentinel, .sentinel], laidTests := true, laidLooks := .later }
def FnTextLongUptoCardSaid : Prop := Claim7.holds Tryd.pinned (.plain (OpenSpec.upto fnTextLongSpec)) fnTextLongUptoCard

/-- THE SECOND FORM's CARD OF 'laws.FnDefaultReason'. -/
def fnDefaultReasonUptoCard : Claim7 := { stood := { row := fnDefaultReasonUptoRow, standIns := [], harness := (true, "2863240bda4d5cfca951662604575e94db7c68c95d4ebf47d19e29a0f322fdea"), looks := true }, kinds := [], alts := [], laidByText := true, laidKinds := [.sentinel, .sentinel, .sentinel, .sentinel, .sentinel, .sentinel, .sentinel, .sentinel, .sentinel, .sentinel], laidTests := true, laidLooks := .later }
def FnDefaultReasonUptoCardSaid : Prop := Claim7.holds Tryd.pinned (.plain (OpenSpec.upto fnDefaultReasonSpec)) fnDefaultReasonUptoCard
end Rows
end Go.Proofs.YtnpakacfdffbpaaDoor
