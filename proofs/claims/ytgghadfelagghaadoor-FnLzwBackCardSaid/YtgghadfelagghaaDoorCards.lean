/-
  DERIVED. GIVEN WITH THE SEED: THE CARDS: each row of YtgghadfelagghaaDoorRows.lean that lists a variable, with what it lists TIED to the program's text (the seventh form; the later family's looks); each row that meets fmt, with fmt's text TOLD by the authors' own Lean function (tested against real Go, not proved from fmt's source: count such statements apart). THE CARD IS WHAT COUNTS. Prove the row's statement (the work); the ties are given (YtgghadfelagghaaDoorTie.lean); close each card by the builder's one call (the guide's Derived/Test/ToyasCard.lean, 'card_holds'). Laid BY PROGRAM, IN A SANDBOX (cutbox-door.mjs). By AI agents, Wed Nov 11 2026. No macro, syntax, notation, axiom, sorry.
-/
import Derived.Test.YtgghadfelagghaaDoorRows
import GoSem.ClaimSeven
namespace Go.Proofs.YtgghadfelagghaaDoor
namespace Rows

/-- THE TIED CARD OF 'laws.FnLzwBack'. -/
def fnLzwBackCard : Claim7 := { stood := { row := fnLzwBackRow, standIns := [], harness := (true, "0698485dc4848538ddde46e38c8042f7a051778de04b7589373bf734dee3dac1"), looks := true }, kinds := [], alts := [], laidByText := true, laidKinds := [.sentinel], laidTests := true, laidLooks := .later }
def FnLzwBackCardSaid : Prop := Claim7.holds Tryd.pinned (.plain (OpenSpec.ofChange fnLzwBackSpec)) fnLzwBackCard

/-- THE SECOND FORM's CARD OF 'laws.FnLzwBack'. -/
def fnLzwBackUptoCard : Claim7 := { stood := { row := fnLzwBackUptoRow, standIns := [], harness := (true, "0698485dc4848538ddde46e38c8042f7a051778de04b7589373bf734dee3dac1"), looks := true }, kinds := [], alts := [], laidByText := true, laidKinds := [.sentinel], laidTests := true, laidLooks := .later }
def FnLzwBackUptoCardSaid : Prop := Claim7.holds Tryd.pinned (.plain (OpenSpec.upto fnLzwBackSpec)) fnLzwBackUptoCard
end Rows
end Go.Proofs.YtgghadfelagghaaDoor
