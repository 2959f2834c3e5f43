/-
  DERIVED. GIVEN WITH THE SEED: THE CARDS: each row of YtjlhhcdefcofkaaGreatDoorRows.lean that lists a variable, with what it lists TIED to the program's text (the seventh form; the later family's looks); each row that meets fmt, with fmt's text TOLD by the authors' own Lean function (tested against real Go, not proved from fmt's source: count such statements apart). THE CARD IS WHAT COUNTS. Prove the row's statement (the work); the ties are given (YtjlhhcdefcofkaaGreatDoorTie.lean); close each card by the builder's one call (the guide's Derived/Test/ToyasCard.lean, 'card_holds'). Laid BY PROGRAM, IN A SANDBOX (cutbox-door.mjs). By AI agents, Wed Nov 11 2026. No macro, syntax, notation, axiom, sorry.
-/
import Derived.Test.YtjlhhcdefcofkaaGreatDoorRows
import GoSem.ClaimSeven
namespace Go.Proofs.YtjlhhcdefcofkaaGreatDoor
namespace Rows

/-- THE TIED CARD OF 'laws.FnTimesIs'. -/
def fnTimesIsCard : Claim7 := { stood := { row := fnTimesIsRow, standIns := [], harness := (true, "6132daa2523c6936b70a19780a4fc38aa7e09b4a9eb285cfe9134efe7dfd48cc"), looks := false }, kinds := [], alts := [], laidByText := true, laidKinds := [.data, .data, .widerDeep, .widerDeep, .data, .data], laidTests := true, laidLooks := .later }
def FnTimesIsCardSaid : Prop := Claim7.holds Tryz.pinned (.plain (OpenSpec.ofChange fnTimesIsSpec)) fnTimesIsCard

/-- THE SECOND FORM's CARD OF 'laws.FnTimesIs'. -/
def fnTimesIsUptoCard : Claim7 := { stood := { row := fnTimesIsUptoRow, standIns := [], harness := (true, "6132daa2523c6936b70a19780a4fc38aa7e09b4a9eb285cfe9134efe7dfd48cc"), looks := false }, kinds := [], alts := [], laidByText := true, laidKinds := [.data, .data, .widerDeep, .widerDeep, .data, .data], laidTests := true, laidLooks := .later }
def FnTimesIsUptoCardSaid : Prop := Claim7.holds Tryz.pinned (.plain (OpenSpec.upto fnTimesIsSpec)) fnTimesIsUptoCard
end Rows
end Go.Proofs.YtjlhhcdefcofkaaGreatDoor
