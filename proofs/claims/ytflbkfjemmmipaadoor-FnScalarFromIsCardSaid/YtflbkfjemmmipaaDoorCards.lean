/-
  DERIVED. GIVEN WITH THE SEED: THE CARDS: each row of YtflbkfjemmmipaaDoorRows.lean that lists a variable, with what it lists TIED to the program's text (the seventh form; the later family's looks); each row that meets fmt, with fmt's text TOLD by the authors' own Lean function (tested against real Go, not proved from fmt's source: count such statements apart). THE CARD IS WHAT COUNTS. Prove the row's statement (the work); the ties are given (YtflbkfjemmmipaaDoorTie.lean); close each card by the builder's one call (the guide's Derived/Test/ToyasCard.lean, 'card_holds'). Laid BY PROGRAM, IN A SANDBOX (cutbox-door.mjs). By AI agents, Wed Nov 11 2026. No macro, syntax, notation, axiom, sorry.
-/
import Derived.Test.YtflbkfjemmmipaaDoorRows
import GoSem.ClaimSeven
namespace Go.Proofs.YtflbkfjemmmipaaDoor
namespace Rows

/-- THE TIED CARD OF 'laws.FnScalarRedIs'. -/
def fnScalarRedIsCard : Claim7 := { stood := { row := fnScalarRedIsRow, standIns := [], harness := (true, "d1f9b533cfeb7918d2ae4ebf43d1bafc014d73cc35803fa0fe6837005b1a6f0c"), looks := false }, kinds := [], alts := [], laidByText := true, laidKinds := [.widerDeep], laidTests := true, laidLooks := .later }
def FnScalarRedIsCardSaid : Prop := Claim7.holds Tryd.pinned (.plain (OpenSpec.ofChange fnScalarRedIsSpec)) fnScalarRedIsCard

/-- THE TIED CARD OF 'laws.FnScalarNegIs'. -/
def fnScalarNegIsCard : Claim7 := { stood := { row := fnScalarNegIsRow, standIns := [], harness := (true, "d1f9b533cfeb7918d2ae4ebf43d1bafc014d73cc35803fa0fe6837005b1a6f0c"), looks := false }, kinds := [], alts := [], laidByText := true, laidKinds := [.widerDeep, .widerDeep], laidTests := true, laidLooks := .later }
def FnScalarNegIsCardSaid : Prop := Claim7.holds Tryd.pinned (.plain (OpenSpec.ofChange fnScalarNegIsSpec)) fnScalarNegIsCard

/-- THE TIED CARD OF 'laws.FnScalarIs'. -/
def fnScalarIsCard : Claim7 := { stood := { row := fnScalarIsRow, standIns := [], harness := (true, "d1f9b533cfeb7918d2ae4ebf43d1bafc014d73cc35803fa0fe6837005b1a6f0c"), looks := false }, kinds := [], alts := [], laidByText := true, laidKinds := [.widerDeep, .widerDeep], laidTests := true, laidLooks := .later }
def FnScalarIsCardSaid : Prop := Claim7.holds Tryd.pinned (.plain (OpenSpec.ofChange fnScalarIsSpec)) fnScalarIsCard

/-- THE TIED CARD OF 'laws.FnScalarMulIs'. -/
def fnScalarMulIsCard : Claim7 := { stood := { row := fnScalarMulIsRow, standIns := [], harness := (true, "d1f9b533cfeb7918d2ae4ebf43d1bafc014d73cc35803fa0fe6837005b1a6f0c"), looks := false }, kinds := [], alts := [], laidByText := true, laidKinds := [.widerDeep, .widerDeep], laidTests := true, laidLooks := .later }
def FnScalarMulIsCardSaid : Prop := Claim7.holds Tryd.pinned (.plain (OpenSpec.ofChange fnScalarMulIsSpec)) fnScalarMulIsCard

/-- THE TIED CARD OF 'laws.FnScalarFromIs'. -/
def fnScalarFromIsCard : Claim7 := { stood := { row := fnScalarFromIsRow, standIns := [], harness := (true, "d1f9b533cfeb7918d2ae4ebf43d1bafc014d73cc35803fa0fe6837005b1a6f0c"), looks := false }, kinds := [], alts := [], laidByText := true, laidKinds := [.widerDeep, .widerDeep], laidTests := true, laidLooks := .later }
def FnScalarFromIsCardSaid : Prop := Claim7.holds Tryd.pinned (.plain (OpenSpec.ofChange fnScalarFromIsSpec)) fnScalarFromIsCard

/-- THE SECOND FORM's CARD OF 'laws.FnScalarRedIs'. -/
def fnScalarRedIsUptoCard : Claim7 := { stood := { row := fnScalarRedIsUptoRow, standIns := [], harness := (true, "d1f9b533cfeb7918d2ae4ebf43d1bafc014d73cc35803fa0fe6837005b1a6f0c"), looks := false }, kinds := [], alts := [], laidByText := true, laidKinds := [.widerDeep], laidTests := true, laidLooks := .later }
def FnScalarRedIsUptoCardSaid : Prop := Claim7.holds Tryd.pinned (.plain (OpenSpec.upto fnScalarRedIsSpec)) fnScalarRedIsUptoCard

/-- THE SECOND FORM's CARD OF 'laws.FnScalarNegIs'. -/
def fnScalarNegIsUptoCard : Claim7 := { stood := { row := fnScalarNegIsUptoRow, standIns := [], harness := (true, "d1f9b533cfeb7918d2ae4ebf43d1bafc014d73cc35803fa0fe6837005b1a6f0c"), looks := false }, kinds := [], alts := [], laidByText := true, laidKinds := [.widerDeep, .widerDeep], laidTests := true, laidLooks := .later }
def FnScalarNegIsUptoCardSaid : Prop := Claim7.holds Tryd.pinned (.plain (OpenSpec.upto fnScalarNegIsSpec)) fnScalarNegIsUptoCard

/-- THE SECOND FORM's CARD OF 'laws.FnScalarIs'. -/
def fnScalarIsUptoCard : Claim7 := { stood := { row := fnScalarIsUptoRow, standIns := [], harness := (true, "d1f9b533cfeb7918d2ae4ebf43d1bafc014d73cc35803fa0fe6837005b1a6f0c"), looks := false }, kinds := [], alts := [], laidByText := true, laidKinds := [.widerDeep, .widerDeep], laidTests := true, laidLooks := .later }
def FnScalarIsUptoCardSaid : Prop := Claim7.holds Tryd.pinned (.plain (OpenSpec.upto fnScalarIsSpec)) fnScalarIsUptoCard

/-- THE SECOND FORM's CARD OF 'laws.FnScalarMulIs'. -/
def fnScalarMulIsUptoCard : Claim7 := { stood := { row := fnScalarMulIsUptoRow, standIns := [], harness := (true, "d1f9b533cfeb7918d2ae4ebf43d1bafc014d73cc35803fa0fe6837005b1a6f0c"), looks := false }, kinds := [], alts := [], laidByText := true, laidKinds := [.widerDeep, .widerDeep], laidTests := true, laidLooks := .later }
def FnScalarMulIsUptoCardSaid : Prop := Claim7.holds Tryd.pinned (.plain (OpenSpec.upto fnScalarMulIsSpec)) fnScalarMulIsUptoCard

/-- THE SECOND FORM's CARD OF 'laws.FnScalarFromIs'. -/
def fnScalarFromIsUptoCard : Claim7 := { stood := { row := fnScalarFromIsUptoRow, standIns := [], harness := (true, "d1f9b533cfeb7918d2ae4ebf43d1bafc014d73cc35803fa0fe6837005b1a6f0c"), looks := false }, kinds := [], alts := [], laidByText := true, laidKinds := [.widerDeep, .widerDeep], laidTests := true, laidLooks := .later }
def FnScalarFromIsUptoCardSaid : Prop := Claim7.holds Tryd.pinned (.plain (OpenSpec.upto fnScalarFromIsSpec)) fnScalarFromIsUptoCard
end Rows
end Go.Proofs.YtflbkfjemmmipaaDoor
