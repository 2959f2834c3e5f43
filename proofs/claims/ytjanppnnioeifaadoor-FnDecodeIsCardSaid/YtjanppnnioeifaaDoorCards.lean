/-
  DERIVED. GIVEN WITH THE SEED: THE CARDS: each row of YtjanppnnioeifaaDoorRows.lean that lists a variable, with what it lists TIED to the program's text (the seventh form; the later family's looks); each row that meets fmt, with fmt's text TOLD by the authors' own Lean function (tested against real Go, not proved from fmt's source: count such statements apart). THE CARD IS WHAT COUNTS. Prove the row's statement (the work); the ties are given (YtjanppnnioeifaaDoorTie.lean); close each card by the builder's one call (the guide's Derived/Test/ToyasCard.lean, 'card_holds'). Laid BY PROGRAM, IN A SANDBOX (cutbox-door.mjs). By AI agents, Wed Nov 11 2026. No macro, syntax, notation, axiom, sorry.
-/
import Derived.Test.YtjanppnnioeifaaDoorRows
import GoSem.ClaimSeven
namespace Go.Proofs.YtjanppnnioeifaaDoor
namespace Rows

/-- THE TIED CARD OF 'laws.FnSameIs'. -/
def fnSameIsCard : Claim7 := { stood := { row := fnSameIsRow, standIns := [], harness := (true, "f2bb5c1f2e593315e2318d579bbeb0b22a4e389c178871533326b9d34c87644d"), looks := false }, kinds := [], alts := [], laidByText := true, laidKinds := [.data, .data], laidTests := true, laidLooks := .later }
def FnSameIsCardSaid : Prop := Claim7.holds Tryd.pinned (.plain (OpenSpec.ofChange fnSameIsSpec)) fnSameIsCard

/-- THE TIED CARD OF 'laws.FnDecodeIs'. -/
def fnDecodeIsCard : Claim7 := { stood := { row := fnDecodeIsRow, standIns := [], harness := (true, "f2bb5c1f2e593315e2318d579bbeb0b22a4e389c178871533326b9d34c87644d"), looks := false }, kinds := [], alts := [], laidByText := true, laidKinds := [.data, .data], laidTests := true, laidLooks := .later }
def FnDecodeIsCardSaid : Prop := Claim7.holds Tryd.pinned (.plain (OpenSpec.ofChange fnDecodeIsSpec)) fnDecodeIsCard

/-- THE TIED CARD OF 'laws.FnOnCurveIs'. -/
def fnOnCurveIsCard : Claim7 := { stood := { row := fnOnCurveIsRow, standIns := [], harness := (true, "f2bb5c1f2e593315e2318d579bbeb0b22a4e389c178871533326b9d34c87644d"), looks := false }, kinds := [], alts := [], laidByText := true, laidKinds := [.data, .data], laidTests := true, laidLooks := .later }
def FnOnCurveIsCardSaid : Prop := Claim7.holds Tryd.pinned (.plain (OpenSpec.ofChange fnOnCurveIsSpec)) fnOnCurveIsCard

/-- THE TIED CARD OF 'laws.FnBase'. -/
def fnBaseCard : Claim7 := { stood := { row := fnBaseRow, standIns := [], harness := (true, "f2bb5c1f2e593315e2318d579bbeb0b22a4e389c178871533326b9d34c87644d"), looks := false }, kinds := [], alts := [], laidByText := true, laidKinds := [.data, .data, .data, .data], laidTests := true, laidLooks := .later }
def FnBaseCardSaid : Prop := Claim7.holds Tryd.pinned (.plain (OpenSpec.ofChange fnBaseSpec)) fnBaseCard

/-- THE TIED CARD OF 'laws.FnEncodeIs'. -/
def fnEncodeIsCard : Claim7 := { stood := { row := fnEncodeIsRow, standIns := [], harness := (true, "f2bb5c1f2e593315e2318d579bbeb0b22a4e389c178871533326b9d34c87644d"), looks := false }, kinds := [], alts := [], laidByText := true, laidKinds := [.data, .data], laidTests := true, laidLooks := .later }
def FnEncodeIsCardSaid : Prop := Claim7.holds Tryd.pinned (.plain (OpenSpec.ofChange fnEncodeIsSpec)) fnEncodeIsCard

/-- THE TIED CARD OF 'laws.FnTwiceIs'. -/
def fnTwiceIsCard : Claim7 := { stood := { row := fnTwiceIsRow, standIns := [], harness := (true, "f2bb5c1f2e593315e2318d579bbeb0b22a4e389c178871533326b9d34c87644d"), looks := false }, kinds := [], alts := [], laidByText := true, laidKinds := [.data, .data], laidTests := true, laidLooks := .later }
def FnTwiceIsCardSaid : Prop := Claim7.holds Tryd.pinned (.plain (OpenSpec.ofChange fnTwiceIsSpec)) fnTwiceIsCard

/-- THE TIED CARD OF 'laws.FnPlusIs'. -/
def fnPlusIsCard : Claim7 := { stood := { row := fnPlusIsRow, standIns := [], harness := (true, "f2bb5c1f2e593315e2318d579bbeb0b22a4e389c178871533326b9d34c87644d"), looks := false }, kinds := [], alts := [], laidByText := true, laidKinds := [.data, .data], laidTests := true, laidLooks := .later }
def FnPlusIsCardSaid : Prop := Claim7.holds Tryd.pinned (.plain (OpenSpec.ofChange fnPlusIsSpec)) fnPlusIsCard

/-- THE TIED CARD OF 'laws.FnGroup'. -/
def fnGroupCard : Claim7 := { stood := { row := fnGroupRow, standIns := [], harness := (true, "f2bb5c1f2e593315e2318d579bbeb0b22a4e389c178871533326b9d34c87644d"), looks := false }, kinds := [], alts := [], laidByText := true, laidKinds := [.data, .data], laidTests := true, laidLooks := .later }
def FnGroupCardSaid : Prop := Claim7.holds Tryd.pinned (.plain (OpenSpec.ofChange fnGroupSpec)) fnGroupCard

/-- THE TIED CARD OF 'laws.FnMinusIs'. -/
def fnMinusIsCard : Claim7 := { stood := { row := fnMinusIsRow, standIns := [], harness := (true, "f2bb5c1f2e593315e2318d579bbeb0b22a4e389c178871533326b9d34c87644d"), looks := false }, kinds := [], alts := [], laidByText := true, laidKinds := [.data, .data], laidTests := true, laidLooks := .later }
def FnMinusIsCardSaid : Prop := Claim7.holds Tryd.pinned (.plain (OpenSpec.ofChange fnMinusIsSpec)) fnMinusIsCard

/-- THE TIED CARD OF 'laws.FnDecodeEncode'. -/
def fnDecodeEncodeCard : Claim7 := { stood := { row := fnDecodeEncodeRow, standIns := [], harness := (true, "f2bb5c1f2e593315e2318d579bbeb0b22a4e389c178871533326b9d34c87644d"), looks := false }, kinds := [], alts := [], laidByText := true, laidKinds := [.data, .data], laidTests := true, laidLooks := .later }
def FnDecodeEncodeCardSaid : Prop := Claim7.holds Tryd.pinned (.plain (OpenSpec.ofChange fnDecodeEncodeSpec)) fnDecodeEncodeCard

/-- THE SECOND FORM's CARD OF 'laws.FnSameIs'. -/
def fnSameIsUptoCard : Claim7 := { stood := { row := fnSameIsUptoRow, standIns := [], harness := (true, "f2bb5c1f2e593315e2318d579bbeb0b22a4e389c178871533326b9d34c87644d"), looks := false }, kinds := [], alts := [], laidByText := true, laidKinds := [.data, .data], laidTests := true, laidLooks := .later }
def FnSameIsUptoCardSaid : Prop := Claim7.holds Tryd.pinned (.plain (OpenSpec.upto fnSameIsSpec)) fnSameIsUptoCard

/-- THE SECOND FORM's CARD OF 'laws.FnDecodeIs'. -/
def fnDecodeIsUptoCard : Claim7 := { stood := { row := fnDecodeIsUptoRow, standIns := [], harness := (true, "f2bb5c1f2e593315e2318d579bbeb0b22a4e389c178871533326b9d34c87644d"), looks := false }, kinds := [], alts := [], laidByText := true, laidKinds := [.data, .data], laidTests := true, laidLooks := .later }
def FnDecodeIsUptoCardSaid : Prop := Claim7.holds Tryd.pinned (.plain (OpenSpec.upto fnDecodeIsSpec)) fnDecodeIsUptoCard

/-- THE SECOND FORM's CARD OF 'laws.FnOnCurveIs'. -/
def fnOnCurveIsUptoCard : Claim7 := { stood := { row := fnOnCurveIsUptoRow, standIns := [], harness := (true, "f2bb5c1f2e593315e2318d579bbeb0b22a4e389c178871533326b9d34c87644d"), looks := false }, kinds := [], alts := [], laidByText := true, laidKinds := [.data, .data], laidTests := true, laidLooks := .later }
def FnOnCurveIsUptoCardSaid : Prop := Claim7.holds Tryd.pinned (.plain (OpenSpec.upto fnOnCurveIsSpec)) fnOnCurveIsUptoCard

/-- THE SECOND FORM's CARD OF 'laws.FnBase'. -/
def fnBaseUptoCard : Claim7 := { stood := { row := fnBaseUptoRow, standIns := [], harness := (true, "f2bb5c1f2e593315e2318d579bbeb0b22a4e389c178871533326b9d34c87644d"), looks := false }, kinds := [], alts := [], laidByText := true, laidKinds := [.data, .data, .data, .data], laidTests := true, laidLooks := .later }
def FnBaseUptoCardSaid : Prop := Claim7.holds Tryd.pinned (.plain (OpenSpec.upto fnBaseSpec)) fnBaseUptoCard

/-- THE SECOND FORM's CARD OF 'laws.FnEncodeIs'. -/
def fnEncodeIsUptoCard : Claim7 := { stood := { row := fnEncodeIsUptoRow, standIns := [], harness := (true, "f2bb5c1f2e593315e2318d579bbeb0b22a4e389c178871533326b9d34c87644d"), looks := false }, kinds := [], alts := [], laidByText := true, laidKinds := [.data, .data], laidTests := true, laidLooks := .later }
def FnEncodeIsUptoCardSaid : Prop := Claim7.holds Tryd.pinned (.plain (OpenSpec.upto fnEncodeIsSpec)) fnEncodeIsUptoCard

/-- THE SECOND FORM's CARD OF 'laws.FnTwiceIs'. -/
def fnTwiceIsUptoCard : Claim7 := { stood := { row := fnTwiceIsUptoRow, standIns := [], harness := (true, "f2bb5c1f2e593315e2318d579bbeb0b22a4e389c178871533326b9d34c87644d"), looks := false }, kinds := [], alts := [], laidByText := true, laidKinds := [.data, .data], laidTests := true, laidLooks := .later }
def FnTwiceIsUptoCardSaid : Prop := Claim7.holds Tryd.pinned (.plain (OpenSpec.upto fnTwiceIsSpec)) fnTwiceIsUptoCard

/-- THE SECOND FORM's CARD OF 'laws.FnPlusIs'. -/
def fnPlusIsUptoCard : Claim7 := { stood := { row := fnPlusIsUptoRow, standIns := [], harness := (true, "f2bb5c1f2e593315e2318d579bbeb0b22a4e389c178871533326b9d34c87644d"), looks := false }, kinds := [], alts := [], laidByText := true, laidKinds := [.data, .data], laidTests := true, laidLooks := .later }
def FnPlusIsUptoCardSaid : Prop := Claim7.holds Tryd.pinned (.plain (OpenSpec.upto fnPlusIsSpec)) fnPlusIsUptoCard

/-- THE SECOND FORM's CARD OF 'laws.FnGroup'. -/
def fnGroupUptoCard : Claim7 := { stood := { row := fnGroupUptoRow, standIns := [], harness := (true, "f2bb5c1f2e593315e2318d579bbeb0b22a4e389c178871533326b9d34c87644d"), looks := false }, kinds := [], alts := [], laidByText := true, laidKinds := [.data, .data], laidTests := true, laidLooks := .later }
def FnGroupUptoCardSaid : Prop := Claim7.holds Tryd.pinned (.plain (OpenSpec.upto fnGroupSpec)) fnGroupUptoCard

/-- THE SECOND FORM's CARD OF 'laws.FnMinusIs'. -/
def fnMinusIsUptoCard : Claim7 := { stood := { row := fnMinusIsUptoRow, standIns := [], harness := (true, "f2bb5c1f2e593315e2318d579bbeb0b22a4e389c178871533326b9d34c87644d"), looks := false }, kinds := [], alts := [], laidByText := true, laidKinds := [.data, .data], laidTests := true, laidLooks := .later }
def FnMinusIsUptoCardSaid : Prop := Claim7.holds Tryd.pinned (.plain (OpenSpec.upto fnMinusIsSpec)) fnMinusIsUptoCard

/-- THE SECOND FORM's CARD OF 'laws.FnDecodeEncode'. -/
def fnDecodeEncodeUptoCard : Claim7 := { stood := { row := fnDecodeEncodeUptoRow, standIns := [], harness := (true, "f2bb5c1f2e593315e2318d579bbeb0b22a4e389c178871533326b9d34c87644d"), looks := false }, kinds := [], alts := [], laidByText := true, laidKinds := [.data, .data], laidTests := true, laidLooks := .later }
def FnDecodeEncodeUptoCardSaid : Prop := Claim7.holds Tryd.pinned (.plain (OpenSpec.upto fnDecodeEncodeSpec)) fnDecodeEncodeUptoCard
end Rows
end Go.Proofs.YtjanppnnioeifaaDoor
