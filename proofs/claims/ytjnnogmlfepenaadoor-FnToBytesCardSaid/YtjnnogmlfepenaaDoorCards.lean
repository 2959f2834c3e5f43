/-
  DERIVED. GIVEN WITH THE SEED: THE CARDS: each row of YtjnnogmlfepenaaDoorRows.lean that lists a variable, with what it lists TIED to the program's text (the seventh form; the later family's looks); each row that meets fmt, with fmt's text TOLD by the authors' own Lean function (tested against real Go, not proved from fmt's source: count such statements apart). THE CARD IS WHAT COUNTS. Prove the row's statement (the work); the ties are given (YtjnnogmlfepenaaDoorTie.lean); close each card by the builder's one call (the guide's Derived/Test/ToyasCard.lean, 'card_holds'). Laid BY PROGRAM, IN A SANDBOX (cutbox-door.mjs). By AI agents, Wed Nov 11 2026. No macro, syntax, notation, axiom, sorry.
-/
import Derived.Test.YtjnnogmlfepenaaDoorRows
import GoSem.ClaimSeven
namespace Go.Proofs.YtjnnogmlfepenaaDoor
namespace Rows

/-- THE TIED CARD OF 'laws.FnModpIs'. -/
def fnModpIsCard : Claim7 := { stood := { row := fnModpIsRow, standIns := [], harness := (true, "ad05409835f152aa9fdb3011a4d433f29844d2415b430c9cfaaa040230ae11e2"), looks := false }, kinds := [], alts := [], laidByText := true, laidKinds := [.data], laidTests := true, laidLooks := .later }
def FnModpIsCardSaid : Prop := Claim7.holds Tryd.pinned (.plain (OpenSpec.ofChange fnModpIsSpec)) fnModpIsCard

/-- THE TIED CARD OF 'laws.FnSubIs'. -/
def fnSubIsCard : Claim7 := { stood := { row := fnSubIsRow, standIns := [], harness := (true, "ad05409835f152aa9fdb3011a4d433f29844d2415b430c9cfaaa040230ae11e2"), looks := false }, kinds := [], alts := [], laidByText := true, laidKinds := [.data], laidTests := true, laidLooks := .later }
def FnSubIsCardSaid : Prop := Claim7.holds Tryd.pinned (.plain (OpenSpec.ofChange fnSubIsSpec)) fnSubIsCard

/-- THE TIED CARD OF 'laws.FnNegIs'. -/
def fnNegIsCard : Claim7 := { stood := { row := fnNegIsRow, standIns := [], harness := (true, "ad05409835f152aa9fdb3011a4d433f29844d2415b430c9cfaaa040230ae11e2"), looks := false }, kinds := [], alts := [], laidByText := true, laidKinds := [.data], laidTests := true, laidLooks := .later }
def FnNegIsCardSaid : Prop := Claim7.holds Tryd.pinned (.plain (OpenSpec.ofChange fnNegIsSpec)) fnNegIsCard

/-- THE TIED CARD OF 'laws.FnTells'. -/
def fnTellsCard : Claim7 := { stood := { row := fnTellsRow, standIns := [], harness := (true, "ad05409835f152aa9fdb3011a4d433f29844d2415b430c9cfaaa040230ae11e2"), looks := false }, kinds := [], alts := [], laidByText := true, laidKinds := [.data], laidTests := true, laidLooks := .later }
def FnTellsCardSaid : Prop := Claim7.holds Tryd.pinned (.plain (OpenSpec.ofChange fnTellsSpec)) fnTellsCard

/-- THE TIED CARD OF 'laws.FnToBytes'. -/
def fnToBytesCard : Claim7 := { stood := { row := fnToBytesRow, standIns := [], harness := (true, "ad05409835f152aa9fdb3011a4d433f29844d2415b430c9cfaaa040230ae11e2"), looks := false }, kinds := [], alts := [], laidByText := true, laidKinds := [.data], laidTests := true, laidLooks := .later }
def FnToBytesCardSaid : Prop := Claim7.holds Tryd.pinned (.plain (OpenSpec.ofChange fnToBytesSpec)) fnToBytesCard

/-- THE TIED CARD OF 'laws.FnAddIs'. -/
def fnAddIsCard : Claim7 := { stood := { row := fnAddIsRow, standIns := [], harness := (true, "ad05409835f152aa9fdb3011a4d433f29844d2415b430c9cfaaa040230ae11e2"), looks := false }, kinds := [], alts := [], laidByText := true, laidKinds := [.data], laidTests := true, laidLooks := .later }
def FnAddIsCardSaid : Prop := Claim7.holds Tryd.pinned (.plain (OpenSpec.ofChange fnAddIsSpec)) fnAddIsCard

/-- THE TIED CARD OF 'laws.FnAddSubIs'. -/
def fnAddSubIsCard : Claim7 := { stood := { row := fnAddSubIsRow, standIns := [], harness := (true, "ad05409835f152aa9fdb3011a4d433f29844d2415b430c9cfaaa040230ae11e2"), looks := false }, kinds := [], alts := [], laidByText := true, laidKinds := [.data], laidTests := true, laidLooks := .later }
def FnAddSubIsCardSaid : Prop := Claim7.holds Tryd.pinned (.plain (OpenSpec.ofChange fnAddSubIsSpec)) fnAddSubIsCard

/-- THE TIED CARD OF 'laws.FnMulIs'. -/
def fnMulIsCard : Claim7 := { stood := { row := fnMulIsRow, standIns := [], harness := (true, "ad05409835f152aa9fdb3011a4d433f29844d2415b430c9cfaaa040230ae11e2"), looks := false }, kinds := [], alts := [], laidByText := true, laidKinds := [.data], laidTests := true, laidLooks := .later }
def FnMulIsCardSaid : Prop := Claim7.holds Tryd.pinned (.plain (OpenSpec.ofChange fnMulIsSpec)) fnMulIsCard

/-- THE TIED CARD OF 'laws.FnSqrIs'. -/
def fnSqrIsCard : Claim7 := { stood := { row := fnSqrIsRow, standIns := [], harness := (true, "ad05409835f152aa9fdb3011a4d433f29844d2415b430c9cfaaa040230ae11e2"), looks := false }, kinds := [], alts := [], laidByText := true, laidKinds := [.data], laidTests := true, laidLooks := .later }
def FnSqrIsCardSaid : Prop := Claim7.holds Tryd.pinned (.plain (OpenSpec.ofChange fnSqrIsSpec)) fnSqrIsCard

/-- THE TIED CARD OF 'laws.FnRing'. -/
def fnRingCard : Claim7 := { stood := { row := fnRingRow, standIns := [], harness := (true, "ad05409835f152aa9fdb3011a4d433f29844d2415b430c9cfaaa040230ae11e2"), looks := false }, kinds := [], alts := [], laidByText := true, laidKinds := [.data], laidTests := true, laidLooks := .later }
def FnRingCardSaid : Prop := Claim7.holds Tryd.pinned (.plain (OpenSpec.ofChange fnRingSpec)) fnRingCard

/-- THE TIED CARD OF 'laws.FnInv'. -/
def fnInvCard : Claim7 := { stood := { row := fnInvRow, standIns := [], harness := (true, "ad05409835f152aa9fdb3011a4d433f29844d2415b430c9cfaaa040230ae11e2"), looks := false }, kinds := [], alts := [], laidByText := true, laidKinds := [.data], laidTests := true, laidLooks := .later }
def FnInvCardSaid : Prop := Claim7.holds Tryd.pinned (.plain (OpenSpec.ofChange fnInvSpec)) fnInvCard

/-- THE TIED CARD OF 'laws.FnRoads'. -/
def fnRoadsCard : Claim7 := { stood := { row := fnRoadsRow, standIns := [], harness := (true, "ad05409835f152aa9fdb3011a4d433f29844d2415b430c9cfaaa040230ae11e2"), looks := false }, kinds := [], alts := [], laidByText := true, laidKinds := [.data], laidTests := true, laidLooks := .later }
def FnRoadsCardSaid : Prop := Claim7.holds Tryd.pinned (.plain (OpenSpec.ofChange fnRoadsSpec)) fnRoadsCard

/-- THE SECOND FORM's CARD OF 'laws.FnModpIs'. -/
def fnModpIsUptoCard : Claim7 := { stood := { row := fnModpIsUptoRow, standIns := [], harness := (true, "ad05409835f152aa9fdb3011a4d433f29844d2415b430c9cfaaa040230ae11e2"), looks := false }, kinds := [], alts := [], laidByText := true, laidKinds := [.data], laidTests := true, laidLooks := .later }
def FnModpIsUptoCardSaid : Prop := Claim7.holds Tryd.pinned (.plain (OpenSpec.upto fnModpIsSpec)) fnModpIsUptoCard

/-- THE SECOND FORM's CARD OF 'laws.FnSubIs'. -/
def fnSubIsUptoCard : Claim7 := { stood := { row := fnSubIsUptoRow, standIns := [], harness := (true, "ad05409835f152aa9fdb3011a4d433f29844d2415b430c9cfaaa040230ae11e2"), looks := false }, kinds := [], alts := [], laidByText := true, laidKinds := [.data], laidTests := true, laidLooks := .later }
def FnSubIsUptoCardSaid : Prop := Claim7.holds Tryd.pinned (.plain (OpenSpec.upto fnSubIsSpec)) fnSubIsUptoCard

/-- THE SECOND FORM's CARD OF 'laws.FnNegIs'. -/
def fnNegIsUptoCard : Claim7 := { stood := { row := fnNegIsUptoRow, standIns := [], harness := (true, "ad05409835f152aa9fdb3011a4d433f29844d2415b430c9cfaaa040230ae11e2"), looks := false }, kinds := [], alts := [], laidByText := true, laidKinds := [.data], laidTests := true, laidLooks := .later }
def FnNegIsUptoCardSaid : Prop := Claim7.holds Tryd.pinned (.plain (OpenSpec.upto fnNegIsSpec)) fnNegIsUptoCard

/-- THE SECOND FORM's CARD OF 'laws.FnTells'. -/
def fnTellsUptoCard : Claim7 := { stood := { row := fnTellsUptoRow, standIns := [], harness := (true, "ad05409835f152aa9fdb3011a4d433f29844d2415b430c9cfaaa040230ae11e2"), looks := false }, kinds := [], alts := [], laidByText := true, laidKinds := [.data], laidTests := true, laidLooks := .later }
def FnTellsUptoCardSaid : Prop := Claim7.holds Tryd.pinned (.plain (OpenSpec.upto fnTellsSpec)) fnTellsUptoCard

/-- THE SECOND FORM's CARD OF 'laws.FnToBytes'. -/
def fnToBytesUptoCard : Claim7 := { stood := { row := fnToBytesUptoRow, standIns := [], harness := (true, "ad05409835f152aa9fdb3011a4d433f29844d2415b430c9cfaaa040230ae11e2"), looks := false }, kinds := [], alts := [], laidByText := true, laidKinds := [.data], laidTests := true, laidLooks := .later }
def FnToBytesUptoCardSaid : Prop := Claim7.holds Tryd.pinned (.plain (OpenSpec.upto fnToBytesSpec)) fnToBytesUptoCard

/-- THE SECOND FORM's CARD OF 'laws.FnAddIs'. -/
def fnAddIsUptoCard : Claim7 := { stood := { row := fnAddIsUptoRow, standIns := [], harness := (true, "ad05409835f152aa9fdb3011a4d433f29844d2415b430c9cfaaa040230ae11e2"), looks := false }, kinds := [], alts := [], laidByText := true, laidKinds := [.data], laidTests := true, laidLooks := .later }
def FnAddIsUptoCardSaid : Prop := Claim7.holds Tryd.pinned (.plain (OpenSpec.upto fnAddIsSpec)) fnAddIsUptoCard

/-- THE SECOND FORM's CARD OF 'laws.FnAddSubIs'. -/
def fnAddSubIsUptoCard : Claim7 := { stood := { row := fnAddSubIsUptoRow, standIns := [], harness := (true, "ad05409835f152aa9fdb3011a4d433f29844d2415b430c9cfaaa040230ae11e2"), looks := false }, kinds := [], alts := [], laidByText := true, laidKinds := [.data], laidTests := true, laidLooks := .later }
def FnAddSubIsUptoCardSaid : Prop := Claim7.holds Tryd.pinned (.plain (OpenSpec.upto fnAddSubIsSpec)) fnAddSubIsUptoCard

/-- THE SECOND FORM's CARD OF 'laws.FnMulIs'. -/
def fnMulIsUptoCard : Claim7 := { stood := { row := fnMulIsUptoRow, standIns := [], harness := (true, "ad05409835f152aa9fdb3011a4d433f29844d2415b430c9cfaaa040230ae11e2"), looks := false }, kinds := [], alts := [], laidByText := true, laidKinds := [.data], laidTests := true, laidLooks := .later }
def FnMulIsUptoCardSaid : Prop := Claim7.holds Tryd.pinned (.plain (OpenSpec.upto fnMulIsSpec)) fnMulIsUptoCard

/-- THE SECOND FORM's CARD OF 'laws.FnSqrIs'. -/
def fnSqrIsUptoCard : Claim7 := { stood := { row := fnSqrIsUptoRow, standIns := [], harness := (true, "ad05409835f152aa9fdb3011a4d433f29844d2415b430c9cfaaa040230ae11e2"), looks := false }, kinds := [], alts := [], laidByText := true, laidKinds := [.data], laidTests := true, laidLooks := .later }
def FnSqrIsUptoCardSaid : Prop := Claim7.holds Tryd.pinned (.plain (OpenSpec.upto fnSqrIsSpec)) fnSqrIsUptoCard

/-- THE SECOND FORM's CARD OF 'laws.FnRing'. -/
def fnRingUptoCard : Claim7 := { stood := { row := fnRingUptoRow, standIns := [], harness := (true, "ad05409835f152aa9fdb3011a4d433f29844d2415b430c9cfaaa040230ae11e2"), looks := false }, kinds := [], alts := [], laidByText := true, laidKinds := [.data], laidTests := true, laidLooks := .later }
def FnRingUptoCardSaid : Prop := Claim7.holds Tryd.pinned (.plain (OpenSpec.upto fnRingSpec)) fnRingUptoCard

/-- THE SECOND FORM's CARD OF 'laws.FnInv'. -/
def fnInvUptoCard : Claim7 := { stood := { row := fnInvUptoRow, standIns := [], harness := (true, "ad05409835f152aa9fdb3011a4d433f29844d2415b430c9cfaaa040230ae11e2"), looks := false }, kinds := [], alts := [], laidByText := true, laidKinds := [.data], laidTests := true, laidLooks := .later }
def FnInvUptoCardSaid : Prop := Claim7.holds Tryd.pinned (.plain (OpenSpec.upto fnInvSpec)) fnInvUptoCard

/-- THE SECOND FORM's CARD OF 'laws.FnRoads'. -/
def fnRoadsUptoCard : Claim7 := { stood := { row := fnRoadsUptoRow, standIns := [], harness := (true, "ad05409835f152aa9fdb3011a4d433f29844d2415b430c9cfaaa040230ae11e2"), looks := false }, kinds := [], alts := [], laidByText := true, laidKinds := [.data], laidTests := true, laidLooks := .later }
def FnRoadsUptoCardSaid : Prop := Claim7.holds Tryd.pinned (.plain (OpenSpec.upto fnRoadsSpec)) fnRoadsUptoCard
end Rows
end Go.Proofs.YtjnnogmlfepenaaDoor
