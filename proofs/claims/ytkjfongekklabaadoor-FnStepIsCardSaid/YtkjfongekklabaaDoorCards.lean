/-
  DERIVED. GIVEN WITH THE SEED: THE CARDS: each row of YtkjfongekklabaaDoorRows.lean that lists a variable, with what it lists TIED to the program's text (the seventh form; the later family's looks); each row that meets fmt, with fmt's text TOLD by the authors' own Lean function (tested against real Go, not proved from fmt's source: count such statements apart). THE CARD IS WHAT COUNTS. Prove the row's statement (the work); the ties are given (YtkjfongekklabaaDoorTie.lean); close each card by the builder's one call (the guide's Derived/Test/ToyasCard.lean, 'card_holds'). Laid BY PROGRAM, IN A SANDBOX (cutbox-door.mjs). By AI agents, Wed Nov 11 2026. No macro, syntax, notation, axiom, sorry.
-/
import Derived.Test.YtkjfongekklabaaDoorRows
import GoSem.ClaimSeven
namespace Go.Proofs.YtkjfongekklabaaDoor
namespace Rows

/-- THE TIED CARD OF 'laws.FnInvSqrt'. -/
def fnInvSqrtCard : Claim7 := { stood := { row := fnInvSqrtRow, standIns := [], harness := (true, "2c0a80f29bd772909ff7c5fd1670df47a192e62d215b13b4f8e3735521341def"), looks := false }, kinds := [], alts := [], laidByText := true, laidKinds := [.data], laidTests := true, laidLooks := .later }
def FnInvSqrtCardSaid : Prop := Claim7.holds Tryd.pinned (.plain (OpenSpec.ofChange fnInvSqrtSpec)) fnInvSqrtCard

/-- THE TIED CARD OF 'laws.FnValidIs'. -/
def fnValidIsCard : Claim7 := { stood := { row := fnValidIsRow, standIns := [], harness := (true, "2c0a80f29bd772909ff7c5fd1670df47a192e62d215b13b4f8e3735521341def"), looks := false }, kinds := [], alts := [], laidByText := true, laidKinds := [.data, .data], laidTests := true, laidLooks := .later }
def FnValidIsCardSaid : Prop := Claim7.holds Tryd.pinned (.plain (OpenSpec.ofChange fnValidIsSpec)) fnValidIsCard

/-- THE TIED CARD OF 'laws.FnMulA24Is'. -/
def fnMulA24IsCard : Claim7 := { stood := { row := fnMulA24IsRow, standIns := [], harness := (true, "2c0a80f29bd772909ff7c5fd1670df47a192e62d215b13b4f8e3735521341def"), looks := false }, kinds := [], alts := [], laidByText := true, laidKinds := [.data], laidTests := true, laidLooks := .later }
def FnMulA24IsCardSaid : Prop := Claim7.holds Tryd.pinned (.plain (OpenSpec.ofChange fnMulA24IsSpec)) fnMulA24IsCard

/-- THE TIED CARD OF 'laws.FnDoubleIs'. -/
def fnDoubleIsCard : Claim7 := { stood := { row := fnDoubleIsRow, standIns := [], harness := (true, "2c0a80f29bd772909ff7c5fd1670df47a192e62d215b13b4f8e3735521341def"), looks := false }, kinds := [], alts := [], laidByText := true, laidKinds := [.data], laidTests := true, laidLooks := .later }
def FnDoubleIsCardSaid : Prop := Claim7.holds Tryd.pinned (.plain (OpenSpec.ofChange fnDoubleIsSpec)) fnDoubleIsCard

/-- THE TIED CARD OF 'laws.FnStepIs'. -/
def fnStepIsCard : Claim7 := { stood := { row := fnStepIsRow, standIns := [], harness := (true, "2c0a80f29bd772909ff7c5fd1670df47a192e62d215b13b4f8e3735521341def"), looks := false }, kinds := [], alts := [], laidByText := true, laidKinds := [.data], laidTests := true, laidLooks := .later }
def FnStepIsCardSaid : Prop := Claim7.holds Tryd.pinned (.plain (OpenSpec.ofChange fnStepIsSpec)) fnStepIsCard

/-- THE TIED CARD OF 'laws.FnSharedClamped'. -/
def fnSharedClampedCard : Claim7 := { stood := { row := fnSharedClampedRow, standIns := [], harness := (true, "2c0a80f29bd772909ff7c5fd1670df47a192e62d215b13b4f8e3735521341def"), looks := false }, kinds := [], alts := [], laidByText := true, laidKinds := [.data, .data], laidTests := true, laidLooks := .later }
def FnSharedClampedCardSaid : Prop := Claim7.holds Tryd.pinned (.plain (OpenSpec.ofChange fnSharedClampedSpec)) fnSharedClampedCard

/-- THE TIED CARD OF 'laws.FnSharedIs'. -/
def fnSharedIsCard : Claim7 := { stood := { row := fnSharedIsRow, standIns := [], harness := (true, "2c0a80f29bd772909ff7c5fd1670df47a192e62d215b13b4f8e3735521341def"), looks := false }, kinds := [], alts := [], laidByText := true, laidKinds := [.data, .data], laidTests := true, laidLooks := .later }
def FnSharedIsCardSaid : Prop := Claim7.holds Tryd.pinned (.plain (OpenSpec.ofChange fnSharedIsSpec)) fnSharedIsCard

/-- THE SECOND FORM's CARD OF 'laws.FnInvSqrt'. -/
def fnInvSqrtUptoCard : Claim7 := { stood := { row := fnInvSqrtUptoRow, standIns := [], harness := (true, "2c0a80f29bd772909ff7c5fd1670df47a192e62d215b13b4f8e3735521341def"), looks := false }, kinds := [], alts := [], laidByText := true, laidKinds := [.data], laidTests := true, laidLooks := .later }
def FnInvSqrtUptoCardSaid : Prop := Claim7.holds Tryd.pinned (.plain (OpenSpec.upto fnInvSqrtSpec)) fnInvSqrtUptoCard

/-- THE SECOND FORM's CARD OF 'laws.FnValidIs'. -/
def fnValidIsUptoCard : Claim7 := { stood := { row := fnValidIsUptoRow, standIns := [], harness := (true, "2c0a80f29bd772909ff7c5fd1670df47a192e62d215b13b4f8e3735521341def"), looks := false }, kinds := [], alts := [], laidByText := true, laidKinds := [.data, .data], laidTests := true, laidLooks := .later }
def FnValidIsUptoCardSaid : Prop := Claim7.holds Tryd.pinned (.plain (OpenSpec.upto fnValidIsSpec)) fnValidIsUptoCard

/-- THE SECOND FORM's CARD OF 'laws.FnMulA24Is'. -/
def fnMulA24IsUptoCard : Claim7 := { stood := { row := fnMulA24IsUptoRow, standIns := [], harness := (true, "2c0a80f29bd772909ff7c5fd1670df47a192e62d215b13b4f8e3735521341def"), looks := false }, kinds := [], alts := [], laidByText := true, laidKinds := [.data], laidTests := true, laidLooks := .later }
def FnMulA24IsUptoCardSaid : Prop := Claim7.holds Tryd.pinned (.plain (OpenSpec.upto fnMulA24IsSpec)) fnMulA24IsUptoCard

/-- THE SECOND FORM's CARD OF 'laws.FnDoubleIs'. -/
def fnDoubleIsUptoCard : Claim7 := { stood := { row := fnDoubleIsUptoRow, standIns := [], harness := (true, "2c0a80f29bd772909ff7c5fd1670df47a192e62d215b13b4f8e3735521341def"), looks := false }, kinds := [], alts := [], laidByText := true, laidKinds := [.data], laidTests := true, laidLooks := .later }
def FnDoubleIsUptoCardSaid : Prop := Claim7.holds Tryd.pinned (.plain (OpenSpec.upto fnDoubleIsSpec)) fnDoubleIsUptoCard

/-- THE SECOND FORM's CARD OF 'laws.FnStepIs'. -/
def fnStepIsUptoCard : Claim7 := { stood := { row := fnStepIsUptoRow, standIns := [], harness := (true, "2c0a80f29bd772909ff7c5fd1670df47a192e62d215b13b4f8e3735521341def"), looks := false }, kinds := [], alts := [], laidByText := true, laidKinds := [.data], laidTests := true, laidLooks := .later }
def FnStepIsUptoCardSaid : Prop := Claim7.holds Tryd.pinned (.plain (OpenSpec.upto fnStepIsSpec)) fnStepIsUptoCard

/-- THE SECOND FORM's CARD OF 'laws.FnSharedClamped'. -/
def fnSharedClampedUptoCard : Claim7 := { stood := { row := fnSharedClampedUptoRow, standIns := [], harness := (true, "2c0a80f29bd772909ff7c5fd1670df47a192e62d215b13b4f8e3735521341def"), looks := false }, kinds := [], alts := [], laidByText := true, laidKinds := [.data, .data], laidTests := true, laidLooks := .later }
def FnSharedClampedUptoCardSaid : Prop := Claim7.holds Tryd.pinned (.plain (OpenSpec.upto fnSharedClampedSpec)) fnSharedClampedUptoCard

/-- THE SECOND FORM's CARD OF 'laws.FnSharedIs'. -/
def fnSharedIsUptoCard : Claim7 := { stood := { row := fnSharedIsUptoRow, standIns := [], harness := (true, "2c0a80f29bd772909ff7c5fd1670df47a192e62d215b13b4f8e3735521341def"), looks := false }, kinds := [], alts := [], laidByText := true, laidKinds := [.data, .data], laidTests := true, laidLooks := .later }
def FnSharedIsUptoCardSaid : Prop := Claim7.holds Tryd.pinned (.plain (OpenSpec.upto fnSharedIsSpec)) fnSharedIsUptoCard
end Rows
end Go.Proofs.YtkjfongekklabaaDoor
