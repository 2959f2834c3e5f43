/-
  NARROWER THAN 'FOR EVERY INPUT', by the rows' own cells (each row's printed sentence says how): FnInvSqrt: laid · FnValidIs: laid · FnMulA24Is: laid · FnDoubleIs: laid · FnStepIs: laid · FnSharedClamped: laid · FnSharedIs: laid.
  DERIVED. THE GIVEN ROWS OF THIS SEAT. 7 by the template 'for every input the law returns true; each argument reads behind the call as it read before'; 0 by the template 'total and deterministic' (their statements: YtkjfongekklabaaDoorTotals.lean).
  GIVEN WITH THE SEED: the statements are not yours to turn. If you find one false, say at which input.
  Laid BY PROGRAM, IN A SANDBOX (cutbox-rows.mjs): the forced cells as the released guide's own fill.sh prints them over the translation 450139cd4b3a37da… (all of the seat's roots in one cut). By AI agents, Wed Nov 11 2026. No macro, syntax, notation, axiom, sorry.
-/
import Derived.Test.YtkjfongekklabaaDoorChecked
import GoSem.Claim
import GoSem.ClaimJoined
import GoSem.ClaimMapViews
import Derived.JoinedTies
import Derived.KernelRfl
namespace Go.Proofs.YtkjfongekklabaaDoor
/- THE CELL 'sum', in the pinned program and in every row, IS THE sha256 OF THE DUMP (.gsa) THAT YtkjfongekklabaaDoorProg.lean LOADS. Nothing in Lean hashes anything: it is a label: what it is worth is what the hold of that sum in a sandbox is worth. -/
noncomputable def Tryd.pinned : Pinned := { name := "ytkjfongekklabaadoor", sum := "450139cd4b3a37da3242923830923708ae89ee143d85b93a62fbd16522a0023f", checked := Tryd.checked }
namespace Rows
def none {H : Type} : Left H := { results := [], args := [] }

/- WHAT THE LISTED PACKAGE-LEVEL VARIABLES READ AS WHEN THE CALL BEGINS. Each datum BY PROGRAM (the guide's laid-datum.mjs) off the statement by which the dump's own 'gosem.cut.vars' lays the variable. In a bare row this is a premise. The card (YtkjfongekklabaaDoorCards.lean) ties it to the program's text. -/
def laid_loop_example_pub_g03032_pub_circl_math_fp448_p {H : Type} : DataW H := .agg [.lit (.int .u8 255), .lit (.int .u8 255), .lit (.int .u8 255), .lit (.int .u8 255), .lit (.int .u8 255), .lit (.int .u8 255), .lit (.int .u8 255), .lit (.int .u8 255), .lit (.int .u8 255), .lit (.int .u8 255), .lit (.int .u8 255), .lit (.int .u8 255), .lit (.int .u8 255), .lit (.int .u8 255), .lit (.int .u8 255), .lit (.int .u8 255), .lit (.int .u8 255), .lit (.int .u8 255), .lit (.int .u8 255), .lit (.int .u8 255), .lit (.int .u8 255), .lit (.int .u8 255), .lit (.int .u8 255), .lit (.int .u8 255), .lit (.int .u8 255), .lit (.int .u8 255), .lit (.int .u8 255), .lit (.int .u8 255), .lit (.int .u8 254), .lit (.int .u8 255), .lit (.int .u8 255), .lit (.int .u8 255), .lit (.int .u8 255), .lit (.int .u8 255), .lit (.int .u8 255), .lit (.int .u8 255), .lit (.int .u8 255), .lit (.int .u8 255), .lit (.int .u8 255), .lit (.int .u8 255), .lit (.int .u8 255), .lit (.int .u8 255), .lit (.int .u8 255), .lit (.int .u8 255), .lit (.int .u8 255), .lit (.int .u8 255), .lit (.int .u8 255), .lit (.int .u8 255), .lit (.int .u8 255), .lit (.int .u8 255), .lit (.int .u8 255), .lit (.int .u8 255), .lit (.int .u8 255), .lit (.int .u8 255), .lit (.int .u8 255), .lit (.int .u8 255)]
def laid_loop_example_pub_g03032_pub_circl_dh_x448_lowOrderPoints {H : Type} : DataW H := .agg [.agg [.lit (.int .u8 0), .lit (.int .u8 0), .lit (.int .u8 0), .lit (.int .u8 0), .lit (.int .u8 0), .lit (.int .u8 0), .lit (.int .u8 0), .lit (.int .u8 0), .lit (.int .u8 0), .lit (.int .u8 0), .lit (.int .u8 0), .lit (.int .u8 0), .lit (.int .u8 0), .lit (.int .u8 0), .lit (.int .u8 0), .lit (.int .u8 0), .lit (.int .u8 0), .lit (.int .u8 0), .lit (.int .u8 0), .lit (.int .u8 0), .lit (.int .u8 0), .lit (.int .u8 0), .lit (.int .u8 0), .lit (.int .u8 0), .lit (.int .u8 0), .lit (.int .u8 0), .lit (.int .u8 0), .lit (.int .u8 0), .lit (.int .u8 0), .lit (.int .u8 0), .lit (.int .u8 0), .lit (.int .u8 0), .lit (.int .u8 0), .lit (.int .u8 0), .lit (.int .u8 0), .lit (.int .u8 0), .lit (.int .u8 0), .lit (.int .u8 0), .lit (.int .u8 0), .lit (.int .u8 0), .lit (.int .u8 0), .lit (.int .u8 0), .lit (.int .u8 0), .lit (.int .u8 0), .lit (.int .u8 0), .lit (.int .u8 0), .lit (.int .u8 0), .lit (.int .u8 0), .lit (.int .u8 0), .lit (.int .u8 0), .lit (.int .u8 0), .lit (.int .u8 0), .lit (.int .u8 0), .lit (.int .u8 0), .lit (.int .u8 0), .lit (.int .u8 0)], .agg [.lit (.int .u8 1), .lit (.int .u8 0), .lit (.int .u8 0), .lit (.int .u8 0), .lit (.int .u8 0), .lit (.int .u8 0), .lit (.int .u8 0), .lit (.int .u8 0), .lit (.int .u8 0), .lit (.int .u8 0), .lit (.int .u8 0), .lit (.int .u8 0), .lit (.int .u8 0), .lit (.int .u8 0), .lit (.int .u8 0), .lit (.int .u8 0), .lit (.int .u8 0), .lit (.int .u8 0), .lit (.int .u8 0), .lit (.int .u8 0), .lit (.int .u8 0), .lit (.int .u8 0), .lit (.int .u8 0), .lit (.int .u8 0), .lit (.int .u8 0), .lit (.int .u8 0), .lit (.int .u8 0), .lit (.int .u8 0), .lit (.int .u8 0), .lit (.int .u8 0), .lit (.int .u8 0), .lit (.int .u8 0), .lit (.int .u8 0), .lit (.int .u8 0), .lit (.int .u8 0), .lit (.int .u8 0), .lit (.int .u8 0), .lit (.int .u8 0), .lit (.int .u8 0), .lit (.int .u8 0), .lit (.int .u8 0), .lit (.int .u8 0), .lit (.int .u8 0), .lit (.int .u8 0), .lit (.int .u8 0), .lit (.int .u8 0), .lit (.int .u8 0), .lit (.int .u8 0), .lit (.int .u8 0), .lit (.int .u8 0), .lit (.int .u8 0), .lit (.int .u8 0), .lit (.int .u8 0), .lit (.int .u8 0), .lit (.int .u8 0), .lit (.int .u8 0)], .agg [.lit (.int .u8 254), .lit (.int .u8 255), .lit (.int .u8 255), .lit (.int .u8 255), .lit (.int .u8 255), .lit (.int .u8 255), .lit (.int .u8 255), .lit (.int .u8 255), .lit (.int .u8 255), .lit (.int .u8 255), .lit (.int .u8 255), .lit (.int .u8 255), .lit (.int .u8 255), .lit (.int .u8 255), .lit (.int .u8 255), .lit (.int .u8 255), .lit (.int .u8 255), .lit (.int .u8 255), .lit (.int .u8 255), .lit (.int .u8 255), .lit (.int .u8 255), .lit (.int .u8 255), .lit (.int .u8 255), .lit (.int .u8 255), .lit (.int .u8 255), .lit (.int .u8 255), .lit (.int .u8 255), .lit (.int .u8 255), .lit (.int .u8 254), .lit (.int .u8 255), .lit (.int .u8 255), .lit (.int .u8 255), .lit (.int .u8 255), .lit (.int .u8 255), .lit (.int .u8 255), .lit (.int .u8 255), .lit (.int .u8 255), .lit (.int .u8 255), .lit (.int .u8 255), .lit (.int .u8 255), .lit (.int .u8 255), .lit (.int .u8 255), .lit (.int .u8 255), .lit (.int .u8 255), .lit (.int .u8 255), .lit (.int .u8 255), .lit (.int .u8 255), .lit (.int .u8 255), .lit (.int .u8 255), .lit (.int .u8 255), .lit (.int .u8 255), .lit (.int .u8 255), .lit (.int .u8 255), .lit (.int .u8 255), .lit (.int .u8 255), .lit (.int .u8 255)]]

/-- 'laws.FnInvSqrt': WHATEVER THE INPUT: true; the input reads as it did. -/
def fnInvSqrtSpec : ChangeSpec := { name := "fnInvSqrt", vars := ["loop.example/pub-g03032/pub/circl/math/fp448.p"], fn := fun _ => fun
  | [d1, d2, g1] => { results := [.lit (.bool true)], args := [d1, d2], vars := [g1] }
  | _ => none }
def fnInvSqrtRow : OpenClaim := { program := "ytkjfongekklabaadoor", sum := "450139cd4b3a37da3242923830923708ae89ee143d85b93a62fbd16522a0023f", func := "loop.example/pub-g03032/laws.FnInvSqrt", spec := "fnInvSqrt", inPlace := ["math/bits.Add64", "math/bits.Sub64"], named := ["encoding/binary.LittleEndian", "loop.example/pub-g03032/pub/circl/math/fp448.p"], apart := false, laid := [("loop.example/pub-g03032/pub/circl/math/fp448.p", laid_loop_example_pub_g03032_pub_circl_math_fp448_p)] }
def FnInvSqrtSaid : Prop := fnInvSqrtRow.holds Tryd.pinned (OpenSpec.ofChange fnInvSqrtSpec)

/-- ITS FALSE NEIGHBOUR: 'it returns false'. Refute it at one input. -/
def fnInvSqrtWrong : ChangeSpec := { name := "fnInvSqrt", vars := ["loop.example/pub-g03032/pub/circl/math/fp448.p"], fn := fun _ => fun
  | [d1, d2, g1] => { results := [.lit (.bool false)], args := [d1, d2], vars := [g1] }
  | _ => none }
def FnInvSqrtWrongFalsely : Prop := fnInvSqrtRow.holds Tryd.pinned (OpenSpec.ofChange fnInvSqrtWrong)

/-- 'laws.FnValidIs': WHATEVER THE INPUT: true; the input reads as it did. -/
def fnValidIsSpec : ChangeSpec := { name := "fnValidIs", vars := ["loop.example/pub-g03032/pub/circl/dh/x448.lowOrderPoints", "loop.example/pub-g03032/pub/circl/math/fp448.p"], fn := fun _ => fun
  | [d, g1, g2] => { results := [.lit (.bool true)], args := [d], vars := [g1, g2] }
  | _ => none }
def fnValidIsRow : OpenClaim := { program := "ytkjfongekklabaadoor", sum := "450139cd4b3a37da3242923830923708ae89ee143d85b93a62fbd16522a0023f", func := "loop.example/pub-g03032/laws.FnValidIs", spec := "fnValidIs", inPlace := ["math/bits.Sub64", "crypto/internal/constanttime.boolToUint8"], named := ["loop.example/pub-g03032/pub/circl/dh/x448.lowOrderPoints", "loop.example/pub-g03032/pub/circl/math/fp448.p", "encoding/binary.LittleEndian"], apart := false, laid := [("loop.example/pub-g03032/pub/circl/math/fp448.p", laid_loop_example_pub_g03032_pub_circl_math_fp448_p), ("loop.example/pub-g03032/pub/circl/dh/x448.lowOrderPoints", laid_loop_example_pub_g03032_pub_circl_dh_x448_lowOrderPoints)] }
def FnValidIsSaid : Prop := fnValidIsRow.holds Tryd.pinned (OpenSpec.ofChange fnValidIsSpec)

/-- ITS FALSE NEIGHBOUR: 'it returns false'. Refute it at one input. -/
def fnValidIsWrong : ChangeSpec := { name := "fnValidIs", vars := ["loop.example/pub-g03032/pub/circl/dh/x448.lowOrderPoints", "loop.example/pub-g03032/pub/circl/math/fp448.p"], fn := fun _ => fun
  | [d, g1, g2] => { results := [.lit (.bool false)], args := [d], vars := [g1, g2] }
  | _ => none }
def FnValidIsWrongFalsely : Prop := fnValidIsRow.holds Tryd.pinned (OpenSpec.ofChange fnValidIsWrong)

/-- 'laws.FnMulA24Is': WHATEVER THE INPUT: true; the input reads as it did. -/
def fnMulA24IsSpec : ChangeSpec := { name := "fnMulA24Is", vars := ["loop.example/pub-g03032/pub/circl/math/fp448.p"], fn := fun _ => fun
  | [d, g1] => { results := [.lit (.bool true)], args := [d], vars := [g1] }
  | _ => none }
def fnMulA24IsRow : OpenClaim := { program := "ytkjfongekklabaadoor", sum := "450139cd4b3a37da3242923830923708ae89ee143d85b93a62fbd16522a0023f", func := "loop.example/pub-g03032/laws.FnMulA24Is", spec := "fnMulA24Is", inPlace := ["math/bits.Add64", "math/bits.Sub64"], named := ["encoding/binary.LittleEndian", "loop.example/pub-g03032/pub/circl/math/fp448.p"], apart := false, laid := [("loop.example/pub-g03032/pub/circl/math/fp448.p", laid_loop_example_pub_g03032_pub_circl_math_fp448_p)] }
def FnMulA24IsSaid : Prop := fnMulA24IsRow.holds Tryd.pinned (OpenSpec.ofChange fnMulA24IsSpec)

/-- ITS FALSE NEIGHBOUR: 'it returns false'. Refute it at one input. -/
def fnMulA24IsWrong : ChangeSpec := { name := "fnMulA24Is", vars := ["loop.example/pub-g03032/pub/circl/math/fp448.p"], fn := fun _ => fun
  | [d, g1] => { results := [.lit (.bool false)], args := [d], vars := [g1] }
  | _ => none }
def FnMulA24IsWrongFalsely : Prop := fnMulA24IsRow.holds Tryd.pinned (OpenSpec.ofChange fnMulA24IsWrong)

/-- 'laws.FnDoubleIs': WHATEVER THE INPUT: true; the input reads as it did. -/
def fnDoubleIsSpec : ChangeSpec := { name := "fnDoubleIs", vars := ["loop.example/pub-g03032/pub/circl/math/fp448.p"], fn := fun _ => fun
  | [d1, d2, g1] => { results := [.lit (.bool true)], args := [d1, d2], vars := [g1] }
  | _ => none }
def fnDoubleIsRow : OpenClaim := { program := "ytkjfongekklabaadoor", sum := "450139cd4b3a37da3242923830923708ae89ee143d85b93a62fbd16522a0023f", func := "loop.example/pub-g03032/laws.FnDoubleIs", spec := "fnDoubleIs", inPlace := ["math/bits.Add64", "math/bits.Sub64"], named := ["encoding/binary.LittleEndian", "loop.example/pub-g03032/pub/circl/math/fp448.p"], apart := false, laid := [("loop.example/pub-g03032/pub/circl/math/fp448.p", laid_loop_example_pub_g03032_pub_circl_math_fp448_p)] }
def FnDoubleIsSaid : Prop := fnDoubleIsRow.holds Tryd.pinned (OpenSpec.ofChange fnDoubleIsSpec)

/-- ITS FALSE NEIGHBOUR: 'it returns false'. Refute it at one input. -/
def fnDoubleIsWrong : ChangeSpec := { name := "fnDoubleIs", vars := ["loop.example/pub-g03032/pub/circl/math/fp448.p"], fn := fun _ => fun
  | [d1, d2, g1] => { results := [.lit (.bool false)], args := [d1, d2], vars := [g1] }
  | _ => none }
def FnDoubleIsWrongFalsely : Prop := fnDoubleIsRow.holds Tryd.pinned (OpenSpec.ofChange fnDoubleIsWrong)

/-- 'laws.FnStepIs': WHATEVER THE INPUT: true; the input reads as it did. -/
def fnStepIsSpec : ChangeSpec := { name := "fnStepIs", vars := ["loop.example/pub-g03032/pub/circl/math/fp448.p"], fn := fun _ => fun
  | [d1, d2, g1] => { results := [.lit (.bool true)], args := [d1, d2], vars := [g1] }
  | _ => none }
def fnStepIsRow : OpenClaim := { program := "ytkjfongekklabaadoor", sum := "450139cd4b3a37da3242923830923708ae89ee143d85b93a62fbd16522a0023f", func := "loop.example/pub-g03032/laws.FnStepIs", spec := "fnStepIs", inPlace := ["math/bits.Add64", "math/bits.Sub64"], named := ["encoding/binary.LittleEndian", "loop.example/pub-g03032/pub/circl/math/fp448.p"], apart := false, laid := [("loop.example/pub-g03032/pub/circl/math/fp448.p", laid_loop_example_pub_g03032_pub_circl_math_fp448_p)] }
def FnStepIsSaid : Prop := fnStepIsRow.holds Tryd.pinned (OpenSpec.ofChange fnStepIsSpec)

/-- ITS FALSE NEIGHBOUR: 'it returns false'. Refute it at one input. -/
def fnStepIsWrong : ChangeSpec := { name := "fnStepIs", vars := ["loop.example/pub-g03032/pub/circl/math/fp448.p"], fn := fun _ => fun
  | [d1, d2, g1] => { results := [.lit (.bool false)], args := [d1, d2], vars := [g1] }
  | _ => none }
def FnStepIsWrongFalsely : Prop := fnStepIsRow.holds Tryd.pinned (OpenSpec.ofChange fnStepIsWrong)

/-- 'laws.FnSharedClamped': WHATEVER THE INPUT: true; the input reads as it did. -/
def fnSharedClampedSpec : ChangeSpec := { name := "fnSharedClamped", vars := ["loop.example/pub-g03032/pub/circl/dh/x448.lowOrderPoints", "loop.example/pub-g03032/pub/circl/math/fp448.p"], fn := fun _ => fun
  | [d1, d2, g1, g2] => { results := [.lit (.bool true)], args := [d1, d2], vars := [g1, g2] }
  | _ => none }
def fnSharedClampedRow : OpenClaim := { program := "ytkjfongekklabaadoor", sum := "450139cd4b3a37da3242923830923708ae89ee143d85b93a62fbd16522a0023f", func := "loop.example/pub-g03032/laws.FnSharedClamped", spec := "fnSharedClamped", inPlace := ["math/bits.Sub64", "crypto/internal/constanttime.boolToUint8", "math/bits.Add64"], named := ["loop.example/pub-g03032/pub/circl/dh/x448.lowOrderPoints", "loop.example/pub-g03032/pub/circl/math/fp448.p", "encoding/binary.LittleEndian"], apart := false, laid := [("loop.example/pub-g03032/pub/circl/math/fp448.p", laid_loop_example_pub_g03032_pub_circl_math_fp448_p), ("loop.example/pub-g03032/pub/circl/dh/x448.lowOrderPoints", laid_loop_example_pub_g03032_pub_circl_dh_x448_lowOrderPoints)] }
def FnSharedClampedSaid : Prop := fnSharedClampedRow.holds Tryd.pinned (OpenSpec.ofChange fnSharedClampedSpec)

/-- ITS FALSE NEIGHBOUR: 'it returns false'. Refute it at one input. -/
def fnSharedClampedWrong : ChangeSpec := { name := "fnSharedClamped", vars := ["loop.example/pub-g03032/pub/circl/dh/x448.lowOrderPoints", "loop.example/pub-g03032/pub/circl/math/fp448.p"], fn := fun _ => fun
  | [d1, d2, g1, g2] => { results := [.lit (.bool false)], args := [d1, d2], vars := [g1, g2] }
  | _ => none }
def FnSharedClampedWrongFalsely : Prop := fnSharedClampedRow.holds Tryd.pinned (OpenSpec.ofChange fnSharedClampedWrong)

/-- 'laws.FnSharedIs': WHATEVER THE INPUT: true; the input reads as it did. -/
def fnSharedIsSpec : ChangeSpec := { name := "fnSharedIs", vars := ["loop.example/pub-g03032/pub/circl/dh/x448.lowOrderPoints", "loop.example/pub-g03032/pub/circl/math/fp448.p"], fn := fun _ => fun
  | [d1, d2, g1, g2] => { results := [.lit (.bool true)], args := [d1, d2], vars := [g1, g2] }
  | _ => none }
def fnSharedIsRow : OpenClaim := { program := "ytkjfongekklabaadoor", sum := "450139cd4b3a37da3242923830923708ae89ee143d85b93a62fbd16522a0023f", func := "loop.example/pub-g03032/laws.FnSharedIs", spec := "fnSharedIs", inPlace := ["math/bits.Sub64", "crypto/internal/constanttime.boolToUint8", "math/bits.Add64"], named := ["loop.example/pub-g03032/pub/circl/dh/x448.lowOrderPoints", "loop.example/pub-g03032/pub/circl/math/fp448.p", "encoding/binary.LittleEndian"], apart := false, laid := [("loop.example/pub-g03032/pub/circl/math/fp448.p", laid_loop_example_pub_g03032_pub_circl_math_fp448_p), ("loop.example/pub-g03032/pub/circl/dh/x448.lowOrderPoints", laid_loop_example_pub_g03032_pub_circl_dh_x448_lowOrderPoints)] }
def FnSharedIsSaid : Prop := fnSharedIsRow.holds Tryd.pinned (OpenSpec.ofChange fnSharedIsSpec)

/-- ITS FALSE NEIGHBOUR: 'it returns false'. Refute it at one input. -/
def fnSharedIsWrong : ChangeSpec := { name := "fnSharedIs", vars := ["loop.example/pub-g03032/pub/circl/dh/x448.lowOrderPoints", "loop.example/pub-g03032/pub/circl/math/fp448.p"], fn := fun _ => fun
  | [d1, d2, g1, g2] => { results := [.lit (.bool false)], args := [d1, d2], vars := [g1, g2] }
  | _ => none }
def FnSharedIsWrongFalsely : Prop := fnSharedIsRow.holds Tryd.pinned (OpenSpec.ofChange fnSharedIsWrong)

/- THE SECOND FORM. 'bulk': how many values and letters a reading holds, each counted each time it is reached (what is shared counts as often as it is met; a slice's spare places count too). A statement '..UptoSaid' is the law's where the arguments, and the package variables that the reading takes, are together of bulk at most 1048576: NARROWER than '..Said'. Prove '..Said' where nothing that the law and all that it calls make is longer than what came in: it says more and counts as full. Else prove '..UptoSaid'. A law counts once. -/
mutual
def uptoBulk {H : Type} : DataW H → Nat
  | .lit (.string bytes) => bytes.length + 1
  | .lit _ => 1
  | .nil => 1
  | .ptr d => uptoBulk d + 1
  | .slice elems spare => uptoBulkAll elems + uptoBulkAll spare + 1
  | .agg parts => uptoBulkAll parts + 1
  | .iface _ d => uptoBulk d + 1
  | .map entries => uptoBulkEntries entries + 1
  | .held _ => 1
def uptoBulkAll {H : Type} : List (DataW H) → Nat
  | [] => 0
  | d :: r => uptoBulk d + uptoBulkAll r
def uptoBulkEntries {H : Type} : List (Lit × DataW H) → Nat
  | [] => 0
  | x :: r => uptoBulkEntry x + uptoBulkEntries r
def uptoBulkEntry {H : Type} : Lit × DataW H → Nat
  | (.string bytes, d) => bytes.length + uptoBulk d + 1
  | (_, d) => uptoBulk d + 1
 end
def uptoSmall : (H : Type) → List (DataW H) → Bool := fun _ ds => decide (uptoBulkAll ds ≤ 1048576)
def OpenSpec.upto (s : _root_.Go.ChangeSpec) : _root_.Go.OpenSpec := { _root_.Go.OpenSpec.ofChange s with cond := some uptoSmall }

/-- 'laws.FnInvSqrt', WHERE WHAT IT READS IS OF BULK AT MOST 1048576: true; the input reads as it did. -/
def fnInvSqrtUptoRow : OpenClaim := { program := "ytkjfongekklabaadoor", sum := "450139cd4b3a37da3242923830923708ae89ee143d85b93a62fbd16522a0023f", func := "loop.example/pub-g03032/laws.FnInvSqrt", spec := "fnInvSqrt", inPlace := ["math/bits.Add64", "math/bits.Sub64"], named := ["encoding/binary.LittleEndian", "loop.example/pub-g03032/pub/circl/math/fp448.p"], apart := false, laid := [("loop.example/pub-g03032/pub/circl/math/fp448.p", laid_loop_example_pub_g03032_pub_circl_math_fp448_p)], narrowed := true }
def FnInvSqrtUptoSaid : Prop := fnInvSqrtUptoRow.holds Tryd.pinned (OpenSpec.upto fnInvSqrtSpec)

/-- 'laws.FnValidIs', WHERE WHAT IT READS IS OF BULK AT MOST 1048576: true; the input reads as it did. -/
def fnValidIsUptoRow : OpenClaim := { program := "ytkjfongekklabaadoor", sum := "450139cd4b3a37da3242923830923708ae89ee143d85b93a62fbd16522a0023f", func := "loop.example/pub-g03032/laws.FnValidIs", spec := "fnValidIs", inPlace := ["math/bits.Sub64", "crypto/internal/constanttime.boolToUint8"], named := ["loop.example/pub-g03032/pub/circl/dh/x448.lowOrderPoints", "loop.example/pub-g03032/pub/circl/math/fp448.p", "encoding/binary.LittleEndian"], apart := false, laid := [("loop.example/pub-g03032/pub/circl/math/fp448.p", laid_loop_example_pub_g03032_pub_circl_math_fp448_p), ("loop.example/pub-g03032/pub/circl/dh/x448.lowOrderPoints", laid_loop_example_pub_g03032_pub_circl_dh_x448_lowOrderPoints)], narrowed := true }
def FnValidIsUptoSaid : Prop := fnValidIsUptoRow.holds Tryd.pinned (OpenSpec.upto fnValidIsSpec)

/-- 'laws.FnMulA24Is', WHERE WHAT IT READS IS OF BULK AT MOST 1048576: true; the input reads as it did. -/
def fnMulA24IsUptoRow : OpenClaim := { program := "ytkjfongekklabaadoor", sum := "450139cd4b3a37da3242923830923708ae89ee143d85b93a62fbd16522a0023f", func := "loop.example/pub-g03032/laws.FnMulA24Is", spec := "fnMulA24Is", inPlace := ["math/bits.Add64", "math/bits.Sub64"], named := ["encoding/binary.LittleEndian", "loop.example/pub-g03032/pub/circl/math/fp448.p"], apart := false, laid := [("loop.example/pub-g03032/pub/circl/math/fp448.p", laid_loop_example_pub_g03032_pub_circl_math_fp448_p)], narrowed := true }
def FnMulA24IsUptoSaid : Prop := fnMulA24IsUptoRow.holds Tryd.pinned (OpenSpec.upto fnMulA24IsSpec)

/-- 'laws.FnDoubleIs', WHERE WHAT IT READS IS OF BULK AT MOST 1048576: true; the input reads as it did. -/
def fnDoubleIsUptoRow : OpenClaim := { program := "ytkjfongekklabaadoor", sum := "450139cd4b3a37da3242923830923708ae89ee143d85b93a62fbd16522a0023f", func := "loop.example/pub-g03032/laws.FnDoubleIs", spec := "fnDoubleIs", inPlace := ["math/bits.Add64", "math/bits.Sub64"], named := ["encoding/binary.LittleEndian", "loop.example/pub-g03032/pub/circl/math/fp448.p"], apart := false, laid := [("loop.example/pub-g03032/pub/circl/math/fp448.p", laid_loop_example_pub_g03032_pub_circl_math_fp448_p)], narrowed := true }
def FnDoubleIsUptoSaid : Prop := fnDoubleIsUptoRow.holds Tryd.pinned (OpenSpec.upto fnDoubleIsSpec)

/-- 'laws.FnStepIs', WHERE WHAT IT READS IS OF BULK AT MOST 1048576: true; the input reads as it did. -/
def fnStepIsUptoRow : OpenClaim := { program := "ytkjfongekklabaadoor", sum := "450139cd4b3a37da3242923830923708ae89ee143d85b93a62fbd16522a0023f", func := "loop.example/pub-g03032/laws.FnStepIs", spec := "fnStepIs", inPlace := ["math/bits.Add64", "math/bits.Sub64"], named := ["encoding/binary.LittleEndian", "loop.example/pub-g03032/pub/circl/math/fp448.p"], apart := false, laid := [("loop.example/pub-g03032/pub/circl/math/fp448.p", laid_loop_example_pub_g03032_pub_circl_math_fp448_p)], narrowed := true }
def FnStepIsUptoSaid : Prop := fnStepIsUptoRow.holds Tryd.pinned (OpenSpec.upto fnStepIsSpec)

/-- 'laws.FnSharedClamped', WHERE WHAT IT READS IS OF BULK AT MOST 1048576: true; the input reads as it did. -/
def fnSharedClampedUptoRow : OpenClaim := { program := "ytkjfongekklabaadoor", sum := "450139cd4b3a37da3242923830923708ae89ee143d85b93a62fbd16522a0023f", func := "loop.example/pub-g03032/laws.FnSharedClamped", spec := "fnSharedClamped", inPlace := ["math/bits.Sub64", "crypto/internal/constanttime.boolToUint8", "math/bits.Add64"], named := ["loop.example/pub-g03032/pub/circl/dh/x448.lowOrderPoints", "loop.example/pub-g03032/pub/circl/math/fp448.p", "encoding/binary.LittleEndian"], apart := false, laid := [("loop.example/pub-g03032/pub/circl/math/fp448.p", laid_loop_example_pub_g03032_pub_circl_math_fp448_p), ("loop.example/pub-g03032/pub/circl/dh/x448.lowOrderPoints", laid_loop_example_pub_g03032_pub_circl_dh_x448_lowOrderPoints)], narrowed := true }
def FnSharedClampedUptoSaid : Prop := fnSharedClampedUptoRow.holds Tryd.pinned (OpenSpec.upto fnSharedClampedSpec)

/-- 'laws.FnSharedIs', WHERE WHAT IT READS IS OF BULK AT MOST 1048576: true; the input reads as it did. -/
def fnSharedIsUptoRow : OpenClaim := { program := "ytkjfongekklabaadoor", sum := "450139cd4b3a37da3242923830923708ae89ee143d85b93a62fbd16522a0023f", func := "loop.example/pub-g03032/laws.FnSharedIs", spec := "fnSharedIs", inPlace := ["math/bits.Sub64", "crypto/internal/constanttime.boolToUint8", "math/bits.Add64"], named := ["loop.example/pub-g03032/pub/circl/dh/x448.lowOrderPoints", "loop.example/pub-g03032/pub/circl/math/fp448.p", "encoding/binary.LittleEndian"], apart := false, laid := [("loop.example/pub-g03032/pub/circl/math/fp448.p", laid_loop_example_pub_g03032_pub_circl_math_fp448_p), ("loop.example/pub-g03032/pub/circl/dh/x448.lowOrderPoints", laid_loop_example_pub_g03032_pub_circl_dh_x448_lowOrderPoints)], narrowed := true }
def FnSharedIsUptoSaid : Prop := fnSharedIsUptoRow.holds Tryd.pinned (OpenSpec.upto fnSharedIsSpec)

end Rows
end Go.Proofs.YtkjfongekklabaaDoor
