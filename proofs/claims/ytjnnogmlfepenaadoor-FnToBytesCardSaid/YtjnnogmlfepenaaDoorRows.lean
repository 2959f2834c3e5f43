/-
  NARROWER THAN 'FOR EVERY INPUT', by the rows' own cells (each row's printed sentence says how): FnModpIs: laid · FnSubIs: laid · FnNegIs: laid · FnTells: laid · FnToBytes: laid · FnAddIs: laid · FnAddSubIs: laid · FnMulIs: laid · FnSqrIs: laid · FnRing: laid · FnInv: laid · FnRoads: laid.
  DERIVED. THE GIVEN ROWS OF THIS SEAT. 12 by the template 'for every input the law returns true; each argument reads behind the call as it read before'; 0 by the template 'total and deterministic' (their statements: YtjnnogmlfepenaaDoorTotals.lean).
  GIVEN WITH THE SEED: the statements are not yours to turn. If you find one false, say at which input.
  Laid BY PROGRAM, IN A SANDBOX (cutbox-rows.mjs): the forced cells as the released guide's own fill.sh prints them over the translation 792fbfe1d784c9d8… (all of the seat's roots in one cut). By AI agents, Wed Nov 11 2026. No macro, syntax, notation, axiom, sorry.
-/
import Derived.Test.YtjnnogmlfepenaaDoorChecked
import GoSem.Claim
import GoSem.ClaimJoined
import GoSem.ClaimMapViews
import Derived.JoinedTies
import Derived.KernelRfl
namespace Go.Proofs.YtjnnogmlfepenaaDoor
/- THE CELL 'sum', in the pinned program and in every row, IS THE sha256 OF THE DUMP (.gsa) THAT YtjnnogmlfepenaaDoorProg.lean LOADS. Nothing in Lean hashes anything: it is a label: what it is worth is what the hold of that sum in a sandbox is worth. -/
noncomputable def Tryd.pinned : Pinned := { name := "ytjnnogmlfepenaadoor", sum := "792fbfe1d784c9d84b058a7a8355cad4b4bdded76a6e3fec83f0adf7aba932c1", checked := Tryd.checked }
namespace Rows
def none {H : Type} : Left H := { results := [], args := [] }

/- WHAT THE LISTED PACKAGE-LEVEL VARIABLES READ AS WHEN THE CALL BEGINS. Each datum BY PROGRAM (the guide's laid-datum.mjs) off the statement by which the dump's own 'gosem.cut.vars' lays the variable. In a bare row this is a premise. The card (YtjnnogmlfepenaaDoorCards.lean) ties it to the program's text. -/
def laid_loop_example_pub_g03032_pub_circl_math_fp448_p {H : Type} : DataW H := .agg [.lit (.int .u8 255), .lit (.int .u8 255), .lit (.int .u8 255), .lit (.int .u8 255), .lit (.int .u8 255), .lit (.int .u8 255), .lit (.int .u8 255), .lit (.int .u8 255), .lit (.int .u8 255), .lit (.int .u8 255), .lit (.int .u8 255), .lit (.int .u8 255), .lit (.int .u8 255), .lit (.int .u8 255), .lit (.int .u8 255), .lit (.int .u8 255), .lit (.int .u8 255), .lit (.int .u8 255), .lit (.int .u8 255), .lit (.int .u8 255), .lit (.int .u8 255), .lit (.int .u8 255), .lit (.int .u8 255), .lit (.int .u8 255), .lit (.int .u8 255), .lit (.int .u8 255), .lit (.int .u8 255), .lit (.int .u8 255), .lit (.int .u8 254), .lit (.int .u8 255), .lit (.int .u8 255), .lit (.int .u8 255), .lit (.int .u8 255), .lit (.int .u8 255), .lit (.int .u8 255), .lit (.int .u8 255), .lit (.int .u8 255), .lit (.int .u8 255), .lit (.int .u8 255), .lit (.int .u8 255), .lit (.int .u8 255), .lit (.int .u8 255), .lit (.int .u8 255), .lit (.int .u8 255), .lit (.int .u8 255), .lit (.int .u8 255), .lit (.int .u8 255), .lit (.int .u8 255), .lit (.int .u8 255), .lit (.int .u8 255), .lit (.int .u8 255), .lit (.int .u8 255), .lit (.int .u8 255), .lit (.int .u8 255), .lit (.int .u8 255), .lit (.int .u8 255)]

/-- 'laws.FnModpIs': WHATEVER THE INPUT: true; the input reads as it did. -/
def fnModpIsSpec : ChangeSpec := { name := "fnModpIs", vars := ["loop.example/pub-g03032/pub/circl/math/fp448.p"], fn := fun _ => fun
  | [d, g1] => { results := [.lit (.bool true)], args := [d], vars := [g1] }
  | _ => none }
def fnModpIsRow : OpenClaim := { program := "ytjnnogmlfepenaadoor", sum := "792fbfe1d784c9d84b058a7a8355cad4b4bdded76a6e3fec83f0adf7aba932c1", func := "loop.example/pub-g03032/laws.FnModpIs", spec := "fnModpIs", inPlace := ["math/bits.Sub64"], named := ["loop.example/pub-g03032/pub/circl/math/fp448.p", "encoding/binary.LittleEndian"], apart := false, laid := [("loop.example/pub-g03032/pub/circl/math/fp448.p", laid_loop_example_pub_g03032_pub_circl_math_fp448_p)] }
def FnModpIsSaid : Prop := fnModpIsRow.holds Tryd.pinned (OpenSpec.ofChange fnModpIsSpec)

/-- ITS FALSE NEIGHBOUR: 'it returns false'. Refute it at one input. -/
def fnModpIsWrong : ChangeSpec := { name := "fnModpIs", vars := ["loop.example/pub-g03032/pub/circl/math/fp448.p"], fn := fun _ => fun
  | [d, g1] => { results := [.lit (.bool false)], args := [d], vars := [g1] }
  | _ => none }
def FnModpIsWrongFalsely : Prop := fnModpIsRow.holds Tryd.pinned (OpenSpec.ofChange fnModpIsWrong)

/-- 'laws.FnSubIs': WHATEVER THE INPUT: true; the input reads as it did. -/
def fnSubIsSpec : ChangeSpec := { name := "fnSubIs", vars := ["loop.example/pub-g03032/pub/circl/math/fp448.p"], fn := fun _ => fun
  | [d1, d2, g1] => { results := [.lit (.bool true)], args := [d1, d2], vars := [g1] }
  | _ => none }
def fnSubIsRow : OpenClaim := { program := "ytjnnogmlfepenaadoor", sum := "792fbfe1d784c9d84b058a7a8355cad4b4bdded76a6e3fec83f0adf7aba932c1", func := "loop.example/pub-g03032/laws.FnSubIs", spec := "fnSubIs", inPlace := ["math/bits.Sub64"], named := ["encoding/binary.LittleEndian", "loop.example/pub-g03032/pub/circl/math/fp448.p"], apart := false, laid := [("loop.example/pub-g03032/pub/circl/math/fp448.p", laid_loop_example_pub_g03032_pub_circl_math_fp448_p)] }
def FnSubIsSaid : Prop := fnSubIsRow.holds Tryd.pinned (OpenSpec.ofChange fnSubIsSpec)

/-- ITS FALSE NEIGHBOUR: 'it returns false'. Refute it at one input. -/
def fnSubIsWrong : ChangeSpec := { name := "fnSubIs", vars := ["loop.example/pub-g03032/pub/circl/math/fp448.p"], fn := fun _ => fun
  | [d1, d2, g1] => { results := [.lit (.bool false)], args := [d1, d2], vars := [g1] }
  | _ => none }
def FnSubIsWrongFalsely : Prop := fnSubIsRow.holds Tryd.pinned (OpenSpec.ofChange fnSubIsWrong)

/-- 'laws.FnNegIs': WHATEVER THE INPUT: true; the input reads as it did. -/
def fnNegIsSpec : ChangeSpec := { name := "fnNegIs", vars := ["loop.example/pub-g03032/pub/circl/math/fp448.p"], fn := fun _ => fun
  | [d, g1] => { results := [.lit (.bool true)], args := [d], vars := [g1] }
  | _ => none }
def fnNegIsRow : OpenClaim := { program := "ytjnnogmlfepenaadoor", sum := "792fbfe1d784c9d84b058a7a8355cad4b4bdded76a6e3fec83f0adf7aba932c1", func := "loop.example/pub-g03032/laws.FnNegIs", spec := "fnNegIs", inPlace := ["math/bits.Sub64"], named := ["loop.example/pub-g03032/pub/circl/math/fp448.p", "encoding/binary.LittleEndian"], apart := false, laid := [("loop.example/pub-g03032/pub/circl/math/fp448.p", laid_loop_example_pub_g03032_pub_circl_math_fp448_p)] }
def FnNegIsSaid : Prop := fnNegIsRow.holds Tryd.pinned (OpenSpec.ofChange fnNegIsSpec)

/-- ITS FALSE NEIGHBOUR: 'it returns false'. Refute it at one input. -/
def fnNegIsWrong : ChangeSpec := { name := "fnNegIs", vars := ["loop.example/pub-g03032/pub/circl/math/fp448.p"], fn := fun _ => fun
  | [d, g1] => { results := [.lit (.bool false)], args := [d], vars := [g1] }
  | _ => none }
def FnNegIsWrongFalsely : Prop := fnNegIsRow.holds Tryd.pinned (OpenSpec.ofChange fnNegIsWrong)

/-- 'laws.FnTells': WHATEVER THE INPUT: true; the input reads as it did. -/
def fnTellsSpec : ChangeSpec := { name := "fnTells", vars := ["loop.example/pub-g03032/pub/circl/math/fp448.p"], fn := fun _ => fun
  | [d, g1] => { results := [.lit (.bool true)], args := [d], vars := [g1] }
  | _ => none }
def fnTellsRow : OpenClaim := { program := "ytjnnogmlfepenaadoor", sum := "792fbfe1d784c9d84b058a7a8355cad4b4bdded76a6e3fec83f0adf7aba932c1", func := "loop.example/pub-g03032/laws.FnTells", spec := "fnTells", inPlace := ["math/bits.Sub64"], named := ["loop.example/pub-g03032/pub/circl/math/fp448.p", "encoding/binary.LittleEndian"], apart := false, laid := [("loop.example/pub-g03032/pub/circl/math/fp448.p", laid_loop_example_pub_g03032_pub_circl_math_fp448_p)] }
def FnTellsSaid : Prop := fnTellsRow.holds Tryd.pinned (OpenSpec.ofChange fnTellsSpec)

/-- ITS FALSE NEIGHBOUR: 'it returns false'. Refute it at one input. -/
def fnTellsWrong : ChangeSpec := { name := "fnTells", vars := ["loop.example/pub-g03032/pub/circl/math/fp448.p"], fn := fun _ => fun
  | [d, g1] => { results := [.lit (.bool false)], args := [d], vars := [g1] }
  | _ => none }
def FnTellsWrongFalsely : Prop := fnTellsRow.holds Tryd.pinned (OpenSpec.ofChange fnTellsWrong)

/-- 'laws.FnToBytes': WHATEVER THE INPUT: true; the input reads as it did. -/
def fnToBytesSpec : ChangeSpec := { name := "fnToBytes", vars := ["loop.example/pub-g03032/pub/circl/math/fp448.p"], fn := fun _ => fun
  | [d1, d2, g1] => { results := [.lit (.bool true)], args := [d1, d2], vars := [g1] }
  | _ => none }
def fnToBytesRow : OpenClaim := { program := "ytjnnogmlfepenaadoor", sum := "792fbfe1d784c9d84b058a7a8355cad4b4bdded76a6e3fec83f0adf7aba932c1", func := "loop.example/pub-g03032/laws.FnToBytes", spec := "fnToBytes", inPlace := ["math/bits.Sub64"], named := ["loop.example/pub-g03032/pub/circl/math/fp448.p", "encoding/binary.LittleEndian"], apart := false, laid := [("loop.example/pub-g03032/pub/circl/math/fp448.p", laid_loop_example_pub_g03032_pub_circl_math_fp448_p)] }
def FnToBytesSaid : Prop := fnToBytesRow.holds Tryd.pinned (OpenSpec.ofChange fnToBytesSpec)

/-- ITS FALSE NEIGHBOUR: 'it returns false'. Refute it at one input. -/
def fnToBytesWrong : ChangeSpec := { name := "fnToBytes", vars := ["loop.example/pub-g03032/pub/circl/math/fp448.p"], fn := fun _ => fun
  | [d1, d2, g1] => { results := [.lit (.bool false)], args := [d1, d2], vars := [g1] }
  | _ => none }
def FnToBytesWrongFalsely : Prop := fnToBytesRow.holds Tryd.pinned (OpenSpec.ofChange fnToBytesWrong)

/-- 'laws.FnAddIs': WHATEVER THE INPUT: true; the input reads as it did. -/
def fnAddIsSpec : ChangeSpec := { name := "fnAddIs", vars := ["loop.example/pub-g03032/pub/circl/math/fp448.p"], fn := fun _ => fun
  | [d1, d2, g1] => { results := [.lit (.bool true)], args := [d1, d2], vars := [g1] }
  | _ => none }
def fnAddIsRow : OpenClaim := { program := "ytjnnogmlfepenaadoor", sum := "792fbfe1d784c9d84b058a7a8355cad4b4bdded76a6e3fec83f0adf7aba932c1", func := "loop.example/pub-g03032/laws.FnAddIs", spec := "fnAddIs", inPlace := ["math/bits.Add64", "math/bits.Sub64"], named := ["encoding/binary.LittleEndian", "loop.example/pub-g03032/pub/circl/math/fp448.p"], apart := false, laid := [("loop.example/pub-g03032/pub/circl/math/fp448.p", laid_loop_example_pub_g03032_pub_circl_math_fp448_p)] }
def FnAddIsSaid : Prop := fnAddIsRow.holds Tryd.pinned (OpenSpec.ofChange fnAddIsSpec)

/-- ITS FALSE NEIGHBOUR: 'it returns false'. Refute it at one input. -/
def fnAddIsWrong : ChangeSpec := { name := "fnAddIs", vars := ["loop.example/pub-g03032/pub/circl/math/fp448.p"], fn := fun _ => fun
  | [d1, d2, g1] => { results := [.lit (.bool false)], args := [d1, d2], vars := [g1] }
  | _ => none }
def FnAddIsWrongFalsely : Prop := fnAddIsRow.holds Tryd.pinned (OpenSpec.ofChange fnAddIsWrong)

/-- 'laws.FnAddSubIs': WHATEVER THE INPUT: true; the input reads as it did. -/
def fnAddSubIsSpec : ChangeSpec := { name := "fnAddSubIs", vars := ["loop.example/pub-g03032/pub/circl/math/fp448.p"], fn := fun _ => fun
  | [d1, d2, g1] => { results := [.lit (.bool true)], args := [d1, d2], vars := [g1] }
  | _ => none }
def fnAddSubIsRow : OpenClaim := { program := "ytjnnogmlfepenaadoor", sum := "792fbfe1d784c9d84b058a7a8355cad4b4bdded76a6e3fec83f0adf7aba932c1", func := "loop.example/pub-g03032/laws.FnAddSubIs", spec := "fnAddSubIs", inPlace := ["math/bits.Add64", "math/bits.Sub64"], named := ["encoding/binary.LittleEndian", "loop.example/pub-g03032/pub/circl/math/fp448.p"], apart := false, laid := [("loop.example/pub-g03032/pub/circl/math/fp448.p", laid_loop_example_pub_g03032_pub_circl_math_fp448_p)] }
def FnAddSubIsSaid : Prop := fnAddSubIsRow.holds Tryd.pinned (OpenSpec.ofChange fnAddSubIsSpec)

/-- ITS FALSE NEIGHBOUR: 'it returns false'. Refute it at one input. -/
def fnAddSubIsWrong : ChangeSpec := { name := "fnAddSubIs", vars := ["loop.example/pub-g03032/pub/circl/math/fp448.p"], fn := fun _ => fun
  | [d1, d2, g1] => { results := [.lit (.bool false)], args := [d1, d2], vars := [g1] }
  | _ => none }
def FnAddSubIsWrongFalsely : Prop := fnAddSubIsRow.holds Tryd.pinned (OpenSpec.ofChange fnAddSubIsWrong)

/-- 'laws.FnMulIs': WHATEVER THE INPUT: true; the input reads as it did. -/
def fnMulIsSpec : ChangeSpec := { name := "fnMulIs", vars := ["loop.example/pub-g03032/pub/circl/math/fp448.p"], fn := fun _ => fun
  | [d1, d2, g1] => { results := [.lit (.bool true)], args := [d1, d2], vars := [g1] }
  | _ => none }
def fnMulIsRow : OpenClaim := { program := "ytjnnogmlfepenaadoor", sum := "792fbfe1d784c9d84b058a7a8355cad4b4bdded76a6e3fec83f0adf7aba932c1", func := "loop.example/pub-g03032/laws.FnMulIs", spec := "fnMulIs", inPlace := ["math/bits.Add64", "math/bits.Sub64"], named := ["encoding/binary.LittleEndian", "loop.example/pub-g03032/pub/circl/math/fp448.p"], apart := false, laid := [("loop.example/pub-g03032/pub/circl/math/fp448.p", laid_loop_example_pub_g03032_pub_circl_math_fp448_p)] }
def FnMulIsSaid : Prop := fnMulIsRow.holds Tryd.pinned (OpenSpec.ofChange fnMulIsSpec)

/-- ITS FALSE NEIGHBOUR: 'it returns false'. Refute it at one input. -/
def fnMulIsWrong : ChangeSpec := { name := "fnMulIs", vars := ["loop.example/pub-g03032/pub/circl/math/fp448.p"], fn := fun _ => fun
  | [d1, d2, g1] => { results := [.lit (.bool false)], args := [d1, d2], vars := [g1] }
  | _ => none }
def FnMulIsWrongFalsely : Prop := fnMulIsRow.holds Tryd.pinned (OpenSpec.ofChange fnMulIsWrong)

/-- 'laws.FnSqrIs': WHATEVER THE INPUT: true; the input reads as it did. -/
def fnSqrIsSpec : ChangeSpec := { name := "fnSqrIs", vars := ["loop.example/pub-g03032/pub/circl/math/fp448.p"], fn := fun _ => fun
  | [d, g1] => { results := [.lit (.bool true)], args := [d], vars := [g1] }
  | _ => none }
def fnSqrIsRow : OpenClaim := { program := "ytjnnogmlfepenaadoor", sum := "792fbfe1d784c9d84b058a7a8355cad4b4bdded76a6e3fec83f0adf7aba932c1", func := "loop.example/pub-g03032/laws.FnSqrIs", spec := "fnSqrIs", inPlace := ["math/bits.Add64", "math/bits.Sub64"], named := ["encoding/binary.LittleEndian", "loop.example/pub-g03032/pub/circl/math/fp448.p"], apart := false, laid := [("loop.example/pub-g03032/pub/circl/math/fp448.p", laid_loop_example_pub_g03032_pub_circl_math_fp448_p)] }
def FnSqrIsSaid : Prop := fnSqrIsRow.holds Tryd.pinned (OpenSpec.ofChange fnSqrIsSpec)

/-- ITS FALSE NEIGHBOUR: 'it returns false'. Refute it at one input. -/
def fnSqrIsWrong : ChangeSpec := { name := "fnSqrIs", vars := ["loop.example/pub-g03032/pub/circl/math/fp448.p"], fn := fun _ => fun
  | [d, g1] => { results := [.lit (.bool false)], args := [d], vars := [g1] }
  | _ => none }
def FnSqrIsWrongFalsely : Prop := fnSqrIsRow.holds Tryd.pinned (OpenSpec.ofChange fnSqrIsWrong)

/-- 'laws.FnRing': WHATEVER THE INPUT: true; the input reads as it did. -/
def fnRingSpec : ChangeSpec := { name := "fnRing", vars := ["loop.example/pub-g03032/pub/circl/math/fp448.p"], fn := fun _ => fun
  | [d1, d2, d3, g1] => { results := [.lit (.bool true)], args := [d1, d2, d3], vars := [g1] }
  | _ => none }
def fnRingRow : OpenClaim := { program := "ytjnnogmlfepenaadoor", sum := "792fbfe1d784c9d84b058a7a8355cad4b4bdded76a6e3fec83f0adf7aba932c1", func := "loop.example/pub-g03032/laws.FnRing", spec := "fnRing", inPlace := ["math/bits.Add64", "math/bits.Sub64"], named := ["encoding/binary.LittleEndian", "loop.example/pub-g03032/pub/circl/math/fp448.p"], apart := false, laid := [("loop.example/pub-g03032/pub/circl/math/fp448.p", laid_loop_example_pub_g03032_pub_circl_math_fp448_p)] }
def FnRingSaid : Prop := fnRingRow.holds Tryd.pinned (OpenSpec.ofChange fnRingSpec)

/-- ITS FALSE NEIGHBOUR: 'it returns false'. Refute it at one input. -/
def fnRingWrong : ChangeSpec := { name := "fnRing", vars := ["loop.example/pub-g03032/pub/circl/math/fp448.p"], fn := fun _ => fun
  | [d1, d2, d3, g1] => { results := [.lit (.bool false)], args := [d1, d2, d3], vars := [g1] }
  | _ => none }
def FnRingWrongFalsely : Prop := fnRingRow.holds Tryd.pinned (OpenSpec.ofChange fnRingWrong)

/-- 'laws.FnInv': WHATEVER THE INPUT: true; the input reads as it did. -/
def fnInvSpec : ChangeSpec := { name := "fnInv", vars := ["loop.example/pub-g03032/pub/circl/math/fp448.p"], fn := fun _ => fun
  | [d, g1] => { results := [.lit (.bool true)], args := [d], vars := [g1] }
  | _ => none }
def fnInvRow : OpenClaim := { program := "ytjnnogmlfepenaadoor", sum := "792fbfe1d784c9d84b058a7a8355cad4b4bdded76a6e3fec83f0adf7aba932c1", func := "loop.example/pub-g03032/laws.FnInv", spec := "fnInv", inPlace := ["math/bits.Add64", "math/bits.Sub64"], named := ["encoding/binary.LittleEndian", "loop.example/pub-g03032/pub/circl/math/fp448.p"], apart := false, laid := [("loop.example/pub-g03032/pub/circl/math/fp448.p", laid_loop_example_pub_g03032_pub_circl_math_fp448_p)] }
def FnInvSaid : Prop := fnInvRow.holds Tryd.pinned (OpenSpec.ofChange fnInvSpec)

/-- ITS FALSE NEIGHBOUR: 'it returns false'. Refute it at one input. -/
def fnInvWrong : ChangeSpec := { name := "fnInv", vars := ["loop.example/pub-g03032/pub/circl/math/fp448.p"], fn := fun _ => fun
  | [d, g1] => { results := [.lit (.bool false)], args := [d], vars := [g1] }
  | _ => none }
def FnInvWrongFalsely : Prop := fnInvRow.holds Tryd.pinned (OpenSpec.ofChange fnInvWrong)

/-- 'laws.FnRoads': WHATEVER THE INPUT: true; the input reads as it did. -/
def fnRoadsSpec : ChangeSpec := { name := "fnRoads", vars := ["loop.example/pub-g03032/pub/circl/math/fp448.p"], fn := fun _ => fun
  | [d1, d2, g1] => { results := [.lit (.bool true)], args := [d1, d2], vars := [g1] }
  | _ => none }
def fnRoadsRow : OpenClaim := { program := "ytjnnogmlfepenaadoor", sum := "792fbfe1d784c9d84b058a7a8355cad4b4bdded76a6e3fec83f0adf7aba932c1", func := "loop.example/pub-g03032/laws.FnRoads", spec := "fnRoads", inPlace := ["math/bits.Add64", "math/bits.Sub64"], named := ["encoding/binary.LittleEndian", "loop.example/pub-g03032/pub/circl/math/fp448.p"], apart := false, laid := [("loop.example/pub-g03032/pub/circl/math/fp448.p", laid_loop_example_pub_g03032_pub_circl_math_fp448_p)] }
def FnRoadsSaid : Prop := fnRoadsRow.holds Tryd.pinned (OpenSpec.ofChange fnRoadsSpec)

/-- ITS FALSE NEIGHBOUR: 'it returns false'. Refute it at one input. -/
def fnRoadsWrong : ChangeSpec := { name := "fnRoads", vars := ["loop.example/pub-g03032/pub/circl/math/fp448.p"], fn := fun _ => fun
  | [d1, d2, g1] => { results := [.lit (.bool false)], args := [d1, d2], vars := [g1] }
  | _ => none }
def FnRoadsWrongFalsely : Prop := fnRoadsRow.holds Tryd.pinned (OpenSpec.ofChange fnRoadsWrong)

/- THE SECOND FORM. 'bulk': how many values and letters a reading holds, each counted each time it is reached (what is shared counts as often as it is met; a slice's spare places count too). A statement '..UptoSaid' is the law's where the arguments, and the package variables that the reading takes, are together of bulk at most 1048576: NARROWER than '..Said'. Prove '..Said' where nothing that the law and all that it calls make is longer than what came in: it says more and counts as full. Else prove '..UptoSaid'. A law counts once. -/
mutual
def uptoBulk {H : Type} : DataW H → Nat
  | .lit (.string bytes) => bytes.length + 1
  | .lit _ => 1
  | .nil => 1
  | .ptr d => uptoBulk d + 1
  | .slice elems spare => uptoBulkAll elems + uptoBulkAll spare + 1
  | .agg parts => uptoBulkAll parts + 1
  | .iface _ d => uptoBulk d + 1
  | .map entries => uptoBulkEntries entries + 1
  | .held _ => 1
def uptoBulkAll {H : Type} : List (DataW H) → Nat
  | [] => 0
  | d :: r => uptoBulk d + uptoBulkAll r
def uptoBulkEntries {H : Type} : List (Lit × DataW H) → Nat
  | [] => 0
  | x :: r => uptoBulkEntry x + uptoBulkEntries r
def uptoBulkEntry {H : Type} : Lit × DataW H → Nat
  | (.string bytes, d) => bytes.length + uptoBulk d + 1
  | (_, d) => uptoBulk d + 1
 end
def uptoSmall : (H : Type) → List (DataW H) → Bool := fun _ ds => decide (uptoBulkAll ds ≤ 1048576)
def OpenSpec.upto (s : _root_.Go.ChangeSpec) : _root_.Go.OpenSpec := { _root_.Go.OpenSpec.ofChange s with cond := some uptoSmall }

/-- 'laws.FnModpIs', WHERE WHAT IT READS IS OF BULK AT MOST 1048576: true; the input reads as it did. -/
def fnModpIsUptoRow : OpenClaim := { program := "ytjnnogmlfepenaadoor", sum := "792fbfe1d784c9d84b058a7a8355cad4b4bdded76a6e3fec83f0adf7aba932c1", func := "loop.example/pub-g03032/laws.FnModpIs", spec := "fnModpIs", inPlace := ["math/bits.Sub64"], named := ["loop.example/pub-g03032/pub/circl/math/fp448.p", "encoding/binary.LittleEndian"], apart := false, laid := [("loop.example/pub-g03032/pub/circl/math/fp448.p", laid_loop_example_pub_g03032_pub_circl_math_fp448_p)], narrowed := true }
def FnModpIsUptoSaid : Prop := fnModpIsUptoRow.holds Tryd.pinned (OpenSpec.upto fnModpIsSpec)

/-- 'laws.FnSubIs', WHERE WHAT IT READS IS OF BULK AT MOST 1048576: true; the input reads as it did. -/
def fnSubIsUptoRow : OpenClaim := { program := "ytjnnogmlfepenaadoor", sum := "792fbfe1d784c9d84b058a7a8355cad4b4bdded76a6e3fec83f0adf7aba932c1", func := "loop.example/pub-g03032/laws.FnSubIs", spec := "fnSubIs", inPlace := ["math/bits.Sub64"], named := ["encoding/binary.LittleEndian", "loop.example/pub-g03032/pub/circl/math/fp448.p"], apart := false, laid := [("loop.example/pub-g03032/pub/circl/math/fp448.p", laid_loop_example_pub_g03032_pub_circl_math_fp448_p)], narrowed := true }
def FnSubIsUptoSaid : Prop := fnSubIsUptoRow.holds Tryd.pinned (OpenSpec.upto fnSubIsSpec)

/-- 'laws.FnNegIs', WHERE WHAT IT READS IS OF BULK AT MOST 1048576: true; the input reads as it did. -/
def fnNegIsUptoRow : OpenClaim := { program := "ytjnnogmlfepenaadoor", sum := "792fbfe1d784c9d84b058a7a8355cad4b4bdded76a6e3fec83f0adf7aba932c1", func := "loop.example/pub-g03032/laws.FnNegIs", spec := "fnNegIs", inPlace := ["math/bits.Sub64"], named := ["loop.example/pub-g03032/pub/circl/math/fp448.p", "encoding/binary.LittleEndian"], apart := false, laid := [("loop.example/pub-g03032/pub/circl/math/fp448.p", laid_loop_example_pub_g03032_pub_circl_math_fp448_p)], narrowed := true }
def FnNegIsUptoSaid : Prop := fnNegIsUptoRow.holds Tryd.pinned (OpenSpec.upto fnNegIsSpec)

/-- 'laws.FnTells', WHERE WHAT IT READS IS OF BULK AT MOST 1048576: true; the input reads as it did. -/
def fnTellsUptoRow : OpenClaim := { program := "ytjnnogmlfepenaadoor", sum := "792fbfe1d784c9d84b058a7a8355cad4b4bdded76a6e3fec83f0adf7aba932c1", func := "loop.example/pub-g03032/laws.FnTells", spec := "fnTells", inPlace := ["math/bits.Sub64"], named := ["loop.example/pub-g03032/pub/circl/math/fp448.p", "encoding/binary.LittleEndian"], apart := false, laid := [("loop.example/pub-g03032/pub/circl/math/fp448.p", laid_loop_example_pub_g03032_pub_circl_math_fp448_p)], narrowed := true }
def FnTellsUptoSaid : Prop := fnTellsUptoRow.holds Tryd.pinned (OpenSpec.upto fnTellsSpec)

/-- 'laws.FnToBytes', WHERE WHAT IT READS IS OF BULK AT MOST 1048576: true; the input reads as it did. -/
def fnToBytesUptoRow : OpenClaim := { program := "ytjnnogmlfepenaadoor", sum := "792fbfe1d784c9d84b058a7a8355cad4b4bdded76a6e3fec83f0adf7aba932c1", func := "loop.example/pub-g03032/laws.FnToBytes", spec := "fnToBytes", inPlace := ["math/bits.Sub64"], named := ["loop.example/pub-g03032/pub/circl/math/fp448.p", "encoding/binary.LittleEndian"], apart := false, laid := [("loop.example/pub-g03032/pub/circl/math/fp448.p", laid_loop_example_pub_g03032_pub_circl_math_fp448_p)], narrowed := true }
def FnToBytesUptoSaid : Prop := fnToBytesUptoRow.holds Tryd.pinned (OpenSpec.upto fnToBytesSpec)

/-- 'laws.FnAddIs', WHERE WHAT IT READS IS OF BULK AT MOST 1048576: true; the input reads as it did. -/
def fnAddIsUptoRow : OpenClaim := { program := "ytjnnogmlfepenaadoor", sum := "792fbfe1d784c9d84b058a7a8355cad4b4bdded76a6e3fec83f0adf7aba932c1", func := "loop.example/pub-g03032/laws.FnAddIs", spec := "fnAddIs", inPlace := ["math/bits.Add64", "math/bits.Sub64"], named := ["encoding/binary.LittleEndian", "loop.example/pub-g03032/pub/circl/math/fp448.p"], apart := false, laid := [("loop.example/pub-g03032/pub/circl/math/fp448.p", laid_loop_example_pub_g03032_pub_circl_math_fp448_p)], narrowed := true }
def FnAddIsUptoSaid : Prop := fnAddIsUptoRow.holds Tryd.pinned (OpenSpec.upto fnAddIsSpec)

/-- 'laws.FnAddSubIs', WHERE WHAT IT READS IS OF BULK AT MOST 1048576: true; the input reads as it did. -/
def fnAddSubIsUptoRow : OpenClaim := { program := "ytjnnogmlfepenaadoor", sum := "792fbfe1d784c9d84b058a7a8355cad4b4bdded76a6e3fec83f0adf7aba932c1", func := "loop.example/pub-g03032/laws.FnAddSubIs", spec := "fnAddSubIs", inPlace := ["math/bits.Add64", "math/bits.Sub64"], named := ["encoding/binary.LittleEndian", "loop.example/pub-g03032/pub/circl/math/fp448.p"], apart := false, laid := [("loop.example/pub-g03032/pub/circl/math/fp448.p", laid_loop_example_pub_g03032_pub_circl_math_fp448_p)], narrowed := true }
def FnAddSubIsUptoSaid : Prop := fnAddSubIsUptoRow.holds Tryd.pinned (OpenSpec.upto fnAddSubIsSpec)

/-- 'laws.FnMulIs', WHERE WHAT IT READS IS OF BULK AT MOST 1048576: true; the input reads as it did. -/
def fnMulIsUptoRow : OpenClaim := { program := "ytjnnogmlfepenaadoor", sum := "792fbfe1d784c9d84b058a7a8355cad4b4bdded76a6e3fec83f0adf7aba932c1", func := "loop.example/pub-g03032/laws.FnMulIs", spec := "fnMulIs", inPlace := ["math/bits.Add64", "math/bits.Sub64"], named := ["encoding/binary.LittleEndian", "loop.example/pub-g03032/pub/circl/math/fp448.p"], apart := false, laid := [("loop.example/pub-g03032/pub/circl/math/fp448.p", laid_loop_example_pub_g03032_pub_circl_math_fp448_p)], narrowed := true }
def FnMulIsUptoSaid : Prop := fnMulIsUptoRow.holds Tryd.pinned (OpenSpec.upto fnMulIsSpec)

/-- 'laws.FnSqrIs', WHERE WHAT IT READS IS OF BULK AT MOST 1048576: true; the input reads as it did. -/
def fnSqrIsUptoRow : OpenClaim := { program := "ytjnnogmlfepenaadoor", sum := "792fbfe1d784c9d84b058a7a8355cad4b4bdded76a6e3fec83f0adf7aba932c1", func := "loop.example/pub-g03032/laws.FnSqrIs", spec := "fnSqrIs", inPlace := ["math/bits.Add64", "math/bits.Sub64"], named := ["encoding/binary.LittleEndian", "loop.example/pub-g03032/pub/circl/math/fp448.p"], apart := false, laid := [("loop.example/pub-g03032/pub/circl/math/fp448.p", laid_loop_example_pub_g03032_pub_circl_math_fp448_p)], narrowed := true }
def FnSqrIsUptoSaid : Prop := fnSqrIsUptoRow.holds Tryd.pinned (OpenSpec.upto fnSqrIsSpec)

/-- 'laws.FnRing', WHERE WHAT IT READS IS OF BULK AT MOST 1048576: true; the input reads as it did. -/
def fnRingUptoRow : OpenClaim := { program := "ytjnnogmlfepenaadoor", sum := "792fbfe1d784c9d84b058a7a8355cad4b4bdded76a6e3fec83f0adf7aba932c1", func := "loop.example/pub-g03032/laws.FnRing", spec := "fnRing", inPlace := ["math/bits.Add64", "math/bits.Sub64"], named := ["encoding/binary.LittleEndian", "loop.example/pub-g03032/pub/circl/math/fp448.p"], apart := false, laid := [("loop.example/pub-g03032/pub/circl/math/fp448.p", laid_loop_example_pub_g03032_pub_circl_math_fp448_p)], narrowed := true }
def FnRingUptoSaid : Prop := fnRingUptoRow.holds Tryd.pinned (OpenSpec.upto fnRingSpec)

/-- 'laws.FnInv', WHERE WHAT IT READS IS OF BULK AT MOST 1048576: true; the input reads as it did. -/
def fnInvUptoRow : OpenClaim := { program := "ytjnnogmlfepenaadoor", sum := "792fbfe1d784c9d84b058a7a8355cad4b4bdded76a6e3fec83f0adf7aba932c1", func := "loop.example/pub-g03032/laws.FnInv", spec := "fnInv", inPlace := ["math/bits.Add64", "math/bits.Sub64"], named := ["encoding/binary.LittleEndian", "loop.example/pub-g03032/pub/circl/math/fp448.p"], apart := false, laid := [("loop.example/pub-g03032/pub/circl/math/fp448.p", laid_loop_example_pub_g03032_pub_circl_math_fp448_p)], narrowed := true }
def FnInvUptoSaid : Prop := fnInvUptoRow.holds Tryd.pinned (OpenSpec.upto fnInvSpec)

/-- 'laws.FnRoads', WHERE WHAT IT READS IS OF BULK AT MOST 1048576: true; the input reads as it did. -/
def fnRoadsUptoRow : OpenClaim := { program := "ytjnnogmlfepenaadoor", sum := "792fbfe1d784c9d84b058a7a8355cad4b4bdded76a6e3fec83f0adf7aba932c1", func := "loop.example/pub-g03032/laws.FnRoads", spec := "fnRoads", inPlace := ["math/bits.Add64", "math/bits.Sub64"], named := ["encoding/binary.LittleEndian", "loop.example/pub-g03032/pub/circl/math/fp448.p"], apart := false, laid := [("loop.example/pub-g03032/pub/circl/math/fp448.p", laid_loop_example_pub_g03032_pub_circl_math_fp448_p)], narrowed := true }
def FnRoadsUptoSaid : Prop := fnRoadsUptoRow.holds Tryd.pinned (OpenSpec.upto fnRoadsSpec)

end Rows
end Go.Proofs.YtjnnogmlfepenaaDoor
