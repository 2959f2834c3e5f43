/-
  NARROWER THAN 'FOR EVERY INPUT', by the rows' own cells (each row's printed sentence says how): FnScalarRedIs: laid · FnScalarNegIs: laid · FnScalarIs: laid · FnScalarMulIs: laid · FnScalarFromIs: laid.
  DERIVED. THE GIVEN ROWS OF THIS SEAT. 5 by the template 'for every input the law returns true; each argument reads behind the call as it read before'; 0 by the template 'total and deterministic' (their statements: YtflbkfjemmmipaaDoorTotals.lean).
  GIVEN WITH THE SEED: the statements are not yours to turn. If you find one false, say at which input.
  Laid BY PROGRAM, IN A SANDBOX (cutbox-rows.mjs): the forced cells as the released guide's own fill.sh prints them over the translation 5131a1f256f0814e… (all of the seat's roots in one cut). By AI agents, Wed Nov 11 2026. No macro, syntax, notation, axiom, sorry.
-/
import Derived.Test.YtflbkfjemmmipaaDoorChecked
import GoSem.Claim
import GoSem.ClaimJoined
import GoSem.ClaimMapViews
import Derived.JoinedTies
import Derived.KernelRfl
namespace Go.Proofs.YtflbkfjemmmipaaDoor
/- THE CELL 'sum', in the pinned program and in every row, IS THE sha256 OF THE DUMP (.gsa) THAT YtflbkfjemmmipaaDoorProg.lean LOADS. Nothing in Lean hashes anything: it is a label: what it is worth is what the hold of that sum in a sandbox is worth. -/
noncomputable def Tryd.pinned : Pinned := { name := "ytflbkfjemmmipaadoor", sum := "5131a1f256f0814efdd68f2abe9d2df6f2d1d54de44581f9736a470fee5098f1", checked := Tryd.checked }
namespace Rows
def none {H : Type} : Left H := { results := [], args := [] }

/- WHAT THE LISTED PACKAGE-LEVEL VARIABLES READ AS WHEN THE CALL BEGINS. Each datum BY PROGRAM (the guide's laid-datum.mjs) off the statement by which the dump's own 'gosem.cut.vars' lays the variable. In a bare row this is a premise. The card (YtflbkfjemmmipaaDoorCards.lean) ties it to the program's text. -/
def laid_loop_example_pub_g03032_pub_circl_ecc_goldilocks_order {H : Type} : DataW H := .agg [.lit (.int .u8 243), .lit (.int .u8 68), .lit (.int .u8 88), .lit (.int .u8 171), .lit (.int .u8 146), .lit (.int .u8 194), .lit (.int .u8 120), .lit (.int .u8 35), .lit (.int .u8 85), .lit (.int .u8 143), .lit (.int .u8 197), .lit (.int .u8 141), .lit (.int .u8 114), .lit (.int .u8 194), .lit (.int .u8 108), .lit (.int .u8 33), .lit (.int .u8 144), .lit (.int .u8 54), .lit (.int .u8 214), .lit (.int .u8 174), .lit (.int .u8 73), .lit (.int .u8 219), .lit (.int .u8 78), .lit (.int .u8 196), .lit (.int .u8 233), .lit (.int .u8 35), .lit (.int .u8 202), .lit (.int .u8 124), .lit (.int .u8 255), .lit (.int .u8 255), .lit (.int .u8 255), .lit (.int .u8 255), .lit (.int .u8 255), .lit (.int .u8 255), .lit (.int .u8 255), .lit (.int .u8 255), .lit (.int .u8 255), .lit (.int .u8 255), .lit (.int .u8 255), .lit (.int .u8 255), .lit (.int .u8 255), .lit (.int .u8 255), .lit (.int .u8 255), .lit (.int .u8 255), .lit (.int .u8 255), .lit (.int .u8 255), .lit (.int .u8 255), .lit (.int .u8 255), .lit (.int .u8 255), .lit (.int .u8 255), .lit (.int .u8 255), .lit (.int .u8 255), .lit (.int .u8 255), .lit (.int .u8 255), .lit (.int .u8 255), .lit (.int .u8 63)]
def laid_loop_example_pub_g03032_pub_circl_ecc_goldilocks_residue448 {H : Type} : DataW H := .agg [.lit (.int .u64 8222717178795715636), .lit (.int .u64 8812689281721680555), .lit (.int .u64 17205037938319500735), .lit (.int .u64 8805380184)]

/-- 'laws.FnScalarRedIs': WHATEVER THE INPUT: true; the input reads as it did. -/
def fnScalarRedIsSpec : ChangeSpec := { name := "fnScalarRedIs", vars := ["loop.example/pub-g03032/pub/circl/ecc/goldilocks.order"], fn := fun _ => fun
  | [d, g1] => { results := [.lit (.bool true)], args := [d], vars := [g1] }
  | _ => none }
def fnScalarRedIsRow : OpenClaim := { program := "ytflbkfjemmmipaadoor", sum := "5131a1f256f0814efdd68f2abe9d2df6f2d1d54de44581f9736a470fee5098f1", func := "loop.example/pub-g03032/laws.FnScalarRedIs", spec := "fnScalarRedIs", inPlace := ["math/bits.Sub64"], named := ["encoding/binary.LittleEndian", "loop.example/pub-g03032/pub/circl/ecc/goldilocks.order"], apart := false, laid := [("loop.example/pub-g03032/pub/circl/ecc/goldilocks.order", laid_loop_example_pub_g03032_pub_circl_ecc_goldilocks_order)] }
def FnScalarRedIsSaid : Prop := fnScalarRedIsRow.holds Tryd.pinned (OpenSpec.ofChange fnScalarRedIsSpec)

/-- ITS FALSE NEIGHBOUR: 'it returns false'. Refute it at one input. -/
def fnScalarRedIsWrong : ChangeSpec := { name := "fnScalarRedIs", vars := ["loop.example/pub-g03032/pub/circl/ecc/goldilocks.order"], fn := fun _ => fun
  | [d, g1] => { results := [.lit (.bool false)], args := [d], vars := [g1] }
  | _ => none }
def FnScalarRedIsWrongFalsely : Prop := fnScalarRedIsRow.holds Tryd.pinned (OpenSpec.ofChange fnScalarRedIsWrong)

/-- 'laws.FnScalarNegIs': WHATEVER THE INPUT: true; the input reads as it did. -/
def fnScalarNegIsSpec : ChangeSpec := { name := "fnScalarNegIs", vars := ["loop.example/pub-g03032/pub/circl/ecc/goldilocks.order", "loop.example/pub-g03032/pub/circl/ecc/goldilocks.residue448"], fn := fun _ => fun
  | [d, g1, g2] => { results := [.lit (.bool true)], args := [d], vars := [g1, g2] }
  | _ => none }
def fnScalarNegIsRow : OpenClaim := { program := "ytflbkfjemmmipaadoor", sum := "5131a1f256f0814efdd68f2abe9d2df6f2d1d54de44581f9736a470fee5098f1", func := "loop.example/pub-g03032/laws.FnScalarNegIs", spec := "fnScalarNegIs", inPlace := ["math/bits.Sub64"], named := ["loop.example/pub-g03032/pub/circl/ecc/goldilocks.order", "loop.example/pub-g03032/pub/circl/ecc/goldilocks.residue448", "encoding/binary.LittleEndian"], apart := false, laid := [("loop.example/pub-g03032/pub/circl/ecc/goldilocks.order", laid_loop_example_pub_g03032_pub_circl_ecc_goldilocks_order), ("loop.example/pub-g03032/pub/circl/ecc/goldilocks.residue448", laid_loop_example_pub_g03032_pub_circl_ecc_goldilocks_residue448)] }
def FnScalarNegIsSaid : Prop := fnScalarNegIsRow.holds Tryd.pinned (OpenSpec.ofChange fnScalarNegIsSpec)

/-- ITS FALSE NEIGHBOUR: 'it returns false'. Refute it at one input. -/
def fnScalarNegIsWrong : ChangeSpec := { name := "fnScalarNegIs", vars := ["loop.example/pub-g03032/pub/circl/ecc/goldilocks.order", "loop.example/pub-g03032/pub/circl/ecc/goldilocks.residue448"], fn := fun _ => fun
  | [d, g1, g2] => { results := [.lit (.bool false)], args := [d], vars := [g1, g2] }
  | _ => none }
def FnScalarNegIsWrongFalsely : Prop := fnScalarNegIsRow.holds Tryd.pinned (OpenSpec.ofChange fnScalarNegIsWrong)

/-- 'laws.FnScalarIs': WHATEVER THE INPUT: true; the input reads as it did. -/
def fnScalarIsSpec : ChangeSpec := { name := "fnScalarIs", vars := ["loop.example/pub-g03032/pub/circl/ecc/goldilocks.residue448", "loop.example/pub-g03032/pub/circl/ecc/goldilocks.order"], fn := fun _ => fun
  | [d1, d2, g1, g2] => { results := [.lit (.bool true)], args := [d1, d2], vars := [g1, g2] }
  | _ => none }
def fnScalarIsRow : OpenClaim := { program := "ytflbkfjemmmipaadoor", sum := "5131a1f256f0814efdd68f2abe9d2df6f2d1d54de44581f9736a470fee5098f1", func := "loop.example/pub-g03032/laws.FnScalarIs", spec := "fnScalarIs", inPlace := ["math/bits.Add64", "math/bits.Sub64"], named := ["loop.example/pub-g03032/pub/circl/ecc/goldilocks.residue448", "encoding/binary.LittleEndian", "loop.example/pub-g03032/pub/circl/ecc/goldilocks.order"], apart := false, laid := [("loop.example/pub-g03032/pub/circl/ecc/goldilocks.order", laid_loop_example_pub_g03032_pub_circl_ecc_goldilocks_order), ("loop.example/pub-g03032/pub/circl/ecc/goldilocks.residue448", laid_loop_example_pub_g03032_pub_circl_ecc_goldilocks_residue448)] }
def FnScalarIsSaid : Prop := fnScalarIsRow.holds Tryd.pinned (OpenSpec.ofChange fnScalarIsSpec)

/-- ITS FALSE NEIGHBOUR: 'it returns false'. Refute it at one input. -/
def fnScalarIsWrong : ChangeSpec := { name := "fnScalarIs", vars := ["loop.example/pub-g03032/pub/circl/ecc/goldilocks.residue448", "loop.example/pub-g03032/pub/circl/ecc/goldilocks.order"], fn := fun _ => fun
  | [d1, d2, g1, g2] => { results := [.lit (.bool false)], args := [d1, d2], vars := [g1, g2] }
  | _ => none }
def FnScalarIsWrongFalsely : Prop := fnScalarIsRow.holds Tryd.pinned (OpenSpec.ofChange fnScalarIsWrong)

/-- 'laws.FnScalarMulIs': WHATEVER THE INPUT: true; the input reads as it did. -/
def fnScalarMulIsSpec : ChangeSpec := { name := "fnScalarMulIs", vars := ["loop.example/pub-g03032/pub/circl/ecc/goldilocks.residue448", "loop.example/pub-g03032/pub/circl/ecc/goldilocks.order"], fn := fun _ => fun
  | [d1, d2, g1, g2] => { results := [.lit (.bool true)], args := [d1, d2], vars := [g1, g2] }
  | _ => none }
def fnScalarMulIsRow : OpenClaim := { program := "ytflbkfjemmmipaadoor", sum := "5131a1f256f0814efdd68f2abe9d2df6f2d1d54de44581f9736a470fee5098f1", func := "loop.example/pub-g03032/laws.FnScalarMulIs", spec := "fnScalarMulIs", inPlace := ["math/bits.Add64", "math/bits.Sub64"], named := ["encoding/binary.LittleEndian", "loop.example/pub-g03032/pub/circl/ecc/goldilocks.residue448", "loop.example/pub-g03032/pub/circl/ecc/goldilocks.order"], apart := false, laid := [("loop.example/pub-g03032/pub/circl/ecc/goldilocks.order", laid_loop_example_pub_g03032_pub_circl_ecc_goldilocks_order), ("loop.example/pub-g03032/pub/circl/ecc/goldilocks.residue448", laid_loop_example_pub_g03032_pub_circl_ecc_goldilocks_residue448)] }
def FnScalarMulIsSaid : Prop := fnScalarMulIsRow.holds Tryd.pinned (OpenSpec.ofChange fnScalarMulIsSpec)

/-- ITS FALSE NEIGHBOUR: 'it returns false'. Refute it at one input. -/
def fnScalarMulIsWrong : ChangeSpec := { name := "fnScalarMulIs", vars := ["loop.example/pub-g03032/pub/circl/ecc/goldilocks.residue448", "loop.example/pub-g03032/pub/circl/ecc/goldilocks.order"], fn := fun _ => fun
  | [d1, d2, g1, g2] => { results := [.lit (.bool false)], args := [d1, d2], vars := [g1, g2] }
  | _ => none }
def FnScalarMulIsWrongFalsely : Prop := fnScalarMulIsRow.holds Tryd.pinned (OpenSpec.ofChange fnScalarMulIsWrong)

/-- 'laws.FnScalarFromIs': WHATEVER THE INPUT: true; the input reads as it did. -/
def fnScalarFromIsSpec : ChangeSpec := { name := "fnScalarFromIs", vars := ["loop.example/pub-g03032/pub/circl/ecc/goldilocks.residue448", "loop.example/pub-g03032/pub/circl/ecc/goldilocks.order"], fn := fun _ => fun
  | [d, g1, g2] => { results := [.lit (.bool true)], args := [d], vars := [g1, g2] }
  | _ => none }
def fnScalarFromIsRow : OpenClaim := { program := "ytflbkfjemmmipaadoor", sum := "5131a1f256f0814efdd68f2abe9d2df6f2d1d54de44581f9736a470fee5098f1", func := "loop.example/pub-g03032/laws.FnScalarFromIs", spec := "fnScalarFromIs", inPlace := ["math/bits.Add64", "math/bits.Sub64"], named := ["encoding/binary.LittleEndian", "loop.example/pub-g03032/pub/circl/ecc/goldilocks.residue448", "loop.example/pub-g03032/pub/circl/ecc/goldilocks.order"], apart := false, laid := [("loop.example/pub-g03032/pub/circl/ecc/goldilocks.order", laid_loop_example_pub_g03032_pub_circl_ecc_goldilocks_order), ("loop.example/pub-g03032/pub/circl/ecc/goldilocks.residue448", laid_loop_example_pub_g03032_pub_circl_ecc_goldilocks_residue448)] }
def FnScalarFromIsSaid : Prop := fnScalarFromIsRow.holds Tryd.pinned (OpenSpec.ofChange fnScalarFromIsSpec)

/-- ITS FALSE NEIGHBOUR: 'it returns false'. Refute it at one input. -/
def fnScalarFromIsWrong : ChangeSpec := { name := "fnScalarFromIs", vars := ["loop.example/pub-g03032/pub/circl/ecc/goldilocks.residue448", "loop.example/pub-g03032/pub/circl/ecc/goldilocks.order"], fn := fun _ => fun
  | [d, g1, g2] => { results := [.lit (.bool false)], args := [d], vars := [g1, g2] }
  | _ => none }
def FnScalarFromIsWrongFalsely : Prop := fnScalarFromIsRow.holds Tryd.pinned (OpenSpec.ofChange fnScalarFromIsWrong)

/- THE SECOND FORM. 'bulk': how many values and letters a reading holds, each counted each time it is reached (what is shared counts as often as it is met; a slice's spare places count too). A statement '..UptoSaid' is the law's where the arguments, and the package variables that the reading takes, are together of bulk at most 1048576: NARROWER than '..Said'. Prove '..Said' where nothing that the law and all that it calls make is longer than what came in: it says more and counts as full. Else prove '..UptoSaid'. A law counts once. -/
mutual
def uptoBulk {H : Type} : DataW H → Nat
  | .lit (.string bytes) => bytes.length + 1
  | .lit _ => 1
  | .nil => 1
  | .ptr d => uptoBulk d + 1
  | .slice elems spare => uptoBulkAll elems + uptoBulkAll spare + 1
  | .agg parts => uptoBulkAll parts + 1
  | .iface _ d => uptoBulk d + 1
  | .map entries => uptoBulkEntries entries + 1
  | .held _ => 1
def uptoBulkAll {H : Type} : List (DataW H) → Nat
  | [] => 0
  | d :: r => uptoBulk d + uptoBulkAll r
def uptoBulkEntries {H : Type} : List (Lit × DataW H) → Nat
  | [] => 0
  | x :: r => uptoBulkEntry x + uptoBulkEntries r
def uptoBulkEntry {H : Type} : Lit × DataW H → Nat
  | (.string bytes, d) => bytes.length + uptoBulk d + 1
  | (_, d) => uptoBulk d + 1
 end
def uptoSmall : (H : Type) → List (DataW H) → Bool := fun _ ds => decide (uptoBulkAll ds ≤ 1048576)
def OpenSpec.upto (s : _root_.Go.ChangeSpec) : _root_.Go.OpenSpec := { _root_.Go.OpenSpec.ofChange s with cond := some uptoSmall }

/-- 'laws.FnScalarRedIs', WHERE WHAT IT READS IS OF BULK AT MOST 1048576: true; the input reads as it did. -/
def fnScalarRedIsUptoRow : OpenClaim := { program := "ytflbkfjemmmipaadoor", sum := "5131a1f256f0814efdd68f2abe9d2df6f2d1d54de44581f9736a470fee5098f1", func := "loop.example/pub-g03032/laws.FnScalarRedIs", spec := "fnScalarRedIs", inPlace := ["math/bits.Sub64"], named := ["encoding/binary.LittleEndian", "loop.example/pub-g03032/pub/circl/ecc/goldilocks.order"], apart := false, laid := [("loop.example/pub-g03032/pub/circl/ecc/goldilocks.order", laid_loop_example_pub_g03032_pub_circl_ecc_goldilocks_order)], narrowed := true }
def FnScalarRedIsUptoSaid : Prop := fnScalarRedIsUptoRow.holds Tryd.pinned (OpenSpec.upto fnScalarRedIsSpec)

/-- 'laws.FnScalarNegIs', WHERE WHAT IT READS IS OF BULK AT MOST 1048576: true; the input reads as it did. -/
def fnScalarNegIsUptoRow : OpenClaim := { program := "ytflbkfjemmmipaadoor", sum := "5131a1f256f0814efdd68f2abe9d2df6f2d1d54de44581f9736a470fee5098f1", func := "loop.example/pub-g03032/laws.FnScalarNegIs", spec := "fnScalarNegIs", inPlace := ["math/bits.Sub64"], named := ["loop.example/pub-g03032/pub/circl/ecc/goldilocks.order", "loop.example/pub-g03032/pub/circl/ecc/goldilocks.residue448", "encoding/binary.LittleEndian"], apart := false, laid := [("loop.example/pub-g03032/pub/circl/ecc/goldilocks.order", laid_loop_example_pub_g03032_pub_circl_ecc_goldilocks_order), ("loop.example/pub-g03032/pub/circl/ecc/goldilocks.residue448", laid_loop_example_pub_g03032_pub_circl_ecc_goldilocks_residue448)], narrowed := true }
def FnScalarNegIsUptoSaid : Prop := fnScalarNegIsUptoRow.holds Tryd.pinned (OpenSpec.upto fnScalarNegIsSpec)

/-- 'laws.FnScalarIs', WHERE WHAT IT READS IS OF BULK AT MOST 1048576: true; the input reads as it did. -/
def fnScalarIsUptoRow : OpenClaim := { program := "ytflbkfjemmmipaadoor", sum := "5131a1f256f0814efdd68f2abe9d2df6f2d1d54de44581f9736a470fee5098f1", func := "loop.example/pub-g03032/laws.FnScalarIs", spec := "fnScalarIs", inPlace := ["math/bits.Add64", "math/bits.Sub64"], named := ["loop.example/pub-g03032/pub/circl/ecc/goldilocks.residue448", "encoding/binary.LittleEndian", "loop.example/pub-g03032/pub/circl/ecc/goldilocks.order"], apart := false, laid := [("loop.example/pub-g03032/pub/circl/ecc/goldilocks.order", laid_loop_example_pub_g03032_pub_circl_ecc_goldilocks_order), ("loop.example/pub-g03032/pub/circl/ecc/goldilocks.residue448", laid_loop_example_pub_g03032_pub_circl_ecc_goldilocks_residue448)], narrowed := true }
def FnScalarIsUptoSaid : Prop := fnScalarIsUptoRow.holds Tryd.pinned (OpenSpec.upto fnScalarIsSpec)

/-- 'laws.FnScalarMulIs', WHERE WHAT IT READS IS OF BULK AT MOST 1048576: true; the input reads as it did. -/
def fnScalarMulIsUptoRow : OpenClaim := { program := "ytflbkfjemmmipaadoor", sum := "5131a1f256f0814efdd68f2abe9d2df6f2d1d54de44581f9736a470fee5098f1", func := "loop.example/pub-g03032/laws.FnScalarMulIs", spec := "fnScalarMulIs", inPlace := ["math/bits.Add64", "math/bits.Sub64"], named := ["encoding/binary.LittleEndian", "loop.example/pub-g03032/pub/circl/ecc/goldilocks.residue448", "loop.example/pub-g03032/pub/circl/ecc/goldilocks.order"], apart := false, laid := [("loop.example/pub-g03032/pub/circl/ecc/goldilocks.order", laid_loop_example_pub_g03032_pub_circl_ecc_goldilocks_order), ("loop.example/pub-g03032/pub/circl/ecc/goldilocks.residue448", laid_loop_example_pub_g03032_pub_circl_ecc_goldilocks_residue448)], narrowed := true }
def FnScalarMulIsUptoSaid : Prop := fnScalarMulIsUptoRow.holds Tryd.pinned (OpenSpec.upto fnScalarMulIsSpec)

/-- 'laws.FnScalarFromIs', WHERE WHAT IT READS IS OF BULK AT MOST 1048576: true; the input reads as it did. -/
def fnScalarFromIsUptoRow : OpenClaim := { program := "ytflbkfjemmmipaadoor", sum := "5131a1f256f0814efdd68f2abe9d2df6f2d1d54de44581f9736a470fee5098f1", func := "loop.example/pub-g03032/laws.FnScalarFromIs", spec := "fnScalarFromIs", inPlace := ["math/bits.Add64", "math/bits.Sub64"], named := ["encoding/binary.LittleEndian", "loop.example/pub-g03032/pub/circl/ecc/goldilocks.residue448", "loop.example/pub-g03032/pub/circl/ecc/goldilocks.order"], apart := false, laid := [("loop.example/pub-g03032/pub/circl/ecc/goldilocks.order", laid_loop_example_pub_g03032_pub_circl_ecc_goldilocks_order), ("loop.example/pub-g03032/pub/circl/ecc/goldilocks.residue448", laid_loop_example_pub_g03032_pub_circl_ecc_goldilocks_residue448)], narrowed := true }
def FnScalarFromIsUptoSaid : Prop := fnScalarFromIsUptoRow.holds Tryd.pinned (OpenSpec.upto fnScalarFromIsSpec)

end Rows
end Go.Proofs.YtflbkfjemmmipaaDoor
