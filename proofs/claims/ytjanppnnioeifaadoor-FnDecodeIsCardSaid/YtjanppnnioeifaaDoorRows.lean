/-
  NARROWER THAN 'FOR EVERY INPUT', by the rows' own cells (each row's printed sentence says how): FnSameIs: laid · FnDecodeIs: laid · FnOnCurveIs: laid · FnBase: laid · FnEncodeIs: laid · FnTwiceIs: laid · FnPlusIs: laid · FnGroup: laid · FnMinusIs: laid · FnDecodeEncode: laid.
  DERIVED. THE GIVEN ROWS OF THIS SEAT. 10 by the template 'for every input the law returns true; each argument reads behind the call as it read before'; 0 by the template 'total and deterministic' (their statements: YtjanppnnioeifaaDoorTotals.lean).
  GIVEN WITH THE SEED: the statements are not yours to turn. If you find one false, say at which input.
  Laid BY PROGRAM, IN A SANDBOX (cutbox-rows.mjs): the forced cells as the released guide's own fill.sh prints them over the translation c4cadfcdf344b472… (all of the seat's roots in one cut). By AI agents, Wed Nov 11 2026. No macro, syntax, notation, axiom, sorry.
-/
import Derived.Test.YtjanppnnioeifaaDoorChecked
import GoSem.Claim
import GoSem.ClaimJoined
import GoSem.ClaimMapViews
import Derived.JoinedTies
import Derived.KernelRfl
namespace Go.Proofs.YtjanppnnioeifaaDoor
/- THE CELL 'sum', in the pinned program and in every row, IS THE sha256 OF THE DUMP (.gsa) THAT YtjanppnnioeifaaDoorProg.lean LOADS. Nothing in Lean hashes anything: it is a label: what it is worth is what the hold of that sum in a sandbox is worth. -/
noncomputable def Tryd.pinned : Pinned := { name := "ytjanppnnioeifaadoor", sum := "c4cadfcdf344b472d0ff8b4c9fb8ee6e26670bb48894e1237f4f3579ec9d84e4", checked := Tryd.checked }
namespace Rows
def none {H : Type} : Left H := { results := [], args := [] }

/- WHAT THE LISTED PACKAGE-LEVEL VARIABLES READ AS WHEN THE CALL BEGINS. Each datum BY PROGRAM (the guide's laid-datum.mjs) off the statement by which the dump's own 'gosem.cut.vars' lays the variable. In a bare row this is a premise. The card (YtjanppnnioeifaaDoorCards.lean) ties it to the program's text. -/
def laid_loop_example_pub_g03032_pub_circl_math_fp448_p {H : Type} : DataW H := .agg [.lit (.int .u8 255), .lit (.int .u8 255), .lit (.int .u8 255), .lit (.int .u8 255), .lit (.int .u8 255), .lit (.int .u8 255), .lit (.int .u8 255), .lit (.int .u8 255), .lit (.int .u8 255), .lit (.int .u8 255), .lit (.int .u8 255), .lit (.int .u8 255), .lit (.int .u8 255), .lit (.int .u8 255), .lit (.int .u8 255), .lit (.int .u8 255), .lit (.int .u8 255), .lit (.int .u8 255), .lit (.int .u8 255), .lit (.int .u8 255), .lit (.int .u8 255), .lit (.int .u8 255), .lit (.int .u8 255), .lit (.int .u8 255), .lit (.int .u8 255), .lit (.int .u8 255), .lit (.int .u8 255), .lit (.int .u8 255), .lit (.int .u8 254), .lit (.int .u8 255), .lit (.int .u8 255), .lit (.int .u8 255), .lit (.int .u8 255), .lit (.int .u8 255), .lit (.int .u8 255), .lit (.int .u8 255), .lit (.int .u8 255), .lit (.int .u8 255), .lit (.int .u8 255), .lit (.int .u8 255), .lit (.int .u8 255), .lit (.int .u8 255), .lit (.int .u8 255), .lit (.int .u8 255), .lit (.int .u8 255), .lit (.int .u8 255), .lit (.int .u8 255), .lit (.int .u8 255), .lit (.int .u8 255), .lit (.int .u8 255), .lit (.int .u8 255), .lit (.int .u8 255), .lit (.int .u8 255), .lit (.int .u8 255), .lit (.int .u8 255), .lit (.int .u8 255)]
def laid_loop_example_pub_g03032_pub_circl_ecc_goldilocks_paramD {H : Type} : DataW H := .agg [.lit (.int .u8 86), .lit (.int .u8 103), .lit (.int .u8 255), .lit (.int .u8 255), .lit (.int .u8 255), .lit (.int .u8 255), .lit (.int .u8 255), .lit (.int .u8 255), .lit (.int .u8 255), .lit (.int .u8 255), .lit (.int .u8 255), .lit (.int .u8 255), .lit (.int .u8 255), .lit (.int .u8 255), .lit (.int .u8 255), .lit (.int .u8 255), .lit (.int .u8 255), .lit (.int .u8 255), .lit (.int .u8 255), .lit (.int .u8 255), .lit (.int .u8 255), .lit (.int .u8 255), .lit (.int .u8 255), .lit (.int .u8 255), .lit (.int .u8 255), .lit (.int .u8 255), .lit (.int .u8 255), .lit (.int .u8 255), .lit (.int .u8 254), .lit (.int .u8 255), .lit (.int .u8 255), .lit (.int .u8 255), .lit (.int .u8 255), .lit (.int .u8 255), .lit (.int .u8 255), .lit (.int .u8 255), .lit (.int .u8 255), .lit (.int .u8 255), .lit (.int .u8 255), .lit (.int .u8 255), .lit (.int .u8 255), .lit (.int .u8 255), .lit (.int .u8 255), .lit (.int .u8 255), .lit (.int .u8 255), .lit (.int .u8 255), .lit (.int .u8 255), .lit (.int .u8 255), .lit (.int .u8 255), .lit (.int .u8 255), .lit (.int .u8 255), .lit (.int .u8 255), .lit (.int .u8 255), .lit (.int .u8 255), .lit (.int .u8 255), .lit (.int .u8 255)]
def laid_loop_example_pub_g03032_pub_circl_ecc_goldilocks_genX {H : Type} : DataW H := .agg [.lit (.int .u8 94), .lit (.int .u8 192), .lit (.int .u8 12), .lit (.int .u8 199), .lit (.int .u8 43), .lit (.int .u8 168), .lit (.int .u8 38), .lit (.int .u8 38), .lit (.int .u8 142), .lit (.int .u8 147), .lit (.int .u8 0), .lit (.int .u8 139), .lit (.int .u8 225), .lit (.int .u8 128), .lit (.int .u8 59), .lit (.int .u8 67), .lit (.int .u8 17), .lit (.int .u8 101), .lit (.int .u8 182), .lit (.int .u8 42), .lit (.int .u8 247), .lit (.int .u8 26), .lit (.int .u8 174), .lit (.int .u8 18), .lit (.int .u8 100), .lit (.int .u8 164), .lit (.int .u8 211), .lit (.int .u8 163), .lit (.int .u8 36), .lit (.int .u8 227), .lit (.int .u8 109), .lit (.int .u8 234), .lit (.int .u8 103), .lit (.int .u8 23), .lit (.int .u8 15), .lit (.int .u8 71), .lit (.int .u8 112), .lit (.int .u8 101), .lit (.int .u8 20), .lit (.int .u8 158), .lit (.int .u8 218), .lit (.int .u8 54), .lit (.int .u8 191), .lit (.int .u8 34), .lit (.int .u8 166), .lit (.int .u8 21), .lit (.int .u8 29), .lit (.int .u8 34), .lit (.int .u8 237), .lit (.int .u8 13), .lit (.int .u8 237), .lit (.int .u8 107), .lit (.int .u8 198), .lit (.int .u8 112), .lit (.int .u8 25), .lit (.int .u8 79)]
def laid_loop_example_pub_g03032_pub_circl_ecc_goldilocks_genY {H : Type} : DataW H := .agg [.lit (.int .u8 20), .lit (.int .u8 250), .lit (.int .u8 48), .lit (.int .u8 242), .lit (.int .u8 91), .lit (.int .u8 121), .lit (.int .u8 8), .lit (.int .u8 152), .lit (.int .u8 173), .lit (.int .u8 200), .lit (.int .u8 215), .lit (.int .u8 78), .lit (.int .u8 44), .lit (.int .u8 19), .lit (.int .u8 189), .lit (.int .u8 253), .lit (.int .u8 196), .lit (.int .u8 57), .lit (.int .u8 124), .lit (.int .u8 230), .lit (.int .u8 28), .lit (.int .u8 255), .lit (.int .u8 211), .lit (.int .u8 58), .lit (.int .u8 215), .lit (.int .u8 194), .lit (.int .u8 160), .lit (.int .u8 5), .lit (.int .u8 30), .lit (.int .u8 156), .lit (.int .u8 120), .lit (.int .u8 135), .lit (.int .u8 64), .lit (.int .u8 152), .lit (.int .u8 163), .lit (.int .u8 108), .lit (.int .u8 115), .lit (.int .u8 115), .lit (.int .u8 234), .lit (.int .u8 75), .lit (.int .u8 98), .lit (.int .u8 199), .lit (.int .u8 201), .lit (.int .u8 86), .lit (.int .u8 55), .lit (.int .u8 32), .lit (.int .u8 118), .lit (.int .u8 136), .lit (.int .u8 36), .lit (.int .u8 188), .lit (.int .u8 182), .lit (.int .u8 110), .lit (.int .u8 113), .lit (.int .u8 70), .lit (.int .u8 63), .lit (.int .u8 105)]

/-- 'laws.FnSameIs': WHATEVER THE INPUT: true; the input reads as it did. -/
def fnSameIsSpec : ChangeSpec := { name := "fnSameIs", vars := ["loop.example/pub-g03032/pub/circl/ecc/goldilocks.paramD", "loop.example/pub-g03032/pub/circl/math/fp448.p"], fn := fun _ => fun
  | [d1, d2, g1, g2] => { results := [.lit (.bool true)], args := [d1, d2], vars := [g1, g2] }
  | _ => none }
def fnSameIsRow : OpenClaim := { program := "ytjanppnnioeifaadoor", sum := "c4cadfcdf344b472d0ff8b4c9fb8ee6e26670bb48894e1237f4f3579ec9d84e4", func := "loop.example/pub-g03032/laws.FnSameIs", spec := "fnSameIs", inPlace := ["math/bits.Sub64", "math/bits.Add64"], named := ["loop.example/pub-g03032/pub/circl/ecc/goldilocks.paramD", "loop.example/pub-g03032/pub/circl/math/fp448.p", "encoding/binary.LittleEndian"], apart := false, laid := [("loop.example/pub-g03032/pub/circl/math/fp448.p", laid_loop_example_pub_g03032_pub_circl_math_fp448_p), ("loop.example/pub-g03032/pub/circl/ecc/goldilocks.paramD", laid_loop_example_pub_g03032_pub_circl_ecc_goldilocks_paramD)] }
def FnSameIsSaid : Prop := fnSameIsRow.holds Tryd.pinned (OpenSpec.ofChange fnSameIsSpec)

/-- ITS FALSE NEIGHBOUR: 'it returns false'. Refute it at one input. -/
def fnSameIsWrong : ChangeSpec := { name := "fnSameIs", vars := ["loop.example/pub-g03032/pub/circl/ecc/goldilocks.paramD", "loop.example/pub-g03032/pub/circl/math/fp448.p"], fn := fun _ => fun
  | [d1, d2, g1, g2] => { results := [.lit (.bool false)], args := [d1, d2], vars := [g1, g2] }
  | _ => none }
def FnSameIsWrongFalsely : Prop := fnSameIsRow.holds Tryd.pinned (OpenSpec.ofChange fnSameIsWrong)

/-- 'laws.FnDecodeIs': WHATEVER THE INPUT: true; the input reads as it did. -/
def fnDecodeIsSpec : ChangeSpec := { name := "fnDecodeIs", vars := ["loop.example/pub-g03032/pub/circl/ecc/goldilocks.paramD", "loop.example/pub-g03032/pub/circl/math/fp448.p"], fn := fun _ => fun
  | [d, g1, g2] => { results := [.lit (.bool true)], args := [d], vars := [g1, g2] }
  | _ => none }
def fnDecodeIsRow : OpenClaim := { program := "ytjanppnnioeifaadoor", sum := "c4cadfcdf344b472d0ff8b4c9fb8ee6e26670bb48894e1237f4f3579ec9d84e4", func := "loop.example/pub-g03032/laws.FnDecodeIs", spec := "fnDecodeIs", inPlace := ["math/bits.Add64", "math/bits.Sub64"], named := ["loop.example/pub-g03032/pub/circl/ecc/goldilocks.paramD", "loop.example/pub-g03032/pub/circl/math/fp448.p", "encoding/binary.LittleEndian"], apart := false, laid := [("loop.example/pub-g03032/pub/circl/math/fp448.p", laid_loop_example_pub_g03032_pub_circl_math_fp448_p), ("loop.example/pub-g03032/pub/circl/ecc/goldilocks.paramD", laid_loop_example_pub_g03032_pub_circl_ecc_goldilocks_paramD)] }
def FnDecodeIsSaid : Prop := fnDecodeIsRow.holds Tryd.pinned (OpenSpec.ofChange fnDecodeIsSpec)

/-- ITS FALSE NEIGHBOUR: 'it returns false'. Refute it at one input. -/
def fnDecodeIsWrong : ChangeSpec := { name := "fnDecodeIs", vars := ["loop.example/pub-g03032/pub/circl/ecc/goldilocks.paramD", "loop.example/pub-g03032/pub/circl/math/fp448.p"], fn := fun _ => fun
  | [d, g1, g2] => { results := [.lit (.bool false)], args := [d], vars := [g1, g2] }
  | _ => none }
def FnDecodeIsWrongFalsely : Prop := fnDecodeIsRow.holds Tryd.pinned (OpenSpec.ofChange fnDecodeIsWrong)

/-- 'laws.FnOnCurveIs': WHATEVER THE INPUT: true; the input reads as it did. -/
def fnOnCurveIsSpec : ChangeSpec := { name := "fnOnCurveIs", vars := ["loop.example/pub-g03032/pub/circl/ecc/goldilocks.paramD", "loop.example/pub-g03032/pub/circl/math/fp448.p"], fn := fun _ => fun
  | [d, g1, g2] => { results := [.lit (.bool true)], args := [d], vars := [g1, g2] }
  | _ => none }
def fnOnCurveIsRow : OpenClaim := { program := "ytjanppnnioeifaadoor", sum := "c4cadfcdf344b472d0ff8b4c9fb8ee6e26670bb48894e1237f4f3579ec9d84e4", func := "loop.example/pub-g03032/laws.FnOnCurveIs", spec := "fnOnCurveIs", inPlace := ["math/bits.Sub64", "math/bits.Add64"], named := ["loop.example/pub-g03032/pub/circl/ecc/goldilocks.paramD", "loop.example/pub-g03032/pub/circl/math/fp448.p", "encoding/binary.LittleEndian"], apart := false, laid := [("loop.example/pub-g03032/pub/circl/math/fp448.p", laid_loop_example_pub_g03032_pub_circl_math_fp448_p), ("loop.example/pub-g03032/pub/circl/ecc/goldilocks.paramD", laid_loop_example_pub_g03032_pub_circl_ecc_goldilocks_paramD)] }
def FnOnCurveIsSaid : Prop := fnOnCurveIsRow.holds Tryd.pinned (OpenSpec.ofChange fnOnCurveIsSpec)

/-- ITS FALSE NEIGHBOUR: 'it returns false'. Refute it at one input. -/
def fnOnCurveIsWrong : ChangeSpec := { name := "fnOnCurveIs", vars := ["loop.example/pub-g03032/pub/circl/ecc/goldilocks.paramD", "loop.example/pub-g03032/pub/circl/math/fp448.p"], fn := fun _ => fun
  | [d, g1, g2] => { results := [.lit (.bool false)], args := [d], vars := [g1, g2] }
  | _ => none }
def FnOnCurveIsWrongFalsely : Prop := fnOnCurveIsRow.holds Tryd.pinned (OpenSpec.ofChange fnOnCurveIsWrong)

/-- 'laws.FnBase': WHATEVER THE INPUT: true; the input reads as it did. -/
def fnBaseSpec : ChangeSpec := { name := "fnBase", vars := ["loop.example/pub-g03032/pub/circl/ecc/goldilocks.genX", "loop.example/pub-g03032/pub/circl/ecc/goldilocks.genY", "loop.example/pub-g03032/pub/circl/math/fp448.p", "loop.example/pub-g03032/pub/circl/ecc/goldilocks.paramD"], fn := fun _ => fun
  | [d, g1, g2, g3, g4] => { results := [.lit (.bool true)], args := [d], vars := [g1, g2, g3, g4] }
  | _ => none }
def fnBaseRow : OpenClaim := { program := "ytjanppnnioeifaadoor", sum := "c4cadfcdf344b472d0ff8b4c9fb8ee6e26670bb48894e1237f4f3579ec9d84e4", func := "loop.example/pub-g03032/laws.FnBase", spec := "fnBase", inPlace := ["math/bits.Add64", "math/bits.Sub64"], named := ["loop.example/pub-g03032/pub/circl/ecc/goldilocks.genX", "loop.example/pub-g03032/pub/circl/ecc/goldilocks.genY", "encoding/binary.LittleEndian", "loop.example/pub-g03032/pub/circl/math/fp448.p", "loop.example/pub-g03032/pub/circl/ecc/goldilocks.paramD"], apart := false, laid := [("loop.example/pub-g03032/pub/circl/math/fp448.p", laid_loop_example_pub_g03032_pub_circl_math_fp448_p), ("loop.example/pub-g03032/pub/circl/ecc/goldilocks.genX", laid_loop_example_pub_g03032_pub_circl_ecc_goldilocks_genX), ("loop.example/pub-g03032/pub/circl/ecc/goldilocks.genY", laid_loop_example_pub_g03032_pub_circl_ecc_goldilocks_genY), ("loop.example/pub-g03032/pub/circl/ecc/goldilocks.paramD", laid_loop_example_pub_g03032_pub_circl_ecc_goldilocks_paramD)] }
def FnBaseSaid : Prop := fnBaseRow.holds Tryd.pinned (OpenSpec.ofChange fnBaseSpec)

/-- ITS FALSE NEIGHBOUR: 'it returns false'. Refute it at one input. -/
def fnBaseWrong : ChangeSpec := { name := "fnBase", vars := ["loop.example/pub-g03032/pub/circl/ecc/goldilocks.genX", "loop.example/pub-g03032/pub/circl/ecc/goldilocks.genY", "loop.example/pub-g03032/pub/circl/math/fp448.p", "loop.example/pub-g03032/pub/circl/ecc/goldilocks.paramD"], fn := fun _ => fun
  | [d, g1, g2, g3, g4] => { results := [.lit (.bool false)], args := [d], vars := [g1, g2, g3, g4] }
  | _ => none }
def FnBaseWrongFalsely : Prop := fnBaseRow.holds Tryd.pinned (OpenSpec.ofChange fnBaseWrong)

/-- 'laws.FnEncodeIs': WHATEVER THE INPUT: true; the input reads as it did. -/
def fnEncodeIsSpec : ChangeSpec := { name := "fnEncodeIs", vars := ["loop.example/pub-g03032/pub/circl/ecc/goldilocks.paramD", "loop.example/pub-g03032/pub/circl/math/fp448.p"], fn := fun _ => fun
  | [d, g1, g2] => { results := [.lit (.bool true)], args := [d], vars := [g1, g2] }
  | _ => none }
def fnEncodeIsRow : OpenClaim := { program := "ytjanppnnioeifaadoor", sum := "c4cadfcdf344b472d0ff8b4c9fb8ee6e26670bb48894e1237f4f3579ec9d84e4", func := "loop.example/pub-g03032/laws.FnEncodeIs", spec := "fnEncodeIs", inPlace := ["math/bits.Sub64", "math/bits.Add64"], named := ["loop.example/pub-g03032/pub/circl/ecc/goldilocks.paramD", "loop.example/pub-g03032/pub/circl/math/fp448.p", "encoding/binary.LittleEndian"], apart := false, laid := [("loop.example/pub-g03032/pub/circl/math/fp448.p", laid_loop_example_pub_g03032_pub_circl_math_fp448_p), ("loop.example/pub-g03032/pub/circl/ecc/goldilocks.paramD", laid_loop_example_pub_g03032_pub_circl_ecc_goldilocks_paramD)] }
def FnEncodeIsSaid : Prop := fnEncodeIsRow.holds Tryd.pinned (OpenSpec.ofChange fnEncodeIsSpec)

/-- ITS FALSE NEIGHBOUR: 'it returns false'. Refute it at one input. -/
def fnEncodeIsWrong : ChangeSpec := { name := "fnEncodeIs", vars := ["loop.example/pub-g03032/pub/circl/ecc/goldilocks.paramD", "loop.example/pub-g03032/pub/circl/math/fp448.p"], fn := fun _ => fun
  | [d, g1, g2] => { results := [.lit (.bool false)], args := [d], vars := [g1, g2] }
  | _ => none }
def FnEncodeIsWrongFalsely : Prop := fnEncodeIsRow.holds Tryd.pinned (OpenSpec.ofChange fnEncodeIsWrong)

/-- 'laws.FnTwiceIs': WHATEVER THE INPUT: true; the input reads as it did. -/
def fnTwiceIsSpec : ChangeSpec := { name := "fnTwiceIs", vars := ["loop.example/pub-g03032/pub/circl/ecc/goldilocks.paramD", "loop.example/pub-g03032/pub/circl/math/fp448.p"], fn := fun _ => fun
  | [d, g1, g2] => { results := [.lit (.bool true)], args := [d], vars := [g1, g2] }
  | _ => none }
def fnTwiceIsRow : OpenClaim := { program := "ytjanppnnioeifaadoor", sum := "c4cadfcdf344b472d0ff8b4c9fb8ee6e26670bb48894e1237f4f3579ec9d84e4", func := "loop.example/pub-g03032/laws.FnTwiceIs", spec := "fnTwiceIs", inPlace := ["math/bits.Sub64", "math/bits.Add64"], named := ["loop.example/pub-g03032/pub/circl/ecc/goldilocks.paramD", "loop.example/pub-g03032/pub/circl/math/fp448.p", "encoding/binary.LittleEndian"], apart := false, laid := [("loop.example/pub-g03032/pub/circl/math/fp448.p", laid_loop_example_pub_g03032_pub_circl_math_fp448_p), ("loop.example/pub-g03032/pub/circl/ecc/goldilocks.paramD", laid_loop_example_pub_g03032_pub_circl_ecc_goldilocks_paramD)] }
def FnTwiceIsSaid : Prop := fnTwiceIsRow.holds Tryd.pinned (OpenSpec.ofChange fnTwiceIsSpec)

/-- ITS FALSE NEIGHBOUR: 'it returns false'. Refute it at one input. -/
def fnTwiceIsWrong : ChangeSpec := { name := "fnTwiceIs", vars := ["loop.example/pub-g03032/pub/circl/ecc/goldilocks.paramD", "loop.example/pub-g03032/pub/circl/math/fp448.p"], fn := fun _ => fun
  | [d, g1, g2] => { results := [.lit (.bool false)], args := [d], vars := [g1, g2] }
  | _ => none }
def FnTwiceIsWrongFalsely : Prop := fnTwiceIsRow.holds Tryd.pinned (OpenSpec.ofChange fnTwiceIsWrong)

/-- 'laws.FnPlusIs': WHATEVER THE INPUT: true; the input reads as it did. -/
def fnPlusIsSpec : ChangeSpec := { name := "fnPlusIs", vars := ["loop.example/pub-g03032/pub/circl/ecc/goldilocks.paramD", "loop.example/pub-g03032/pub/circl/math/fp448.p"], fn := fun _ => fun
  | [d1, d2, g1, g2] => { results := [.lit (.bool true)], args := [d1, d2], vars := [g1, g2] }
  | _ => none }
def fnPlusIsRow : OpenClaim := { program := "ytjanppnnioeifaadoor", sum := "c4cadfcdf344b472d0ff8b4c9fb8ee6e26670bb48894e1237f4f3579ec9d84e4", func := "loop.example/pub-g03032/laws.FnPlusIs", spec := "fnPlusIs", inPlace := ["math/bits.Sub64", "math/bits.Add64"], named := ["loop.example/pub-g03032/pub/circl/ecc/goldilocks.paramD", "loop.example/pub-g03032/pub/circl/math/fp448.p", "encoding/binary.LittleEndian"], apart := false, laid := [("loop.example/pub-g03032/pub/circl/math/fp448.p", laid_loop_example_pub_g03032_pub_circl_math_fp448_p), ("loop.example/pub-g03032/pub/circl/ecc/goldilocks.paramD", laid_loop_example_pub_g03032_pub_circl_ecc_goldilocks_paramD)] }
def FnPlusIsSaid : Prop := fnPlusIsRow.holds Tryd.pinned (OpenSpec.ofChange fnPlusIsSpec)

/-- ITS FALSE NEIGHBOUR: 'it returns false'. Refute it at one input. -/
def fnPlusIsWrong : ChangeSpec := { name := "fnPlusIs", vars := ["loop.example/pub-g03032/pub/circl/ecc/goldilocks.paramD", "loop.example/pub-g03032/pub/circl/math/fp448.p"], fn := fun _ => fun
  | [d1, d2, g1, g2] => { results := [.lit (.bool false)], args := [d1, d2], vars := [g1, g2] }
  | _ => none }
def FnPlusIsWrongFalsely : Prop := fnPlusIsRow.holds Tryd.pinned (OpenSpec.ofChange fnPlusIsWrong)

/-- 'laws.FnGroup': WHATEVER THE INPUT: true; the input reads as it did. -/
def fnGroupSpec : ChangeSpec := { name := "fnGroup", vars := ["loop.example/pub-g03032/pub/circl/ecc/goldilocks.paramD", "loop.example/pub-g03032/pub/circl/math/fp448.p"], fn := fun _ => fun
  | [d1, d2, d3, g1, g2] => { results := [.lit (.bool true)], args := [d1, d2, d3], vars := [g1, g2] }
  | _ => none }
def fnGroupRow : OpenClaim := { program := "ytjanppnnioeifaadoor", sum := "c4cadfcdf344b472d0ff8b4c9fb8ee6e26670bb48894e1237f4f3579ec9d84e4", func := "loop.example/pub-g03032/laws.FnGroup", spec := "fnGroup", inPlace := ["math/bits.Sub64", "math/bits.Add64"], named := ["loop.example/pub-g03032/pub/circl/ecc/goldilocks.paramD", "loop.example/pub-g03032/pub/circl/math/fp448.p", "encoding/binary.LittleEndian"], apart := false, laid := [("loop.example/pub-g03032/pub/circl/math/fp448.p", laid_loop_example_pub_g03032_pub_circl_math_fp448_p), ("loop.example/pub-g03032/pub/circl/ecc/goldilocks.paramD", laid_loop_example_pub_g03032_pub_circl_ecc_goldilocks_paramD)] }
def FnGroupSaid : Prop := fnGroupRow.holds Tryd.pinned (OpenSpec.ofChange fnGroupSpec)

/-- ITS FALSE NEIGHBOUR: 'it returns false'. Refute it at one input. -/
def fnGroupWrong : ChangeSpec := { name := "fnGroup", vars := ["loop.example/pub-g03032/pub/circl/ecc/goldilocks.paramD", "loop.example/pub-g03032/pub/circl/math/fp448.p"], fn := fun _ => fun
  | [d1, d2, d3, g1, g2] => { results := [.lit (.bool false)], args := [d1, d2, d3], vars := [g1, g2] }
  | _ => none }
def FnGroupWrongFalsely : Prop := fnGroupRow.holds Tryd.pinned (OpenSpec.ofChange fnGroupWrong)

/-- 'laws.FnMinusIs': WHATEVER THE INPUT: true; the input reads as it did. -/
def fnMinusIsSpec : ChangeSpec := { name := "fnMinusIs", vars := ["loop.example/pub-g03032/pub/circl/ecc/goldilocks.paramD", "loop.example/pub-g03032/pub/circl/math/fp448.p"], fn := fun _ => fun
  | [d, g1, g2] => { results := [.lit (.bool true)], args := [d], vars := [g1, g2] }
  | _ => none }
def fnMinusIsRow : OpenClaim := { program := "ytjanppnnioeifaadoor", sum := "c4cadfcdf344b472d0ff8b4c9fb8ee6e26670bb48894e1237f4f3579ec9d84e4", func := "loop.example/pub-g03032/laws.FnMinusIs", spec := "fnMinusIs", inPlace := ["math/bits.Sub64", "math/bits.Add64"], named := ["loop.example/pub-g03032/pub/circl/ecc/goldilocks.paramD", "loop.example/pub-g03032/pub/circl/math/fp448.p", "encoding/binary.LittleEndian"], apart := false, laid := [("loop.example/pub-g03032/pub/circl/math/fp448.p", laid_loop_example_pub_g03032_pub_circl_math_fp448_p), ("loop.example/pub-g03032/pub/circl/ecc/goldilocks.paramD", laid_loop_example_pub_g03032_pub_circl_ecc_goldilocks_paramD)] }
def FnMinusIsSaid : Prop := fnMinusIsRow.holds Tryd.pinned (OpenSpec.ofChange fnMinusIsSpec)

/-- ITS FALSE NEIGHBOUR: 'it returns false'. Refute it at one input. -/
def fnMinusIsWrong : ChangeSpec := { name := "fnMinusIs", vars := ["loop.example/pub-g03032/pub/circl/ecc/goldilocks.paramD", "loop.example/pub-g03032/pub/circl/math/fp448.p"], fn := fun _ => fun
  | [d, g1, g2] => { results := [.lit (.bool false)], args := [d], vars := [g1, g2] }
  | _ => none }
def FnMinusIsWrongFalsely : Prop := fnMinusIsRow.holds Tryd.pinned (OpenSpec.ofChange fnMinusIsWrong)

/-- 'laws.FnDecodeEncode': WHATEVER THE INPUT: true; the input reads as it did. -/
def fnDecodeEncodeSpec : ChangeSpec := { name := "fnDecodeEncode", vars := ["loop.example/pub-g03032/pub/circl/ecc/goldilocks.paramD", "loop.example/pub-g03032/pub/circl/math/fp448.p"], fn := fun _ => fun
  | [d, g1, g2] => { results := [.lit (.bool true)], args := [d], vars := [g1, g2] }
  | _ => none }
def fnDecodeEncodeRow : OpenClaim := { program := "ytjanppnnioeifaadoor", sum := "c4cadfcdf344b472d0ff8b4c9fb8ee6e26670bb48894e1237f4f3579ec9d84e4", func := "loop.example/pub-g03032/laws.FnDecodeEncode", spec := "fnDecodeEncode", inPlace := ["math/bits.Sub64", "math/bits.Add64"], named := ["loop.example/pub-g03032/pub/circl/ecc/goldilocks.paramD", "loop.example/pub-g03032/pub/circl/math/fp448.p", "encoding/binary.LittleEndian"], apart := false, laid := [("loop.example/pub-g03032/pub/circl/math/fp448.p", laid_loop_example_pub_g03032_pub_circl_math_fp448_p), ("loop.example/pub-g03032/pub/circl/ecc/goldilocks.paramD", laid_loop_example_pub_g03032_pub_circl_ecc_goldilocks_paramD)] }
def FnDecodeEncodeSaid : Prop := fnDecodeEncodeRow.holds Tryd.pinned (OpenSpec.ofChange fnDecodeEncodeSpec)

/-- ITS FALSE NEIGHBOUR: 'it returns false'. Refute it at one input. -/
def fnDecodeEncodeWrong : ChangeSpec := { name := "fnDecodeEncode", vars := ["loop.example/pub-g03032/pub/circl/ecc/goldilocks.paramD", "loop.example/pub-g03032/pub/circl/math/fp448.p"], fn := fun _ => fun
  | [d, g1, g2] => { results := [.lit (.bool false)], args := [d], vars := [g1, g2] }
  | _ => none }
def FnDecodeEncodeWrongFalsely : Prop := fnDecodeEncodeRow.holds Tryd.pinned (OpenSpec.ofChange fnDecodeEncodeWrong)

/- THE SECOND FORM. 'bulk': how many values and letters a reading holds, each counted each time it is reached (what is shared counts as often as it is met; a slice's spare places count too). A statement '..UptoSaid' is the law's where the arguments, and the package variables that the reading takes, are together of bulk at most 1048576: NARROWER than '..Said'. Prove '..Said' where nothing that the law and all that it calls make is longer than what came in: it says more and counts as full. Else prove '..UptoSaid'. A law counts once. -/
mutual
def uptoBulk {H : Type} : DataW H → Nat
  | .lit (.string bytes) => bytes.length + 1
  | .lit _ => 1
  | .nil => 1
  | .ptr d => uptoBulk d + 1
  | .slice elems spare => uptoBulkAll elems + uptoBulkAll spare + 1
  | .agg parts => uptoBulkAll parts + 1
  | .iface _ d => uptoBulk d + 1
  | .map entries => uptoBulkEntries entries + 1
  | .held _ => 1
def uptoBulkAll {H : Type} : List (DataW H) → Nat
  | [] => 0
  | d :: r => uptoBulk d + uptoBulkAll r
def uptoBulkEntries {H : Type} : List (Lit × DataW H) → Nat
  | [] => 0
  | x :: r => uptoBulkEntry x + uptoBulkEntries r
def uptoBulkEntry {H : Type} : Lit × DataW H → Nat
  | (.string bytes, d) => bytes.length + uptoBulk d + 1
  | (_, d) => uptoBulk d + 1
 end
def uptoSmall : (H : Type) → List (DataW H) → Bool := fun _ ds => decide (uptoBulkAll ds ≤ 1048576)
def OpenSpec.upto (s : _root_.Go.ChangeSpec) : _root_.Go.OpenSpec := { _root_.Go.OpenSpec.ofChange s with cond := some uptoSmall }

/-- 'laws.FnSameIs', WHERE WHAT IT READS IS OF BULK AT MOST 1048576: true; the input reads as it did. -/
def fnSameIsUptoRow : OpenClaim := { program := "ytjanppnnioeifaadoor", sum := "c4cadfcdf344b472d0ff8b4c9fb8ee6e26670bb48894e1237f4f3579ec9d84e4", func := "loop.example/pub-g03032/laws.FnSameIs", spec := "fnSameIs", inPlace := ["math/bits.Sub64", "math/bits.Add64"], named := ["loop.example/pub-g03032/pub/circl/ecc/goldilocks.paramD", "loop.example/pub-g03032/pub/circl/math/fp448.p", "encoding/binary.LittleEndian"], apart := false, laid := [("loop.example/pub-g03032/pub/circl/math/fp448.p", laid_loop_example_pub_g03032_pub_circl_math_fp448_p), ("loop.example/pub-g03032/pub/circl/ecc/goldilocks.paramD", laid_loop_example_pub_g03032_pub_circl_ecc_goldilocks_paramD)], narrowed := true }
def FnSameIsUptoSaid : Prop := fnSameIsUptoRow.holds Tryd.pinned (OpenSpec.upto fnSameIsSpec)

/-- 'laws.FnDecodeIs', WHERE WHAT IT READS IS OF BULK AT MOST 1048576: true; the input reads as it did. -/
def fnDecodeIsUptoRow : OpenClaim := { program := "ytjanppnnioeifaadoor", sum := "c4cadfcdf344b472d0ff8b4c9fb8ee6e26670bb48894e1237f4f3579ec9d84e4", func := "loop.example/pub-g03032/laws.FnDecodeIs", spec := "fnDecodeIs", inPlace := ["math/bits.Add64", "math/bits.Sub64"], named := ["loop.example/pub-g03032/pub/circl/ecc/goldilocks.paramD", "loop.example/pub-g03032/pub/circl/math/fp448.p", "encoding/binary.LittleEndian"], apart := false, laid := [("loop.example/pub-g03032/pub/circl/math/fp448.p", laid_loop_example_pub_g03032_pub_circl_math_fp448_p), ("loop.example/pub-g03032/pub/circl/ecc/goldilocks.paramD", laid_loop_example_pub_g03032_pub_circl_ecc_goldilocks_paramD)], narrowed := true }
def FnDecodeIsUptoSaid : Prop := fnDecodeIsUptoRow.holds Tryd.pinned (OpenSpec.upto fnDecodeIsSpec)

/-- 'laws.FnOnCurveIs', WHERE WHAT IT READS IS OF BULK AT MOST 1048576: true; the input reads as it did. -/
def fnOnCurveIsUptoRow : OpenClaim := { program := "ytjanppnnioeifaadoor", sum := "c4cadfcdf344b472d0ff8b4c9fb8ee6e26670bb48894e1237f4f3579ec9d84e4", func := "loop.example/pub-g03032/laws.FnOnCurveIs", spec := "fnOnCurveIs", inPlace := ["math/bits.Sub64", "math/bits.Add64"], named := ["loop.example/pub-g03032/pub/circl/ecc/goldilocks.paramD", "loop.example/pub-g03032/pub/circl/math/fp448.p", "encoding/binary.LittleEndian"], apart := false, laid := [("loop.example/pub-g03032/pub/circl/math/fp448.p", laid_loop_example_pub_g03032_pub_circl_math_fp448_p), ("loop.example/pub-g03032/pub/circl/ecc/goldilocks.paramD", laid_loop_example_pub_g03032_pub_circl_ecc_goldilocks_paramD)], narrowed := true }
def FnOnCurveIsUptoSaid : Prop := fnOnCurveIsUptoRow.holds Tryd.pinned (OpenSpec.upto fnOnCurveIsSpec)

/-- 'laws.FnBase', WHERE WHAT IT READS IS OF BULK AT MOST 1048576: true; the input reads as it did. -/
def fnBaseUptoRow : OpenClaim := { program := "ytjanppnnioeifaadoor", sum := "c4cadfcdf344b472d0ff8b4c9fb8ee6e26670bb48894e1237f4f3579ec9d84e4", func := "loop.example/pub-g03032/laws.FnBase", spec := "fnBase", inPlace := ["math/bits.Add64", "math/bits.Sub64"], named := ["loop.example/pub-g03032/pub/circl/ecc/goldilocks.genX", "loop.example/pub-g03032/pub/circl/ecc/goldilocks.genY", "encoding/binary.LittleEndian", "loop.example/pub-g03032/pub/circl/math/fp448.p", "loop.example/pub-g03032/pub/circl/ecc/goldilocks.paramD"], apart := false, laid := [("loop.example/pub-g03032/pub/circl/math/fp448.p", laid_loop_example_pub_g03032_pub_circl_math_fp448_p), ("loop.example/pub-g03032/pub/circl/ecc/goldilocks.genX", laid_loop_example_pub_g03032_pub_circl_ecc_goldilocks_genX), ("loop.example/pub-g03032/pub/circl/ecc/goldilocks.genY", laid_loop_example_pub_g03032_pub_circl_ecc_goldilocks_genY), ("loop.example/pub-g03032/pub/circl/ecc/goldilocks.paramD", laid_loop_example_pub_g03032_pub_circl_ecc_goldilocks_paramD)], narrowed := true }
def FnBaseUptoSaid : Prop := fnBaseUptoRow.holds Tryd.pinned (OpenSpec.upto fnBaseSpec)

/-- 'laws.FnEncodeIs', WHERE WHAT IT READS IS OF BULK AT MOST 1048576: true; the input reads as it did. -/
def fnEncodeIsUptoRow : OpenClaim := { program := "ytjanppnnioeifaadoor", sum := "c4cadfcdf344b472d0ff8b4c9fb8ee6e26670bb48894e1237f4f3579ec9d84e4", func := "loop.example/pub-g03032/laws.FnEncodeIs", spec := "fnEncodeIs", inPlace := ["math/bits.Sub64", "math/bits.Add64"], named := ["loop.example/pub-g03032/pub/circl/ecc/goldilocks.paramD", "loop.example/pub-g03032/pub/circl/math/fp448.p", "encoding/binary.LittleEndian"], apart := false, laid := [("loop.example/pub-g03032/pub/circl/math/fp448.p", laid_loop_example_pub_g03032_pub_circl_math_fp448_p), ("loop.example/pub-g03032/pub/circl/ecc/goldilocks.paramD", laid_loop_example_pub_g03032_pub_circl_ecc_goldilocks_paramD)], narrowed := true }
def FnEncodeIsUptoSaid : Prop := fnEncodeIsUptoRow.holds Tryd.pinned (OpenSpec.upto fnEncodeIsSpec)

/-- 'laws.FnTwiceIs', WHERE WHAT IT READS IS OF BULK AT MOST 1048576: true; the input reads as it did. -/
def fnTwiceIsUptoRow : OpenClaim := { program := "ytjanppnnioeifaadoor", sum := "c4cadfcdf344b472d0ff8b4c9fb8ee6e26670bb48894e1237f4f3579ec9d84e4", func := "loop.example/pub-g03032/laws.FnTwiceIs", spec := "fnTwiceIs", inPlace := ["math/bits.Sub64", "math/bits.Add64"], named := ["loop.example/pub-g03032/pub/circl/ecc/goldilocks.paramD", "loop.example/pub-g03032/pub/circl/math/fp448.p", "encoding/binary.LittleEndian"], apart := false, laid := [("loop.example/pub-g03032/pub/circl/math/fp448.p", laid_loop_example_pub_g03032_pub_circl_math_fp448_p), ("loop.example/pub-g03032/pub/circl/ecc/goldilocks.paramD", laid_loop_example_pub_g03032_pub_circl_ecc_goldilocks_paramD)], narrowed := true }
def FnTwiceIsUptoSaid : Prop := fnTwiceIsUptoRow.holds Tryd.pinned (OpenSpec.upto fnTwiceIsSpec)

/-- 'laws.FnPlusIs', WHERE WHAT IT READS IS OF BULK AT MOST 1048576: true; the input reads as it did. -/
def fnPlusIsUptoRow : OpenClaim := { program := "ytjanppnnioeifaadoor", sum := "c4cadfcdf344b472d0ff8b4c9fb8ee6e26670bb48894e1237f4f3579ec9d84e4", func := "loop.example/pub-g03032/laws.FnPlusIs", spec := "fnPlusIs", inPlace := ["math/bits.Sub64", "math/bits.Add64"], named := ["loop.example/pub-g03032/pub/circl/ecc/goldilocks.paramD", "loop.example/pub-g03032/pub/circl/math/fp448.p", "encoding/binary.LittleEndian"], apart := false, laid := [("loop.example/pub-g03032/pub/circl/math/fp448.p", laid_loop_example_pub_g03032_pub_circl_math_fp448_p), ("loop.example/pub-g03032/pub/circl/ecc/goldilocks.paramD", laid_loop_example_pub_g03032_pub_circl_ecc_goldilocks_paramD)], narrowed := true }
def FnPlusIsUptoSaid : Prop := fnPlusIsUptoRow.holds Tryd.pinned (OpenSpec.upto fnPlusIsSpec)

/-- 'laws.FnGroup', WHERE WHAT IT READS IS OF BULK AT MOST 1048576: true; the input reads as it did. -/
def fnGroupUptoRow : OpenClaim := { program := "ytjanppnnioeifaadoor", sum := "c4cadfcdf344b472d0ff8b4c9fb8ee6e26670bb48894e1237f4f3579ec9d84e4", func := "loop.example/pub-g03032/laws.FnGroup", spec := "fnGroup", inPlace := ["math/bits.Sub64", "math/bits.Add64"], named := ["loop.example/pub-g03032/pub/circl/ecc/goldilocks.paramD", "loop.example/pub-g03032/pub/circl/math/fp448.p", "encoding/binary.LittleEndian"], apart := false, laid := [("loop.example/pub-g03032/pub/circl/math/fp448.p", laid_loop_example_pub_g03032_pub_circl_math_fp448_p), ("loop.example/pub-g03032/pub/circl/ecc/goldilocks.paramD", laid_loop_example_pub_g03032_pub_circl_ecc_goldilocks_paramD)], narrowed := true }
def FnGroupUptoSaid : Prop := fnGroupUptoRow.holds Tryd.pinned (OpenSpec.upto fnGroupSpec)

/-- 'laws.FnMinusIs', WHERE WHAT IT READS IS OF BULK AT MOST 1048576: true; the input reads as it did. -/
def fnMinusIsUptoRow : OpenClaim := { program := "ytjanppnnioeifaadoor", sum := "c4cadfcdf344b472d0ff8b4c9fb8ee6e26670bb48894e1237f4f3579ec9d84e4", func := "loop.example/pub-g03032/laws.FnMinusIs", spec := "fnMinusIs", inPlace := ["math/bits.Sub64", "math/bits.Add64"], named := ["loop.example/pub-g03032/pub/circl/ecc/goldilocks.paramD", "loop.example/pub-g03032/pub/circl/math/fp448.p", "encoding/binary.LittleEndian"], apart := false, laid := [("loop.example/pub-g03032/pub/circl/math/fp448.p", laid_loop_example_pub_g03032_pub_circl_math_fp448_p), ("loop.example/pub-g03032/pub/circl/ecc/goldilocks.paramD", laid_loop_example_pub_g03032_pub_circl_ecc_goldilocks_paramD)], narrowed := true }
def FnMinusIsUptoSaid : Prop := fnMinusIsUptoRow.holds Tryd.pinned (OpenSpec.upto fnMinusIsSpec)

/-- 'laws.FnDecodeEncode', WHERE WHAT IT READS IS OF BULK AT MOST 1048576: true; the input reads as it did. -/
def fnDecodeEncodeUptoRow : OpenClaim := { program := "ytjanppnnioeifaadoor", sum := "c4cadfcdf344b472d0ff8b4c9fb8ee6e26670bb48894e1237f4f3579ec9d84e4", func := "loop.example/pub-g03032/laws.FnDecodeEncode", spec := "fnDecodeEncode", inPlace := ["math/bits.Sub64", "math/bits.Add64"], named := ["loop.example/pub-g03032/pub/circl/ecc/goldilocks.paramD", "loop.example/pub-g03032/pub/circl/math/fp448.p", "encoding/binary.LittleEndian"], apart := false, laid := [("loop.example/pub-g03032/pub/circl/math/fp448.p", laid_loop_example_pub_g03032_pub_circl_math_fp448_p), ("loop.example/pub-g03032/pub/circl/ecc/goldilocks.paramD", laid_loop_example_pub_g03032_pub_circl_ecc_goldilocks_paramD)], narrowed := true }
def FnDecodeEncodeUptoSaid : Prop := fnDecodeEncodeUptoRow.holds Tryd.pinned (OpenSpec.upto fnDecodeEncodeSpec)

end Rows
end Go.Proofs.YtjanppnnioeifaaDoor
