/-
  DERIVED. GIVEN WITH THE SEED: THE PROGRAM's TIES (one call each: nine closed facts by the kernel) AND EACH ROW's TIE, after the 31st guide's Derived/Test/Toyas{Tie, Card}.lean. No idea stands in it: it is a product of the set-up. Laid BY PROGRAM, IN A SANDBOX (cutbox-door.mjs). By AI agents, Wed Nov 11 2026. No macro, syntax, notation, axiom, sorry.
-/
import Derived.Test.YtjlhhcdefcofkaaGreatDoorRows
import Derived.LaidByTextLater
import Derived.SevenTiedAt
import Derived.LaidSub
import Derived.LaidOnce
namespace Go.Proofs.YtjlhhcdefcofkaaGreatDoor
open Go
set_option maxRecDepth 100000
theorem seatTie1 : Tryz.prog.laidByTextLater [("loop.example/pub-g03032/pub/circl/math/fp448.p", Rows.laid_loop_example_pub_g03032_pub_circl_math_fp448_p), ("loop.example/pub-g03032/pub/circl/ecc/goldilocks.paramD", Rows.laid_loop_example_pub_g03032_pub_circl_ecc_goldilocks_paramD), ("loop.example/pub-g03032/pub/circl/ecc/goldilocks.order", Rows.laid_loop_example_pub_g03032_pub_circl_ecc_goldilocks_order), ("loop.example/pub-g03032/pub/circl/ecc/goldilocks.residue448", Rows.laid_loop_example_pub_g03032_pub_circl_ecc_goldilocks_residue448), ("loop.example/pub-g03032/pub/circl/ecc/goldilocks.invFour", Rows.laid_loop_example_pub_g03032_pub_circl_ecc_goldilocks_invFour), ("loop.example/pub-g03032/pub/circl/ecc/goldilocks.paramDTwist", Rows.laid_loop_example_pub_g03032_pub_circl_ecc_goldilocks_paramDTwist)] [.data, .data, .widerDeep, .widerDeep, .data, .data] true :=
  Program.laidByTextLater_by_one 39 8 57 (by kernel_rfl) (by kernel_rfl) (by kernel_rfl) (by kernel_rfl) (by kernel_rfl) (by kernel_rfl) (fun _ _ => by kernel_rfl)
theorem noOwnUnsafe : Tryz.pinned.checked.prog.headLifts.contains "ownunsafe" = false := by kernel_rfl
theorem tie : Tryz.prog.laidByTextLater [("loop.example/pub-g03032/pub/circl/math/fp448.p", Rows.laid_loop_example_pub_g03032_pub_circl_math_fp448_p), ("loop.example/pub-g03032/pub/circl/ecc/goldilocks.paramD", Rows.laid_loop_example_pub_g03032_pub_circl_ecc_goldilocks_paramD), ("loop.example/pub-g03032/pub/circl/ecc/goldilocks.order", Rows.laid_loop_example_pub_g03032_pub_circl_ecc_goldilocks_order), ("loop.example/pub-g03032/pub/circl/ecc/goldilocks.residue448", Rows.laid_loop_example_pub_g03032_pub_circl_ecc_goldilocks_residue448), ("loop.example/pub-g03032/pub/circl/ecc/goldilocks.invFour", Rows.laid_loop_example_pub_g03032_pub_circl_ecc_goldilocks_invFour), ("loop.example/pub-g03032/pub/circl/ecc/goldilocks.paramDTwist", Rows.laid_loop_example_pub_g03032_pub_circl_ecc_goldilocks_paramDTwist)] [.data, .data, .widerDeep, .widerDeep, .data, .data] true :=
  Program.laidByTextLater.sub seatTie1 ["loop.example/pub-g03032/pub/circl/math/fp448.p", "loop.example/pub-g03032/pub/circl/ecc/goldilocks.paramD", "loop.example/pub-g03032/pub/circl/ecc/goldilocks.order", "loop.example/pub-g03032/pub/circl/ecc/goldilocks.residue448", "loop.example/pub-g03032/pub/circl/ecc/goldilocks.invFour", "loop.example/pub-g03032/pub/circl/ecc/goldilocks.paramDTwist"] (by kernel_rfl) (by kernel_rfl)
theorem fnTimesIs_row_tie : Rows.fnTimesIsRow.laidByTextAt .later Tryz.pinned [.data, .data, .widerDeep, .widerDeep, .data, .data] true :=
  OpenClaim.laidByTextAt_later rfl rfl tie noOwnUnsafe
theorem fnTimesIsUpto_row_tie : Rows.fnTimesIsUptoRow.laidByTextAt .later Tryz.pinned [.data, .data, .widerDeep, .widerDeep, .data, .data] true :=
  OpenClaim.laidByTextAt_later rfl rfl tie noOwnUnsafe
end Go.Proofs.YtjlhhcdefcofkaaGreatDoor
