/-
  DERIVED. GIVEN WITH THE SEED: THE PROGRAM's TIES (one call each: nine closed facts by the kernel) AND EACH ROW's TIE, after the 31st guide's Derived/Test/Toyas{Tie, Card}.lean. No idea stands in it: it is a product of the set-up. Laid BY PROGRAM, IN A SANDBOX (cutbox-door.mjs). By AI agents, Wed Nov 11 2026. No macro, syntax, notation, axiom, sorry.
-/
import Derived.Test.YtflbkfjemmmipaaDoorRows
import Derived.LaidByTextLater
import Derived.SevenTiedAt
import Derived.LaidSub
import Derived.LaidOnce
namespace Go.Proofs.YtflbkfjemmmipaaDoor
open Go
set_option maxRecDepth 100000
theorem seatTie1 : Tryd.prog.laidByTextLater [("loop.example/pub-g03032/pub/circl/ecc/goldilocks.order", Rows.laid_loop_example_pub_g03032_pub_circl_ecc_goldilocks_order), ("loop.example/pub-g03032/pub/circl/ecc/goldilocks.residue448", Rows.laid_loop_example_pub_g03032_pub_circl_ecc_goldilocks_residue448)] [.widerDeep, .widerDeep] true :=
  Program.laidByTextLater_by_one 19 8 57 (by kernel_rfl) (by kernel_rfl) (by kernel_rfl) (by kernel_rfl) (by kernel_rfl) (by kernel_rfl) (fun _ _ => by kernel_rfl)
theorem noOwnUnsafe : Tryd.pinned.checked.prog.headLifts.contains "ownunsafe" = false := by kernel_rfl
theorem tie : Tryd.prog.laidByTextLater [("loop.example/pub-g03032/pub/circl/ecc/goldilocks.order", Rows.laid_loop_example_pub_g03032_pub_circl_ecc_goldilocks_order)] [.widerDeep] true :=
  Program.laidByTextLater.sub seatTie1 ["loop.example/pub-g03032/pub/circl/ecc/goldilocks.order"] (by kernel_rfl) (by kernel_rfl)
theorem fnScalarRedIs_row_tie : Rows.fnScalarRedIsRow.laidByTextAt .later Tryd.pinned [.widerDeep] true :=
  OpenClaim.laidByTextAt_later rfl rfl tie noOwnUnsafe
theorem tie2 : Tryd.prog.laidByTextLater [("loop.example/pub-g03032/pub/circl/ecc/goldilocks.order", Rows.laid_loop_example_pub_g03032_pub_circl_ecc_goldilocks_order), ("loop.example/pub-g03032/pub/circl/ecc/goldilocks.residue448", Rows.laid_loop_example_pub_g03032_pub_circl_ecc_goldilocks_residue448)] [.widerDeep, .widerDeep] true :=
  Program.laidByTextLater.sub seatTie1 ["loop.example/pub-g03032/pub/circl/ecc/goldilocks.order", "loop.example/pub-g03032/pub/circl/ecc/goldilocks.residue448"] (by kernel_rfl) (by kernel_rfl)
theorem fnScalarNegIs_row_tie : Rows.fnScalarNegIsRow.laidByTextAt .later Tryd.pinned [.widerDeep, .widerDeep] true :=
  OpenClaim.laidByTextAt_later rfl rfl tie2 noOwnUnsafe
theorem fnScalarIs_row_tie : Rows.fnScalarIsRow.laidByTextAt .later Tryd.pinned [.widerDeep, .widerDeep] true :=
  OpenClaim.laidByTextAt_later rfl rfl tie2 noOwnUnsafe
theorem fnScalarMulIs_row_tie : Rows.fnScalarMulIsRow.laidByTextAt .later Tryd.pinned [.widerDeep, .widerDeep] true :=
  OpenClaim.laidByTextAt_later rfl rfl tie2 noOwnUnsafe
theorem fnScalarFromIs_row_tie : Rows.fnScalarFromIsRow.laidByTextAt .later Tryd.pinned [.widerDeep, .widerDeep] true :=
  OpenClaim.laidByTextAt_later rfl rfl tie2 noOwnUnsafe
theorem fnScalarRedIsUpto_row_tie : Rows.fnScalarRedIsUptoRow.laidByTextAt .later Tryd.pinned [.widerDeep] true :=
  OpenClaim.laidByTextAt_later rfl rfl tie noOwnUnsafe
theorem fnScalarNegIsUpto_row_tie : Rows.fnScalarNegIsUptoRow.laidByTextAt .later Tryd.pinned [.widerDeep, .widerDeep] true :=
  OpenClaim.laidByTextAt_later rfl rfl tie2 noOwnUnsafe
theorem fnScalarIsUpto_row_tie : Rows.fnScalarIsUptoRow.laidByTextAt .later Tryd.pinned [.widerDeep, .widerDeep] true :=
  OpenClaim.laidByTextAt_later rfl rfl tie2 noOwnUnsafe
theorem fnScalarMulIsUpto_row_tie : Rows.fnScalarMulIsUptoRow.laidByTextAt .later Tryd.pinned [.widerDeep, .widerDeep] true :=
  OpenClaim.laidByTextAt_later rfl rfl tie2 noOwnUnsafe
theorem fnScalarFromIsUpto_row_tie : Rows.fnScalarFromIsUptoRow.laidByTextAt .later Tryd.pinned [.widerDeep, .widerDeep] true :=
  OpenClaim.laidByTextAt_later rfl rfl tie2 noOwnUnsafe
end Go.Proofs.YtflbkfjemmmipaaDoor
