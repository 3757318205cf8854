/-
  DERIVED. GIVEN WITH THE SEED: THE PROGRAM's TIES (one call each: nine closed facts by the kernel) AND EACH ROW's TIE, after the 31st guide's Derived/Test/Toyas{Tie, Card}.lean. No idea stands in it: it is a product of the set-up. Laid BY PROGRAM, IN A SANDBOX (cutbox-door.mjs). By AI agents, Wed Nov 11 2026. No macro, syntax, notation, axiom, sorry.
-/
import Derived.Test.YtfkfljohhabldaaDoorRows
import Derived.LaidByTextLater
import Derived.SevenTiedAt
import Derived.LaidSub
import Derived.LaidOnce
namespace Go.Proofs.YtfkfljohhabldaaDoor
open Go
set_option maxRecDepth 100000
theorem seatTie1 : Tryd.prog.laidByTextLater [("loop.example/pub-g03039/pub/circl/fourq.modulusP", Rows.laid_loop_example_pub_g03039_pub_circl_fourq_modulusP), ("loop.example/pub-g03039/pub/circl/fourq.orderGenerator", Rows.laid_loop_example_pub_g03039_pub_circl_fourq_orderGenerator), ("loop.example/pub-g03039/pub/circl/fourq.paramD", Rows.laid_loop_example_pub_g03039_pub_circl_fourq_paramD), ("loop.example/pub-g03039/pub/circl/fourq.genX", Rows.laid_loop_example_pub_g03039_pub_circl_fourq_genX), ("loop.example/pub-g03039/pub/circl/fourq.genY", Rows.laid_loop_example_pub_g03039_pub_circl_fourq_genY)] [.data, .data, .data, .data, .data] true :=
  Program.laidByTextLater_by_one 40 8 33 (by kernel_rfl) (by kernel_rfl) (by kernel_rfl) (by kernel_rfl) (by kernel_rfl) (by kernel_rfl) (fun _ _ => by kernel_rfl)
theorem noOwnUnsafe : Tryd.pinned.checked.prog.headLifts.contains "ownunsafe" = false := by kernel_rfl
theorem tie : Tryd.prog.laidByTextLater [("loop.example/pub-g03039/pub/circl/fourq.modulusP", Rows.laid_loop_example_pub_g03039_pub_circl_fourq_modulusP)] [.data] true :=
  Program.laidByTextLater.sub seatTie1 ["loop.example/pub-g03039/pub/circl/fourq.modulusP"] (by kernel_rfl) (by kernel_rfl)
theorem fnFpBytes_row_tie : Rows.fnFpBytesRow.laidByTextAt .later Tryd.pinned [.data] true :=
  OpenClaim.laidByTextAt_later rfl rfl tie noOwnUnsafe
theorem fnIsIdentity_row_tie : Rows.fnIsIdentityRow.laidByTextAt .later Tryd.pinned [.data] true :=
  OpenClaim.laidByTextAt_later rfl rfl tie noOwnUnsafe
theorem fnFqSqrt_row_tie : Rows.fnFqSqrtRow.laidByTextAt .later Tryd.pinned [.data] true :=
  OpenClaim.laidByTextAt_later rfl rfl tie noOwnUnsafe
theorem tie2 : Tryd.prog.laidByTextLater [("loop.example/pub-g03039/pub/circl/fourq.modulusP", Rows.laid_loop_example_pub_g03039_pub_circl_fourq_modulusP), ("loop.example/pub-g03039/pub/circl/fourq.paramD", Rows.laid_loop_example_pub_g03039_pub_circl_fourq_paramD)] [.data, .data] true :=
  Program.laidByTextLater.sub seatTie1 ["loop.example/pub-g03039/pub/circl/fourq.modulusP", "loop.example/pub-g03039/pub/circl/fourq.paramD"] (by kernel_rfl) (by kernel_rfl)
theorem fnPlus_row_tie : Rows.fnPlusRow.laidByTextAt .later Tryd.pinned [.data, .data] true :=
  OpenClaim.laidByTextAt_later rfl rfl tie2 noOwnUnsafe
theorem fnEncode_row_tie : Rows.fnEncodeRow.laidByTextAt .later Tryd.pinned [.data, .data] true :=
  OpenClaim.laidByTextAt_later rfl rfl tie2 noOwnUnsafe
theorem tie3 : Tryd.prog.laidByTextLater [("loop.example/pub-g03039/pub/circl/fourq.modulusP", Rows.laid_loop_example_pub_g03039_pub_circl_fourq_modulusP), ("loop.example/pub-g03039/pub/circl/fourq.orderGenerator", Rows.laid_loop_example_pub_g03039_pub_circl_fourq_orderGenerator), ("loop.example/pub-g03039/pub/circl/fourq.paramD", Rows.laid_loop_example_pub_g03039_pub_circl_fourq_paramD), ("loop.example/pub-g03039/pub/circl/fourq.genX", Rows.laid_loop_example_pub_g03039_pub_circl_fourq_genX), ("loop.example/pub-g03039/pub/circl/fourq.genY", Rows.laid_loop_example_pub_g03039_pub_circl_fourq_genY)] [.data, .data, .data, .data, .data] true :=
  Program.laidByTextLater.sub seatTie1 ["loop.example/pub-g03039/pub/circl/fourq.modulusP", "loop.example/pub-g03039/pub/circl/fourq.orderGenerator", "loop.example/pub-g03039/pub/circl/fourq.paramD", "loop.example/pub-g03039/pub/circl/fourq.genX", "loop.example/pub-g03039/pub/circl/fourq.genY"] (by kernel_rfl) (by kernel_rfl)
theorem fnBase_row_tie : Rows.fnBaseRow.laidByTextAt .later Tryd.pinned [.data, .data, .data, .data, .data] true :=
  OpenClaim.laidByTextAt_later rfl rfl tie3 noOwnUnsafe
theorem tie4 : Tryd.prog.laidByTextLater [("loop.example/pub-g03039/pub/circl/fourq.modulusP", Rows.laid_loop_example_pub_g03039_pub_circl_fourq_modulusP), ("loop.example/pub-g03039/pub/circl/fourq.paramD", Rows.laid_loop_example_pub_g03039_pub_circl_fourq_paramD), ("loop.example/pub-g03039/pub/circl/fourq.genX", Rows.laid_loop_example_pub_g03039_pub_circl_fourq_genX), ("loop.example/pub-g03039/pub/circl/fourq.genY", Rows.laid_loop_example_pub_g03039_pub_circl_fourq_genY)] [.data, .data, .data, .data] true :=
  Program.laidByTextLater.sub seatTie1 ["loop.example/pub-g03039/pub/circl/fourq.modulusP", "loop.example/pub-g03039/pub/circl/fourq.paramD", "loop.example/pub-g03039/pub/circl/fourq.genX", "loop.example/pub-g03039/pub/circl/fourq.genY"] (by kernel_rfl) (by kernel_rfl)
theorem fnGroup_row_tie : Rows.fnGroupRow.laidByTextAt .later Tryd.pinned [.data, .data, .data, .data] true :=
  OpenClaim.laidByTextAt_later rfl rfl tie4 noOwnUnsafe
theorem tie5 : Tryd.prog.laidByTextLater [("loop.example/pub-g03039/pub/circl/fourq.modulusP", Rows.laid_loop_example_pub_g03039_pub_circl_fourq_modulusP), ("loop.example/pub-g03039/pub/circl/fourq.orderGenerator", Rows.laid_loop_example_pub_g03039_pub_circl_fourq_orderGenerator), ("loop.example/pub-g03039/pub/circl/fourq.paramD", Rows.laid_loop_example_pub_g03039_pub_circl_fourq_paramD)] [.data, .data, .data] true :=
  Program.laidByTextLater.sub seatTie1 ["loop.example/pub-g03039/pub/circl/fourq.modulusP", "loop.example/pub-g03039/pub/circl/fourq.orderGenerator", "loop.example/pub-g03039/pub/circl/fourq.paramD"] (by kernel_rfl) (by kernel_rfl)
theorem fnTimes_row_tie : Rows.fnTimesRow.laidByTextAt .later Tryd.pinned [.data, .data, .data] true :=
  OpenClaim.laidByTextAt_later rfl rfl tie5 noOwnUnsafe
theorem fnFpBytesUpto_row_tie : Rows.fnFpBytesUptoRow.laidByTextAt .later Tryd.pinned [.data] true :=
  OpenClaim.laidByTextAt_later rfl rfl tie noOwnUnsafe
theorem fnIsIdentityUpto_row_tie : Rows.fnIsIdentityUptoRow.laidByTextAt .later Tryd.pinned [.data] true :=
  OpenClaim.laidByTextAt_later rfl rfl tie noOwnUnsafe
theorem fnPlusUpto_row_tie : Rows.fnPlusUptoRow.laidByTextAt .later Tryd.pinned [.data, .data] true :=
  OpenClaim.laidByTextAt_later rfl rfl tie2 noOwnUnsafe
theorem fnFqSqrtUpto_row_tie : Rows.fnFqSqrtUptoRow.laidByTextAt .later Tryd.pinned [.data] true :=
  OpenClaim.laidByTextAt_later rfl rfl tie noOwnUnsafe
theorem fnBaseUpto_row_tie : Rows.fnBaseUptoRow.laidByTextAt .later Tryd.pinned [.data, .data, .data, .data, .data] true :=
  OpenClaim.laidByTextAt_later rfl rfl tie3 noOwnUnsafe
theorem fnGroupUpto_row_tie : Rows.fnGroupUptoRow.laidByTextAt .later Tryd.pinned [.data, .data, .data, .data] true :=
  OpenClaim.laidByTextAt_later rfl rfl tie4 noOwnUnsafe
theorem fnEncodeUpto_row_tie : Rows.fnEncodeUptoRow.laidByTextAt .later Tryd.pinned [.data, .data] true :=
  OpenClaim.laidByTextAt_later rfl rfl tie2 noOwnUnsafe
theorem fnTimesUpto_row_tie : Rows.fnTimesUptoRow.laidByTextAt .later Tryd.pinned [.data, .data, .data] true :=
  OpenClaim.laidByTextAt_later rfl rfl tie5 noOwnUnsafe
end Go.Proofs.YtfkfljohhabldaaDoor
