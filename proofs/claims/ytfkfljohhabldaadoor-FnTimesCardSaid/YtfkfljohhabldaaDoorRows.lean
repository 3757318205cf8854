/-
  NARROWER THAN 'FOR EVERY INPUT', by the rows' own cells (each row's printed sentence says how): FnFpBytes: laid · FnIsIdentity: laid · FnPlus: laid · FnFqSqrt: laid · FnBase: laid · FnGroup: laid · FnEncode: laid · FnTimes: laid.
  DERIVED. THE GIVEN ROWS OF THIS SEAT. 8 by the template 'for every input the law returns true; each argument reads behind the call as it read before'; 0 by the template 'total and deterministic' (their statements: YtfkfljohhabldaaDoorTotals.lean).
  GIVEN WITH THE SEED: the statements are not yours to turn. If you find one false, say at which input.
  Laid BY PROGRAM, IN A SANDBOX (cutbox-rows.mjs): the forced cells as the released guide's own fill.sh prints them over the translation f52c891291529ebc… (all of the seat's roots in one cut). By AI agents, Wed Nov 11 2026. No macro, syntax, notation, axiom, sorry.
-/
import Derived.Test.YtfkfljohhabldaaDoorChecked
import GoSem.Claim
import GoSem.ClaimJoined
import GoSem.ClaimMapViews
import Derived.JoinedTies
import Derived.KernelRfl
namespace Go.Proofs.YtfkfljohhabldaaDoor
/- THE CELL 'sum', in the pinned program and in every row, IS THE sha256 OF THE DUMP (.gsa) THAT YtfkfljohhabldaaDoorProg.lean LOADS. Nothing in Lean hashes anything: it is a label: what it is worth is what the hold of that sum in a sandbox is worth. -/
noncomputable def Tryd.pinned : Pinned := { name := "ytfkfljohhabldaadoor", sum := "f52c891291529ebce12249d1ceb5723f345be6de81fb9a4eb726a4da5a7602a4", checked := Tryd.checked }
namespace Rows
def none {H : Type} : Left H := { results := [], args := [] }

/- WHAT THE LISTED PACKAGE-LEVEL VARIABLES READ AS WHEN THE CALL BEGINS. Each datum BY PROGRAM (the guide's laid-datum.mjs) off the statement by which the dump's own 'gosem.cut.vars' lays the variable. In a bare row this is a premise. The card (YtfkfljohhabldaaDoorCards.lean) ties it to the program's text. -/
def laid_loop_example_pub_g03039_pub_circl_fourq_modulusP {H : Type} : DataW H := .agg [.lit (.int .u8 255), .lit (.int .u8 255), .lit (.int .u8 255), .lit (.int .u8 255), .lit (.int .u8 255), .lit (.int .u8 255), .lit (.int .u8 255), .lit (.int .u8 255), .lit (.int .u8 255), .lit (.int .u8 255), .lit (.int .u8 255), .lit (.int .u8 255), .lit (.int .u8 255), .lit (.int .u8 255), .lit (.int .u8 255), .lit (.int .u8 127)]
def laid_loop_example_pub_g03039_pub_circl_fourq_paramD {H : Type} : DataW H := .agg [.agg [.lit (.int .u8 66), .lit (.int .u8 1), .lit (.int .u8 0), .lit (.int .u8 0), .lit (.int .u8 0), .lit (.int .u8 0), .lit (.int .u8 0), .lit (.int .u8 0), .lit (.int .u8 228), .lit (.int .u8 0), .lit (.int .u8 0), .lit (.int .u8 0), .lit (.int .u8 0), .lit (.int .u8 0), .lit (.int .u8 0), .lit (.int .u8 0)], .agg [.lit (.int .u8 141), .lit (.int .u8 12), .lit (.int .u8 252), .lit (.int .u8 241), .lit (.int .u8 136), .lit (.int .u8 20), .lit (.int .u8 130), .lit (.int .u8 179), .lit (.int .u8 252), .lit (.int .u8 224), .lit (.int .u8 87), .lit (.int .u8 102), .lit (.int .u8 132), .lit (.int .u8 47), .lit (.int .u8 71), .lit (.int .u8 94)]]
def laid_loop_example_pub_g03039_pub_circl_fourq_orderGenerator {H : Type} : DataW H := .agg [.lit (.int .u64 3436901888089820391), .lit (.int .u64 16122042576031152537), .lit (.int .u64 17317351579400803557), .lit (.int .u64 11764505149049458)]
def laid_loop_example_pub_g03039_pub_circl_fourq_genX {H : Type} : DataW H := .agg [.agg [.lit (.int .u8 170), .lit (.int .u8 51), .lit (.int .u8 56), .lit (.int .u8 123), .lit (.int .u8 173), .lit (.int .u8 146), .lit (.int .u8 101), .lit (.int .u8 40), .lit (.int .u8 5), .lit (.int .u8 179), .lit (.int .u8 47), .lit (.int .u8 124), .lit (.int .u8 35), .lit (.int .u8 114), .lit (.int .u8 52), .lit (.int .u8 26)], .agg [.lit (.int .u8 246), .lit (.int .u8 119), .lit (.int .u8 172), .lit (.int .u8 96), .lit (.int .u8 179), .lit (.int .u8 159), .lit (.int .u8 134), .lit (.int .u8 150), .lit (.int .u8 156), .lit (.int .u8 170), .lit (.int .u8 120), .lit (.int .u8 40), .lit (.int .u8 63), .lit (.int .u8 85), .lit (.int .u8 31), .lit (.int .u8 30)]]
def laid_loop_example_pub_g03039_pub_circl_fourq_genY {H : Type} : DataW H := .agg [.agg [.lit (.int .u8 135), .lit (.int .u8 178), .lit (.int .u8 203), .lit (.int .u8 43), .lit (.int .u8 70), .lit (.int .u8 162), .lit (.int .u8 36), .lit (.int .u8 185), .lit (.int .u8 90), .lit (.int .u8 120), .lit (.int .u8 32), .lit (.int .u8 161), .lit (.int .u8 155), .lit (.int .u8 238), .lit (.int .u8 63), .lit (.int .u8 14)], .agg [.lit (.int .u8 92), .lit (.int .u8 139), .lit (.int .u8 76), .lit (.int .u8 132), .lit (.int .u8 68), .lit (.int .u8 195), .lit (.int .u8 167), .lit (.int .u8 73), .lit (.int .u8 66), .lit (.int .u8 2), .lit (.int .u8 14), .lit (.int .u8 99), .lit (.int .u8 248), .lit (.int .u8 74), .lit (.int .u8 28), .lit (.int .u8 110)]]

/-- 'laws.FnFpBytes': WHATEVER THE INPUT: true; the input reads as it did. -/
def fnFpBytesSpec : ChangeSpec := { name := "fnFpBytes", vars := ["loop.example/pub-g03039/pub/circl/fourq.modulusP"], fn := fun _ => fun
  | [d, g1] => { results := [.lit (.bool true)], args := [d], vars := [g1] }
  | _ => none }
def fnFpBytesRow : OpenClaim := { program := "ytfkfljohhabldaadoor", sum := "f52c891291529ebce12249d1ceb5723f345be6de81fb9a4eb726a4da5a7602a4", func := "loop.example/pub-g03039/laws.FnFpBytes", spec := "fnFpBytes", inPlace := ["math/bits.Sub64", "math/bits.Add64"], named := ["loop.example/pub-g03039/pub/circl/fourq.modulusP", "encoding/binary.LittleEndian"], apart := false, laid := [("loop.example/pub-g03039/pub/circl/fourq.modulusP", laid_loop_example_pub_g03039_pub_circl_fourq_modulusP)] }
def FnFpBytesSaid : Prop := fnFpBytesRow.holds Tryd.pinned (OpenSpec.ofChange fnFpBytesSpec)

/-- ITS FALSE NEIGHBOUR: 'it returns false'. Refute it at one input. -/
def fnFpBytesWrong : ChangeSpec := { name := "fnFpBytes", vars := ["loop.example/pub-g03039/pub/circl/fourq.modulusP"], fn := fun _ => fun
  | [d, g1] => { results := [.lit (.bool false)], args := [d], vars := [g1] }
  | _ => none }
def FnFpBytesWrongFalsely : Prop := fnFpBytesRow.holds Tryd.pinned (OpenSpec.ofChange fnFpBytesWrong)

/-- 'laws.FnIsIdentity': WHATEVER THE INPUT: true; the input reads as it did. -/
def fnIsIdentitySpec : ChangeSpec := { name := "fnIsIdentity", vars := ["loop.example/pub-g03039/pub/circl/fourq.modulusP"], fn := fun _ => fun
  | [d, g1] => { results := [.lit (.bool true)], args := [d], vars := [g1] }
  | _ => none }
def fnIsIdentityRow : OpenClaim := { program := "ytfkfljohhabldaadoor", sum := "f52c891291529ebce12249d1ceb5723f345be6de81fb9a4eb726a4da5a7602a4", func := "loop.example/pub-g03039/laws.FnIsIdentity", spec := "fnIsIdentity", inPlace := ["math/bits.Add64", "math/bits.Sub64", "crypto/internal/constanttime.boolToUint8"], named := ["encoding/binary.LittleEndian", "loop.example/pub-g03039/pub/circl/fourq.modulusP"], apart := false, laid := [("loop.example/pub-g03039/pub/circl/fourq.modulusP", laid_loop_example_pub_g03039_pub_circl_fourq_modulusP)] }
def FnIsIdentitySaid : Prop := fnIsIdentityRow.holds Tryd.pinned (OpenSpec.ofChange fnIsIdentitySpec)

/-- ITS FALSE NEIGHBOUR: 'it returns false'. Refute it at one input. -/
def fnIsIdentityWrong : ChangeSpec := { name := "fnIsIdentity", vars := ["loop.example/pub-g03039/pub/circl/fourq.modulusP"], fn := fun _ => fun
  | [d, g1] => { results := [.lit (.bool false)], args := [d], vars := [g1] }
  | _ => none }
def FnIsIdentityWrongFalsely : Prop := fnIsIdentityRow.holds Tryd.pinned (OpenSpec.ofChange fnIsIdentityWrong)

/-- 'laws.FnPlus': WHATEVER THE INPUT: true; the input reads as it did. -/
def fnPlusSpec : ChangeSpec := { name := "fnPlus", vars := ["loop.example/pub-g03039/pub/circl/fourq.paramD", "loop.example/pub-g03039/pub/circl/fourq.modulusP"], fn := fun _ => fun
  | [d1, d2, g1, g2] => { results := [.lit (.bool true)], args := [d1, d2], vars := [g1, g2] }
  | _ => none }
def fnPlusRow : OpenClaim := { program := "ytfkfljohhabldaadoor", sum := "f52c891291529ebce12249d1ceb5723f345be6de81fb9a4eb726a4da5a7602a4", func := "loop.example/pub-g03039/laws.FnPlus", spec := "fnPlus", inPlace := ["math/bits.Add64", "math/bits.Sub64"], named := ["loop.example/pub-g03039/pub/circl/fourq.paramD", "encoding/binary.LittleEndian", "loop.example/pub-g03039/pub/circl/fourq.modulusP"], apart := false, laid := [("loop.example/pub-g03039/pub/circl/fourq.modulusP", laid_loop_example_pub_g03039_pub_circl_fourq_modulusP), ("loop.example/pub-g03039/pub/circl/fourq.paramD", laid_loop_example_pub_g03039_pub_circl_fourq_paramD)] }
def FnPlusSaid : Prop := fnPlusRow.holds Tryd.pinned (OpenSpec.ofChange fnPlusSpec)

/-- ITS FALSE NEIGHBOUR: 'it returns false'. Refute it at one input. -/
def fnPlusWrong : ChangeSpec := { name := "fnPlus", vars := ["loop.example/pub-g03039/pub/circl/fourq.paramD", "loop.example/pub-g03039/pub/circl/fourq.modulusP"], fn := fun _ => fun
  | [d1, d2, g1, g2] => { results := [.lit (.bool false)], args := [d1, d2], vars := [g1, g2] }
  | _ => none }
def FnPlusWrongFalsely : Prop := fnPlusRow.holds Tryd.pinned (OpenSpec.ofChange fnPlusWrong)

/-- 'laws.FnFqSqrt': WHATEVER THE INPUT: true; the input reads as it did. -/
def fnFqSqrtSpec : ChangeSpec := { name := "fnFqSqrt", vars := ["loop.example/pub-g03039/pub/circl/fourq.modulusP"], fn := fun _ => fun
  | [d1, d2, d3, g1] => { results := [.lit (.bool true)], args := [d1, d2, d3], vars := [g1] }
  | _ => none }
def fnFqSqrtRow : OpenClaim := { program := "ytfkfljohhabldaadoor", sum := "f52c891291529ebce12249d1ceb5723f345be6de81fb9a4eb726a4da5a7602a4", func := "loop.example/pub-g03039/laws.FnFqSqrt", spec := "fnFqSqrt", inPlace := ["math/bits.Add64", "math/bits.Sub64", "crypto/internal/constanttime.boolToUint8"], named := ["encoding/binary.LittleEndian", "loop.example/pub-g03039/pub/circl/fourq.modulusP"], apart := false, laid := [("loop.example/pub-g03039/pub/circl/fourq.modulusP", laid_loop_example_pub_g03039_pub_circl_fourq_modulusP)] }
def FnFqSqrtSaid : Prop := fnFqSqrtRow.holds Tryd.pinned (OpenSpec.ofChange fnFqSqrtSpec)

/-- ITS FALSE NEIGHBOUR: 'it returns false'. Refute it at one input. -/
def fnFqSqrtWrong : ChangeSpec := { name := "fnFqSqrt", vars := ["loop.example/pub-g03039/pub/circl/fourq.modulusP"], fn := fun _ => fun
  | [d1, d2, d3, g1] => { results := [.lit (.bool false)], args := [d1, d2, d3], vars := [g1] }
  | _ => none }
def FnFqSqrtWrongFalsely : Prop := fnFqSqrtRow.holds Tryd.pinned (OpenSpec.ofChange fnFqSqrtWrong)

/-- 'laws.FnBase': WHATEVER THE INPUT: true; the input reads as it did. -/
def fnBaseSpec : ChangeSpec := { name := "fnBase", vars := ["loop.example/pub-g03039/pub/circl/fourq.paramD", "loop.example/pub-g03039/pub/circl/fourq.modulusP", "loop.example/pub-g03039/pub/circl/fourq.orderGenerator", "loop.example/pub-g03039/pub/circl/fourq.genX", "loop.example/pub-g03039/pub/circl/fourq.genY"], fn := fun _ => fun
  | [d, g1, g2, g3, g4, g5] => { results := [.lit (.bool true)], args := [d], vars := [g1, g2, g3, g4, g5] }
  | _ => none }
def fnBaseRow : OpenClaim := { program := "ytfkfljohhabldaadoor", sum := "f52c891291529ebce12249d1ceb5723f345be6de81fb9a4eb726a4da5a7602a4", func := "loop.example/pub-g03039/laws.FnBase", spec := "fnBase", inPlace := ["math/bits.Sub64", "math/bits.Add64", "crypto/internal/constanttime.boolToUint8"], named := ["loop.example/pub-g03039/pub/circl/fourq.paramD", "loop.example/pub-g03039/pub/circl/fourq.modulusP", "encoding/binary.LittleEndian", "loop.example/pub-g03039/pub/circl/fourq.orderGenerator", "loop.example/pub-g03039/pub/circl/fourq.genX", "loop.example/pub-g03039/pub/circl/fourq.genY"], apart := false, laid := [("loop.example/pub-g03039/pub/circl/fourq.modulusP", laid_loop_example_pub_g03039_pub_circl_fourq_modulusP), ("loop.example/pub-g03039/pub/circl/fourq.orderGenerator", laid_loop_example_pub_g03039_pub_circl_fourq_orderGenerator), ("loop.example/pub-g03039/pub/circl/fourq.paramD", laid_loop_example_pub_g03039_pub_circl_fourq_paramD), ("loop.example/pub-g03039/pub/circl/fourq.genX", laid_loop_example_pub_g03039_pub_circl_fourq_genX), ("loop.example/pub-g03039/pub/circl/fourq.genY", laid_loop_example_pub_g03039_pub_circl_fourq_genY)] }
def FnBaseSaid : Prop := fnBaseRow.holds Tryd.pinned (OpenSpec.ofChange fnBaseSpec)

/-- ITS FALSE NEIGHBOUR: 'it returns false'. Refute it at one input. -/
def fnBaseWrong : ChangeSpec := { name := "fnBase", vars := ["loop.example/pub-g03039/pub/circl/fourq.paramD", "loop.example/pub-g03039/pub/circl/fourq.modulusP", "loop.example/pub-g03039/pub/circl/fourq.orderGenerator", "loop.example/pub-g03039/pub/circl/fourq.genX", "loop.example/pub-g03039/pub/circl/fourq.genY"], fn := fun _ => fun
  | [d, g1, g2, g3, g4, g5] => { results := [.lit (.bool false)], args := [d], vars := [g1, g2, g3, g4, g5] }
  | _ => none }
def FnBaseWrongFalsely : Prop := fnBaseRow.holds Tryd.pinned (OpenSpec.ofChange fnBaseWrong)

/-- 'laws.FnGroup': WHATEVER THE INPUT: true; the input reads as it did. -/
def fnGroupSpec : ChangeSpec := { name := "fnGroup", vars := ["loop.example/pub-g03039/pub/circl/fourq.paramD", "loop.example/pub-g03039/pub/circl/fourq.modulusP", "loop.example/pub-g03039/pub/circl/fourq.genX", "loop.example/pub-g03039/pub/circl/fourq.genY"], fn := fun _ => fun
  | [d1, d2, d3, g1, g2, g3, g4] => { results := [.lit (.bool true)], args := [d1, d2, d3], vars := [g1, g2, g3, g4] }
  | _ => none }
def fnGroupRow : OpenClaim := { program := "ytfkfljohhabldaadoor", sum := "f52c891291529ebce12249d1ceb5723f345be6de81fb9a4eb726a4da5a7602a4", func := "loop.example/pub-g03039/laws.FnGroup", spec := "fnGroup", inPlace := ["math/bits.Add64", "math/bits.Sub64", "crypto/internal/constanttime.boolToUint8"], named := ["loop.example/pub-g03039/pub/circl/fourq.paramD", "encoding/binary.LittleEndian", "loop.example/pub-g03039/pub/circl/fourq.modulusP", "loop.example/pub-g03039/pub/circl/fourq.genX", "loop.example/pub-g03039/pub/circl/fourq.genY"], apart := false, laid := [("loop.example/pub-g03039/pub/circl/fourq.modulusP", laid_loop_example_pub_g03039_pub_circl_fourq_modulusP), ("loop.example/pub-g03039/pub/circl/fourq.paramD", laid_loop_example_pub_g03039_pub_circl_fourq_paramD), ("loop.example/pub-g03039/pub/circl/fourq.genX", laid_loop_example_pub_g03039_pub_circl_fourq_genX), ("loop.example/pub-g03039/pub/circl/fourq.genY", laid_loop_example_pub_g03039_pub_circl_fourq_genY)] }
def FnGroupSaid : Prop := fnGroupRow.holds Tryd.pinned (OpenSpec.ofChange fnGroupSpec)

/-- ITS FALSE NEIGHBOUR: 'it returns false'. Refute it at one input. -/
def fnGroupWrong : ChangeSpec := { name := "fnGroup", vars := ["loop.example/pub-g03039/pub/circl/fourq.paramD", "loop.example/pub-g03039/pub/circl/fourq.modulusP", "loop.example/pub-g03039/pub/circl/fourq.genX", "loop.example/pub-g03039/pub/circl/fourq.genY"], fn := fun _ => fun
  | [d1, d2, d3, g1, g2, g3, g4] => { results := [.lit (.bool false)], args := [d1, d2, d3], vars := [g1, g2, g3, g4] }
  | _ => none }
def FnGroupWrongFalsely : Prop := fnGroupRow.holds Tryd.pinned (OpenSpec.ofChange fnGroupWrong)

/-- 'laws.FnEncode': WHATEVER THE INPUT: true; the input reads as it did. -/
def fnEncodeSpec : ChangeSpec := { name := "fnEncode", vars := ["loop.example/pub-g03039/pub/circl/fourq.modulusP", "loop.example/pub-g03039/pub/circl/fourq.paramD"], fn := fun _ => fun
  | [d, g1, g2] => { results := [.lit (.bool true)], args := [d], vars := [g1, g2] }
  | _ => none }
def fnEncodeRow : OpenClaim := { program := "ytfkfljohhabldaadoor", sum := "f52c891291529ebce12249d1ceb5723f345be6de81fb9a4eb726a4da5a7602a4", func := "loop.example/pub-g03039/laws.FnEncode", spec := "fnEncode", inPlace := ["math/bits.Sub64", "math/bits.Add64", "crypto/internal/constanttime.boolToUint8"], named := ["loop.example/pub-g03039/pub/circl/fourq.modulusP", "encoding/binary.LittleEndian", "loop.example/pub-g03039/pub/circl/fourq.paramD"], apart := false, laid := [("loop.example/pub-g03039/pub/circl/fourq.modulusP", laid_loop_example_pub_g03039_pub_circl_fourq_modulusP), ("loop.example/pub-g03039/pub/circl/fourq.paramD", laid_loop_example_pub_g03039_pub_circl_fourq_paramD)] }
def FnEncodeSaid : Prop := fnEncodeRow.holds Tryd.pinned (OpenSpec.ofChange fnEncodeSpec)

/-- ITS FALSE NEIGHBOUR: 'it returns false'. Refute it at one input. -/
def fnEncodeWrong : ChangeSpec := { name := "fnEncode", vars := ["loop.example/pub-g03039/pub/circl/fourq.modulusP", "loop.example/pub-g03039/pub/circl/fourq.paramD"], fn := fun _ => fun
  | [d, g1, g2] => { results := [.lit (.bool false)], args := [d], vars := [g1, g2] }
  | _ => none }
def FnEncodeWrongFalsely : Prop := fnEncodeRow.holds Tryd.pinned (OpenSpec.ofChange fnEncodeWrong)

/-- 'laws.FnTimes': WHATEVER THE INPUT: true; the input reads as it did. -/
def fnTimesSpec : ChangeSpec := { name := "fnTimes", vars := ["loop.example/pub-g03039/pub/circl/fourq.paramD", "loop.example/pub-g03039/pub/circl/fourq.orderGenerator", "loop.example/pub-g03039/pub/circl/fourq.modulusP"], fn := fun _ => fun
  | [d1, d2, g1, g2, g3] => { results := [.lit (.bool true)], args := [d1, d2], vars := [g1, g2, g3] }
  | _ => none }
def fnTimesRow : OpenClaim := { program := "ytfkfljohhabldaadoor", sum := "f52c891291529ebce12249d1ceb5723f345be6de81fb9a4eb726a4da5a7602a4", func := "loop.example/pub-g03039/laws.FnTimes", spec := "fnTimes", inPlace := ["math/bits.Add64", "math/bits.Sub64"], named := ["loop.example/pub-g03039/pub/circl/fourq.paramD", "encoding/binary.LittleEndian", "loop.example/pub-g03039/pub/circl/fourq.orderGenerator", "loop.example/pub-g03039/pub/circl/fourq.modulusP"], apart := false, laid := [("loop.example/pub-g03039/pub/circl/fourq.modulusP", laid_loop_example_pub_g03039_pub_circl_fourq_modulusP), ("loop.example/pub-g03039/pub/circl/fourq.orderGenerator", laid_loop_example_pub_g03039_pub_circl_fourq_orderGenerator), ("loop.example/pub-g03039/pub/circl/fourq.paramD", laid_loop_example_pub_g03039_pub_circl_fourq_paramD)] }
def FnTimesSaid : Prop := fnTimesRow.holds Tryd.pinned (OpenSpec.ofChange fnTimesSpec)

/-- ITS FALSE NEIGHBOUR: 'it returns false'. Refute it at one input. -/
def fnTimesWrong : ChangeSpec := { name := "fnTimes", vars := ["loop.example/pub-g03039/pub/circl/fourq.paramD", "loop.example/pub-g03039/pub/circl/fourq.orderGenerator", "loop.example/pub-g03039/pub/circl/fourq.modulusP"], fn := fun _ => fun
  | [d1, d2, g1, g2, g3] => { results := [.lit (.bool false)], args := [d1, d2], vars := [g1, g2, g3] }
  | _ => none }
def FnTimesWrongFalsely : Prop := fnTimesRow.holds Tryd.pinned (OpenSpec.ofChange fnTimesWrong)

/- THE SECOND FORM. 'bulk': how many values and letters a reading holds, each counted each time it is reached (what is shared counts as often as it is met; a slice's spare places count too). A statement '..UptoSaid' is the law's where the arguments, and the package variables that the reading takes, are together of bulk at most 1048576: NARROWER than '..Said'. Prove '..Said' where nothing that the law and all that it calls make is longer than what came in: it says more and counts as full. Else prove '..UptoSaid'. A law counts once. -/
mutual
def uptoBulk {H : Type} : DataW H → Nat
  | .lit (.string bytes) => bytes.length + 1
  | .lit _ => 1
  | .nil => 1
  | .ptr d => uptoBulk d + 1
  | .slice elems spare => uptoBulkAll elems + uptoBulkAll spare + 1
  | .agg parts => uptoBulkAll parts + 1
  | .iface _ d => uptoBulk d + 1
  | .map entries => uptoBulkEntries entries + 1
  | .held _ => 1
def uptoBulkAll {H : Type} : List (DataW H) → Nat
  | [] => 0
  | d :: r => uptoBulk d + uptoBulkAll r
def uptoBulkEntries {H : Type} : List (Lit × DataW H) → Nat
  | [] => 0
  | x :: r => uptoBulkEntry x + uptoBulkEntries r
def uptoBulkEntry {H : Type} : Lit × DataW H → Nat
  | (.string bytes, d) => bytes.length + uptoBulk d + 1
  | (_, d) => uptoBulk d + 1
 end
def uptoSmall : (H : Type) → List (DataW H) → Bool := fun _ ds => decide (uptoBulkAll ds ≤ 1048576)
def OpenSpec.upto (s : _root_.Go.ChangeSpec) : _root_.Go.OpenSpec := { _root_.Go.OpenSpec.ofChange s with cond := some uptoSmall }

/-- 'laws.FnFpBytes', WHERE WHAT IT READS IS OF BULK AT MOST 1048576: true; the input reads as it did. -/
def fnFpBytesUptoRow : OpenClaim := { program := "ytfkfljohhabldaadoor", sum := "f52c891291529ebce12249d1ceb5723f345be6de81fb9a4eb726a4da5a7602a4", func := "loop.example/pub-g03039/laws.FnFpBytes", spec := "fnFpBytes", inPlace := ["math/bits.Sub64", "math/bits.Add64"], named := ["loop.example/pub-g03039/pub/circl/fourq.modulusP", "encoding/binary.LittleEndian"], apart := false, laid := [("loop.example/pub-g03039/pub/circl/fourq.modulusP", laid_loop_example_pub_g03039_pub_circl_fourq_modulusP)], narrowed := true }
def FnFpBytesUptoSaid : Prop := fnFpBytesUptoRow.holds Tryd.pinned (OpenSpec.upto fnFpBytesSpec)

/-- 'laws.FnIsIdentity', WHERE WHAT IT READS IS OF BULK AT MOST 1048576: true; the input reads as it did. -/
def fnIsIdentityUptoRow : OpenClaim := { program := "ytfkfljohhabldaadoor", sum := "f52c891291529ebce12249d1ceb5723f345be6de81fb9a4eb726a4da5a7602a4", func := "loop.example/pub-g03039/laws.FnIsIdentity", spec := "fnIsIdentity", inPlace := ["math/bits.Add64", "math/bits.Sub64", "crypto/internal/constanttime.boolToUint8"], named := ["encoding/binary.LittleEndian", "loop.example/pub-g03039/pub/circl/fourq.modulusP"], apart := false, laid := [("loop.example/pub-g03039/pub/circl/fourq.modulusP", laid_loop_example_pub_g03039_pub_circl_fourq_modulusP)], narrowed := true }
def FnIsIdentityUptoSaid : Prop := fnIsIdentityUptoRow.holds Tryd.pinned (OpenSpec.upto fnIsIdentitySpec)

/-- 'laws.FnPlus', WHERE WHAT IT READS IS OF BULK AT MOST 1048576: true; the input reads as it did. -/
def fnPlusUptoRow : OpenClaim := { program := "ytfkfljohhabldaadoor", sum := "f52c891291529ebce12249d1ceb5723f345be6de81fb9a4eb726a4da5a7602a4", func := "loop.example/pub-g03039/laws.FnPlus", spec := "fnPlus", inPlace := ["math/bits.Add64", "math/bits.Sub64"], named := ["loop.example/pub-g03039/pub/circl/fourq.paramD", "encoding/binary.LittleEndian", "loop.example/pub-g03039/pub/circl/fourq.modulusP"], apart := false, laid := [("loop.example/pub-g03039/pub/circl/fourq.modulusP", laid_loop_example_pub_g03039_pub_circl_fourq_modulusP), ("loop.example/pub-g03039/pub/circl/fourq.paramD", laid_loop_example_pub_g03039_pub_circl_fourq_paramD)], narrowed := true }
def FnPlusUptoSaid : Prop := fnPlusUptoRow.holds Tryd.pinned (OpenSpec.upto fnPlusSpec)

/-- 'laws.FnFqSqrt', WHERE WHAT IT READS IS OF BULK AT MOST 1048576: true; the input reads as it did. -/
def fnFqSqrtUptoRow : OpenClaim := { program := "ytfkfljohhabldaadoor", sum := "f52c891291529ebce12249d1ceb5723f345be6de81fb9a4eb726a4da5a7602a4", func := "loop.example/pub-g03039/laws.FnFqSqrt", spec := "fnFqSqrt", inPlace := ["math/bits.Add64", "math/bits.Sub64", "crypto/internal/constanttime.boolToUint8"], named := ["encoding/binary.LittleEndian", "loop.example/pub-g03039/pub/circl/fourq.modulusP"], apart := false, laid := [("loop.example/pub-g03039/pub/circl/fourq.modulusP", laid_loop_example_pub_g03039_pub_circl_fourq_modulusP)], narrowed := true }
def FnFqSqrtUptoSaid : Prop := fnFqSqrtUptoRow.holds Tryd.pinned (OpenSpec.upto fnFqSqrtSpec)

/-- 'laws.FnBase', WHERE WHAT IT READS IS OF BULK AT MOST 1048576: true; the input reads as it did. -/
def fnBaseUptoRow : OpenClaim := { program := "ytfkfljohhabldaadoor", sum := "f52c891291529ebce12249d1ceb5723f345be6de81fb9a4eb726a4da5a7602a4", func := "loop.example/pub-g03039/laws.FnBase", spec := "fnBase", inPlace := ["math/bits.Sub64", "math/bits.Add64", "crypto/internal/constanttime.boolToUint8"], named := ["loop.example/pub-g03039/pub/circl/fourq.paramD", "loop.example/pub-g03039/pub/circl/fourq.modulusP", "encoding/binary.LittleEndian", "loop.example/pub-g03039/pub/circl/fourq.orderGenerator", "loop.example/pub-g03039/pub/circl/fourq.genX", "loop.example/pub-g03039/pub/circl/fourq.genY"], apart := false, laid := [("loop.example/pub-g03039/pub/circl/fourq.modulusP", laid_loop_example_pub_g03039_pub_circl_fourq_modulusP), ("loop.example/pub-g03039/pub/circl/fourq.orderGenerator", laid_loop_example_pub_g03039_pub_circl_fourq_orderGenerator), ("loop.example/pub-g03039/pub/circl/fourq.paramD", laid_loop_example_pub_g03039_pub_circl_fourq_paramD), ("loop.example/pub-g03039/pub/circl/fourq.genX", laid_loop_example_pub_g03039_pub_circl_fourq_genX), ("loop.example/pub-g03039/pub/circl/fourq.genY", laid_loop_example_pub_g03039_pub_circl_fourq_genY)], narrowed := true }
def FnBaseUptoSaid : Prop := fnBaseUptoRow.holds Tryd.pinned (OpenSpec.upto fnBaseSpec)

/-- 'laws.FnGroup', WHERE WHAT IT READS IS OF BULK AT MOST 1048576: true; the input reads as it did. -/
def fnGroupUptoRow : OpenClaim := { program := "ytfkfljohhabldaadoor", sum := "f52c891291529ebce12249d1ceb5723f345be6de81fb9a4eb726a4da5a7602a4", func := "loop.example/pub-g03039/laws.FnGroup", spec := "fnGroup", inPlace := ["math/bits.Add64", "math/bits.Sub64", "crypto/internal/constanttime.boolToUint8"], named := ["loop.example/pub-g03039/pub/circl/fourq.paramD", "encoding/binary.LittleEndian", "loop.example/pub-g03039/pub/circl/fourq.modulusP", "loop.example/pub-g03039/pub/circl/fourq.genX", "loop.example/pub-g03039/pub/circl/fourq.genY"], apart := false, laid := [("loop.example/pub-g03039/pub/circl/fourq.modulusP", laid_loop_example_pub_g03039_pub_circl_fourq_modulusP), ("loop.example/pub-g03039/pub/circl/fourq.paramD", laid_loop_example_pub_g03039_pub_circl_fourq_paramD), ("loop.example/pub-g03039/pub/circl/fourq.genX", laid_loop_example_pub_g03039_pub_circl_fourq_genX), ("loop.example/pub-g03039/pub/circl/fourq.genY", laid_loop_example_pub_g03039_pub_circl_fourq_genY)], narrowed := true }
def FnGroupUptoSaid : Prop := fnGroupUptoRow.holds Tryd.pinned (OpenSpec.upto fnGroupSpec)

/-- 'laws.FnEncode', WHERE WHAT IT READS IS OF BULK AT MOST 1048576: true; the input reads as it did. -/
def fnEncodeUptoRow : OpenClaim := { program := "ytfkfljohhabldaadoor", sum := "f52c891291529ebce12249d1ceb5723f345be6de81fb9a4eb726a4da5a7602a4", func := "loop.example/pub-g03039/laws.FnEncode", spec := "fnEncode", inPlace := ["math/bits.Sub64", "math/bits.Add64", "crypto/internal/constanttime.boolToUint8"], named := ["loop.example/pub-g03039/pub/circl/fourq.modulusP", "encoding/binary.LittleEndian", "loop.example/pub-g03039/pub/circl/fourq.paramD"], apart := false, laid := [("loop.example/pub-g03039/pub/circl/fourq.modulusP", laid_loop_example_pub_g03039_pub_circl_fourq_modulusP), ("loop.example/pub-g03039/pub/circl/fourq.paramD", laid_loop_example_pub_g03039_pub_circl_fourq_paramD)], narrowed := true }
def FnEncodeUptoSaid : Prop := fnEncodeUptoRow.holds Tryd.pinned (OpenSpec.upto fnEncodeSpec)

/-- 'laws.FnTimes', WHERE WHAT IT READS IS OF BULK AT MOST 1048576: true; the input reads as it did. -/
def fnTimesUptoRow : OpenClaim := { program := "ytfkfljohhabldaadoor", sum := "f52c891291529ebce12249d1ceb5723f345be6de81fb9a4eb726a4da5a7602a4", func := "loop.example/pub-g03039/laws.FnTimes", spec := "fnTimes", inPlace := ["math/bits.Add64", "math/bits.Sub64"], named := ["loop.example/pub-g03039/pub/circl/fourq.paramD", "encoding/binary.LittleEndian", "loop.example/pub-g03039/pub/circl/fourq.orderGenerator", "loop.example/pub-g03039/pub/circl/fourq.modulusP"], apart := false, laid := [("loop.example/pub-g03039/pub/circl/fourq.modulusP", laid_loop_example_pub_g03039_pub_circl_fourq_modulusP), ("loop.example/pub-g03039/pub/circl/fourq.orderGenerator", laid_loop_example_pub_g03039_pub_circl_fourq_orderGenerator), ("loop.example/pub-g03039/pub/circl/fourq.paramD", laid_loop_example_pub_g03039_pub_circl_fourq_paramD)], narrowed := true }
def FnTimesUptoSaid : Prop := fnTimesUptoRow.holds Tryd.pinned (OpenSpec.upto fnTimesSpec)

end Rows
end Go.Proofs.YtfkfljohhabldaaDoor
