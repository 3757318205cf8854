/-
  NARROWER THAN 'FOR EVERY INPUT', by the rows' own cells (each row's printed sentence says how): FnFpBytes: laid · FnFpTells: laid · FnFpRing: laid · FnFqTells: laid · FnFpIs: laid · FnFpPower: laid · FnFqIs: laid · FnFpInv: laid · FnFqInv: laid · FnFqSqrt: laid.
  DERIVED. THE GIVEN ROWS OF THIS SEAT. 10 by the template 'for every input the law returns true; each argument reads behind the call as it read before'; 0 by the template 'total and deterministic' (their statements: YtpogbljoohdehaaDoorTotals.lean).
  GIVEN WITH THE SEED: the statements are not yours to turn. If you find one false, say at which input.
  Laid BY PROGRAM, IN A SANDBOX (cutbox-rows.mjs): the forced cells as the released guide's own fill.sh prints them over the translation 5715292b1431f6a8… (all of the seat's roots in one cut). By AI agents, Wed Nov 11 2026. No macro, syntax, notation, axiom, sorry.
-/
import Derived.Test.YtpogbljoohdehaaDoorChecked
import GoSem.Claim
import GoSem.ClaimJoined
import GoSem.ClaimMapViews
import Derived.JoinedTies
import Derived.KernelRfl
namespace Go.Proofs.YtpogbljoohdehaaDoor
/- THE CELL 'sum', in the pinned program and in every row, IS THE sha256 OF THE DUMP (.gsa) THAT YtpogbljoohdehaaDoorProg.lean LOADS. Nothing in Lean hashes anything: it is a label: what it is worth is what the hold of that sum in a sandbox is worth. -/
noncomputable def Tryd.pinned : Pinned := { name := "ytpogbljoohdehaadoor", sum := "5715292b1431f6a8452e04eb607be111528eaeaa0ada1969b7ec70522e82b495", checked := Tryd.checked }
namespace Rows
def none {H : Type} : Left H := { results := [], args := [] }

/- WHAT THE LISTED PACKAGE-LEVEL VARIABLES READ AS WHEN THE CALL BEGINS. Each datum BY PROGRAM (the guide's laid-datum.mjs) off the statement by which the dump's own 'gosem.cut.vars' lays the variable. In a bare row this is a premise. The card (YtpogbljoohdehaaDoorCards.lean) ties it to the program's text. -/
def laid_loop_example_pub_g03039_pub_circl_fourq_modulusP {H : Type} : DataW H := .agg [.lit (.int .u8 255), .lit (.int .u8 255), .lit (.int .u8 255), .lit (.int .u8 255), .lit (.int .u8 255), .lit (.int .u8 255), .lit (.int .u8 255), .lit (.int .u8 255), .lit (.int .u8 255), .lit (.int .u8 255), .lit (.int .u8 255), .lit (.int .u8 255), .lit (.int .u8 255), .lit (.int .u8 255), .lit (.int .u8 255), .lit (.int .u8 127)]

/-- 'laws.FnFpBytes': WHATEVER THE INPUT: true; the input reads as it did. -/
def fnFpBytesSpec : ChangeSpec := { name := "fnFpBytes", vars := ["loop.example/pub-g03039/pub/circl/fourq.modulusP"], fn := fun _ => fun
  | [d, g1] => { results := [.lit (.bool true)], args := [d], vars := [g1] }
  | _ => none }
def fnFpBytesRow : OpenClaim := { program := "ytpogbljoohdehaadoor", sum := "5715292b1431f6a8452e04eb607be111528eaeaa0ada1969b7ec70522e82b495", func := "loop.example/pub-g03039/laws.FnFpBytes", spec := "fnFpBytes", inPlace := ["math/bits.Sub64", "math/bits.Add64"], named := ["loop.example/pub-g03039/pub/circl/fourq.modulusP", "encoding/binary.LittleEndian"], apart := false, laid := [("loop.example/pub-g03039/pub/circl/fourq.modulusP", laid_loop_example_pub_g03039_pub_circl_fourq_modulusP)] }
def FnFpBytesSaid : Prop := fnFpBytesRow.holds Tryd.pinned (OpenSpec.ofChange fnFpBytesSpec)

/-- ITS FALSE NEIGHBOUR: 'it returns false'. Refute it at one input. -/
def fnFpBytesWrong : ChangeSpec := { name := "fnFpBytes", vars := ["loop.example/pub-g03039/pub/circl/fourq.modulusP"], fn := fun _ => fun
  | [d, g1] => { results := [.lit (.bool false)], args := [d], vars := [g1] }
  | _ => none }
def FnFpBytesWrongFalsely : Prop := fnFpBytesRow.holds Tryd.pinned (OpenSpec.ofChange fnFpBytesWrong)

/-- 'laws.FnFpTells': WHATEVER THE INPUT: true; the input reads as it did. -/
def fnFpTellsSpec : ChangeSpec := { name := "fnFpTells", vars := ["loop.example/pub-g03039/pub/circl/fourq.modulusP"], fn := fun _ => fun
  | [d, g1] => { results := [.lit (.bool true)], args := [d], vars := [g1] }
  | _ => none }
def fnFpTellsRow : OpenClaim := { program := "ytpogbljoohdehaadoor", sum := "5715292b1431f6a8452e04eb607be111528eaeaa0ada1969b7ec70522e82b495", func := "loop.example/pub-g03039/laws.FnFpTells", spec := "fnFpTells", inPlace := ["math/bits.Sub64", "math/bits.Add64", "crypto/internal/constanttime.boolToUint8"], named := ["loop.example/pub-g03039/pub/circl/fourq.modulusP", "encoding/binary.LittleEndian"], apart := false, laid := [("loop.example/pub-g03039/pub/circl/fourq.modulusP", laid_loop_example_pub_g03039_pub_circl_fourq_modulusP)] }
def FnFpTellsSaid : Prop := fnFpTellsRow.holds Tryd.pinned (OpenSpec.ofChange fnFpTellsSpec)

/-- ITS FALSE NEIGHBOUR: 'it returns false'. Refute it at one input. -/
def fnFpTellsWrong : ChangeSpec := { name := "fnFpTells", vars := ["loop.example/pub-g03039/pub/circl/fourq.modulusP"], fn := fun _ => fun
  | [d, g1] => { results := [.lit (.bool false)], args := [d], vars := [g1] }
  | _ => none }
def FnFpTellsWrongFalsely : Prop := fnFpTellsRow.holds Tryd.pinned (OpenSpec.ofChange fnFpTellsWrong)

/-- 'laws.FnFpRing': WHATEVER THE INPUT: true; the input reads as it did. -/
def fnFpRingSpec : ChangeSpec := { name := "fnFpRing", vars := ["loop.example/pub-g03039/pub/circl/fourq.modulusP"], fn := fun _ => fun
  | [d1, d2, d3, g1] => { results := [.lit (.bool true)], args := [d1, d2, d3], vars := [g1] }
  | _ => none }
def fnFpRingRow : OpenClaim := { program := "ytpogbljoohdehaadoor", sum := "5715292b1431f6a8452e04eb607be111528eaeaa0ada1969b7ec70522e82b495", func := "loop.example/pub-g03039/laws.FnFpRing", spec := "fnFpRing", inPlace := ["math/bits.Add64", "math/bits.Sub64"], named := ["encoding/binary.LittleEndian", "loop.example/pub-g03039/pub/circl/fourq.modulusP"], apart := false, laid := [("loop.example/pub-g03039/pub/circl/fourq.modulusP", laid_loop_example_pub_g03039_pub_circl_fourq_modulusP)] }
def FnFpRingSaid : Prop := fnFpRingRow.holds Tryd.pinned (OpenSpec.ofChange fnFpRingSpec)

/-- ITS FALSE NEIGHBOUR: 'it returns false'. Refute it at one input. -/
def fnFpRingWrong : ChangeSpec := { name := "fnFpRing", vars := ["loop.example/pub-g03039/pub/circl/fourq.modulusP"], fn := fun _ => fun
  | [d1, d2, d3, g1] => { results := [.lit (.bool false)], args := [d1, d2, d3], vars := [g1] }
  | _ => none }
def FnFpRingWrongFalsely : Prop := fnFpRingRow.holds Tryd.pinned (OpenSpec.ofChange fnFpRingWrong)

/-- 'laws.FnFqTells': WHATEVER THE INPUT: true; the input reads as it did. -/
def fnFqTellsSpec : ChangeSpec := { name := "fnFqTells", vars := ["loop.example/pub-g03039/pub/circl/fourq.modulusP"], fn := fun _ => fun
  | [d1, d2, d3, g1] => { results := [.lit (.bool true)], args := [d1, d2, d3], vars := [g1] }
  | _ => none }
def fnFqTellsRow : OpenClaim := { program := "ytpogbljoohdehaadoor", sum := "5715292b1431f6a8452e04eb607be111528eaeaa0ada1969b7ec70522e82b495", func := "loop.example/pub-g03039/laws.FnFqTells", spec := "fnFqTells", inPlace := ["math/bits.Sub64", "math/bits.Add64", "crypto/internal/constanttime.boolToUint8"], named := ["loop.example/pub-g03039/pub/circl/fourq.modulusP", "encoding/binary.LittleEndian"], apart := false, laid := [("loop.example/pub-g03039/pub/circl/fourq.modulusP", laid_loop_example_pub_g03039_pub_circl_fourq_modulusP)] }
def FnFqTellsSaid : Prop := fnFqTellsRow.holds Tryd.pinned (OpenSpec.ofChange fnFqTellsSpec)

/-- ITS FALSE NEIGHBOUR: 'it returns false'. Refute it at one input. -/
def fnFqTellsWrong : ChangeSpec := { name := "fnFqTells", vars := ["loop.example/pub-g03039/pub/circl/fourq.modulusP"], fn := fun _ => fun
  | [d1, d2, d3, g1] => { results := [.lit (.bool false)], args := [d1, d2, d3], vars := [g1] }
  | _ => none }
def FnFqTellsWrongFalsely : Prop := fnFqTellsRow.holds Tryd.pinned (OpenSpec.ofChange fnFqTellsWrong)

/-- 'laws.FnFpIs': WHATEVER THE INPUT: true; the input reads as it did. -/
def fnFpIsSpec : ChangeSpec := { name := "fnFpIs", vars := ["loop.example/pub-g03039/pub/circl/fourq.modulusP"], fn := fun _ => fun
  | [d1, d2, g1] => { results := [.lit (.bool true)], args := [d1, d2], vars := [g1] }
  | _ => none }
def fnFpIsRow : OpenClaim := { program := "ytpogbljoohdehaadoor", sum := "5715292b1431f6a8452e04eb607be111528eaeaa0ada1969b7ec70522e82b495", func := "loop.example/pub-g03039/laws.FnFpIs", spec := "fnFpIs", inPlace := ["math/bits.Add64", "math/bits.Sub64"], named := ["encoding/binary.LittleEndian", "loop.example/pub-g03039/pub/circl/fourq.modulusP"], apart := false, laid := [("loop.example/pub-g03039/pub/circl/fourq.modulusP", laid_loop_example_pub_g03039_pub_circl_fourq_modulusP)] }
def FnFpIsSaid : Prop := fnFpIsRow.holds Tryd.pinned (OpenSpec.ofChange fnFpIsSpec)

/-- ITS FALSE NEIGHBOUR: 'it returns false'. Refute it at one input. -/
def fnFpIsWrong : ChangeSpec := { name := "fnFpIs", vars := ["loop.example/pub-g03039/pub/circl/fourq.modulusP"], fn := fun _ => fun
  | [d1, d2, g1] => { results := [.lit (.bool false)], args := [d1, d2], vars := [g1] }
  | _ => none }
def FnFpIsWrongFalsely : Prop := fnFpIsRow.holds Tryd.pinned (OpenSpec.ofChange fnFpIsWrong)

/-- 'laws.FnFpPower': WHATEVER THE INPUT: true; the input reads as it did. -/
def fnFpPowerSpec : ChangeSpec := { name := "fnFpPower", vars := ["loop.example/pub-g03039/pub/circl/fourq.modulusP"], fn := fun _ => fun
  | [d, g1] => { results := [.lit (.bool true)], args := [d], vars := [g1] }
  | _ => none }
def fnFpPowerRow : OpenClaim := { program := "ytpogbljoohdehaadoor", sum := "5715292b1431f6a8452e04eb607be111528eaeaa0ada1969b7ec70522e82b495", func := "loop.example/pub-g03039/laws.FnFpPower", spec := "fnFpPower", inPlace := ["math/bits.Add64", "math/bits.Sub64"], unfollowed := true, recurses := true, named := ["encoding/binary.LittleEndian", "loop.example/pub-g03039/pub/circl/fourq.modulusP"], apart := false, laid := [("loop.example/pub-g03039/pub/circl/fourq.modulusP", laid_loop_example_pub_g03039_pub_circl_fourq_modulusP)] }
def FnFpPowerSaid : Prop := fnFpPowerRow.holds Tryd.pinned (OpenSpec.ofChange fnFpPowerSpec)

/-- ITS FALSE NEIGHBOUR: 'it returns false'. Refute it at one input. -/
def fnFpPowerWrong : ChangeSpec := { name := "fnFpPower", vars := ["loop.example/pub-g03039/pub/circl/fourq.modulusP"], fn := fun _ => fun
  | [d, g1] => { results := [.lit (.bool false)], args := [d], vars := [g1] }
  | _ => none }
def FnFpPowerWrongFalsely : Prop := fnFpPowerRow.holds Tryd.pinned (OpenSpec.ofChange fnFpPowerWrong)

/-- 'laws.FnFqIs': WHATEVER THE INPUT: true; the input reads as it did. -/
def fnFqIsSpec : ChangeSpec := { name := "fnFqIs", vars := ["loop.example/pub-g03039/pub/circl/fourq.modulusP"], fn := fun _ => fun
  | [d1, d2, g1] => { results := [.lit (.bool true)], args := [d1, d2], vars := [g1] }
  | _ => none }
def fnFqIsRow : OpenClaim := { program := "ytpogbljoohdehaadoor", sum := "5715292b1431f6a8452e04eb607be111528eaeaa0ada1969b7ec70522e82b495", func := "loop.example/pub-g03039/laws.FnFqIs", spec := "fnFqIs", inPlace := ["math/bits.Add64", "math/bits.Sub64"], named := ["encoding/binary.LittleEndian", "loop.example/pub-g03039/pub/circl/fourq.modulusP"], apart := false, laid := [("loop.example/pub-g03039/pub/circl/fourq.modulusP", laid_loop_example_pub_g03039_pub_circl_fourq_modulusP)] }
def FnFqIsSaid : Prop := fnFqIsRow.holds Tryd.pinned (OpenSpec.ofChange fnFqIsSpec)

/-- ITS FALSE NEIGHBOUR: 'it returns false'. Refute it at one input. -/
def fnFqIsWrong : ChangeSpec := { name := "fnFqIs", vars := ["loop.example/pub-g03039/pub/circl/fourq.modulusP"], fn := fun _ => fun
  | [d1, d2, g1] => { results := [.lit (.bool false)], args := [d1, d2], vars := [g1] }
  | _ => none }
def FnFqIsWrongFalsely : Prop := fnFqIsRow.holds Tryd.pinned (OpenSpec.ofChange fnFqIsWrong)

/-- 'laws.FnFpInv': WHATEVER THE INPUT: true; the input reads as it did. -/
def fnFpInvSpec : ChangeSpec := { name := "fnFpInv", vars := ["loop.example/pub-g03039/pub/circl/fourq.modulusP"], fn := fun _ => fun
  | [d, g1] => { results := [.lit (.bool true)], args := [d], vars := [g1] }
  | _ => none }
def fnFpInvRow : OpenClaim := { program := "ytpogbljoohdehaadoor", sum := "5715292b1431f6a8452e04eb607be111528eaeaa0ada1969b7ec70522e82b495", func := "loop.example/pub-g03039/laws.FnFpInv", spec := "fnFpInv", inPlace := ["math/bits.Sub64", "math/bits.Add64"], named := ["encoding/binary.LittleEndian", "loop.example/pub-g03039/pub/circl/fourq.modulusP"], apart := false, laid := [("loop.example/pub-g03039/pub/circl/fourq.modulusP", laid_loop_example_pub_g03039_pub_circl_fourq_modulusP)] }
def FnFpInvSaid : Prop := fnFpInvRow.holds Tryd.pinned (OpenSpec.ofChange fnFpInvSpec)

/-- ITS FALSE NEIGHBOUR: 'it returns false'. Refute it at one input. -/
def fnFpInvWrong : ChangeSpec := { name := "fnFpInv", vars := ["loop.example/pub-g03039/pub/circl/fourq.modulusP"], fn := fun _ => fun
  | [d, g1] => { results := [.lit (.bool false)], args := [d], vars := [g1] }
  | _ => none }
def FnFpInvWrongFalsely : Prop := fnFpInvRow.holds Tryd.pinned (OpenSpec.ofChange fnFpInvWrong)

/-- 'laws.FnFqInv': WHATEVER THE INPUT: true; the input reads as it did. -/
def fnFqInvSpec : ChangeSpec := { name := "fnFqInv", vars := ["loop.example/pub-g03039/pub/circl/fourq.modulusP"], fn := fun _ => fun
  | [d, g1] => { results := [.lit (.bool true)], args := [d], vars := [g1] }
  | _ => none }
def fnFqInvRow : OpenClaim := { program := "ytpogbljoohdehaadoor", sum := "5715292b1431f6a8452e04eb607be111528eaeaa0ada1969b7ec70522e82b495", func := "loop.example/pub-g03039/laws.FnFqInv", spec := "fnFqInv", inPlace := ["math/bits.Add64", "math/bits.Sub64"], named := ["encoding/binary.LittleEndian", "loop.example/pub-g03039/pub/circl/fourq.modulusP"], apart := false, laid := [("loop.example/pub-g03039/pub/circl/fourq.modulusP", laid_loop_example_pub_g03039_pub_circl_fourq_modulusP)] }
def FnFqInvSaid : Prop := fnFqInvRow.holds Tryd.pinned (OpenSpec.ofChange fnFqInvSpec)

/-- ITS FALSE NEIGHBOUR: 'it returns false'. Refute it at one input. -/
def fnFqInvWrong : ChangeSpec := { name := "fnFqInv", vars := ["loop.example/pub-g03039/pub/circl/fourq.modulusP"], fn := fun _ => fun
  | [d, g1] => { results := [.lit (.bool false)], args := [d], vars := [g1] }
  | _ => none }
def FnFqInvWrongFalsely : Prop := fnFqInvRow.holds Tryd.pinned (OpenSpec.ofChange fnFqInvWrong)

/-- 'laws.FnFqSqrt': WHATEVER THE INPUT: true; the input reads as it did. -/
def fnFqSqrtSpec : ChangeSpec := { name := "fnFqSqrt", vars := ["loop.example/pub-g03039/pub/circl/fourq.modulusP"], fn := fun _ => fun
  | [d1, d2, d3, g1] => { results := [.lit (.bool true)], args := [d1, d2, d3], vars := [g1] }
  | _ => none }
def fnFqSqrtRow : OpenClaim := { program := "ytpogbljoohdehaadoor", sum := "5715292b1431f6a8452e04eb607be111528eaeaa0ada1969b7ec70522e82b495", func := "loop.example/pub-g03039/laws.FnFqSqrt", spec := "fnFqSqrt", inPlace := ["math/bits.Add64", "math/bits.Sub64", "crypto/internal/constanttime.boolToUint8"], named := ["encoding/binary.LittleEndian", "loop.example/pub-g03039/pub/circl/fourq.modulusP"], apart := false, laid := [("loop.example/pub-g03039/pub/circl/fourq.modulusP", laid_loop_example_pub_g03039_pub_circl_fourq_modulusP)] }
def FnFqSqrtSaid : Prop := fnFqSqrtRow.holds Tryd.pinned (OpenSpec.ofChange fnFqSqrtSpec)

/-- ITS FALSE NEIGHBOUR: 'it returns false'. Refute it at one input. -/
def fnFqSqrtWrong : ChangeSpec := { name := "fnFqSqrt", vars := ["loop.example/pub-g03039/pub/circl/fourq.modulusP"], fn := fun _ => fun
  | [d1, d2, d3, g1] => { results := [.lit (.bool false)], args := [d1, d2, d3], vars := [g1] }
  | _ => none }
def FnFqSqrtWrongFalsely : Prop := fnFqSqrtRow.holds Tryd.pinned (OpenSpec.ofChange fnFqSqrtWrong)

/- THE SECOND FORM. 'bulk': how many values and letters a reading holds, each counted each time it is reached (what is shared counts as often as it is met; a slice's spare places count too). A statement '..UptoSaid' is the law's where the arguments, and the package variables that the reading takes, are together of bulk at most 1048576: NARROWER than '..Said'. Prove '..Said' where nothing that the law and all that it calls make is longer than what came in: it says more and counts as full. Else prove '..UptoSaid'. A law counts once. -/
mutual
def uptoBulk {H : Type} : DataW H → Nat
  | .lit (.string bytes) => bytes.length + 1
  | .lit _ => 1
  | .nil => 1
  | .ptr d => uptoBulk d + 1
  | .slice elems spare => uptoBulkAll elems + uptoBulkAll spare + 1
  | .agg parts => uptoBulkAll parts + 1
  | .iface _ d => uptoBulk d + 1
  | .map entries => uptoBulkEntries entries + 1
  | .held _ => 1
def uptoBulkAll {H : Type} : List (DataW H) → Nat
  | [] => 0
  | d :: r => uptoBulk d + uptoBulkAll r
def uptoBulkEntries {H : Type} : List (Lit × DataW H) → Nat
  | [] => 0
  | x :: r => uptoBulkEntry x + uptoBulkEntries r
def uptoBulkEntry {H : Type} : Lit × DataW H → Nat
  | (.string bytes, d) => bytes.length + uptoBulk d + 1
  | (_, d) => uptoBulk d + 1
 end
def uptoSmall : (H : Type) → List (DataW H) → Bool := fun _ ds => decide (uptoBulkAll ds ≤ 1048576)
def OpenSpec.upto (s : _root_.Go.ChangeSpec) : _root_.Go.OpenSpec := { _root_.Go.OpenSpec.ofChange s with cond := some uptoSmall }

/-- 'laws.FnFpBytes', WHERE WHAT IT READS IS OF BULK AT MOST 1048576: true; the input reads as it did. -/
def fnFpBytesUptoRow : OpenClaim := { program := "ytpogbljoohdehaadoor", sum := "5715292b1431f6a8452e04eb607be111528eaeaa0ada1969b7ec70522e82b495", func := "loop.example/pub-g03039/laws.FnFpBytes", spec := "fnFpBytes", inPlace := ["math/bits.Sub64", "math/bits.Add64"], named := ["loop.example/pub-g03039/pub/circl/fourq.modulusP", "encoding/binary.LittleEndian"], apart := false, laid := [("loop.example/pub-g03039/pub/circl/fourq.modulusP", laid_loop_example_pub_g03039_pub_circl_fourq_modulusP)], narrowed := true }
def FnFpBytesUptoSaid : Prop := fnFpBytesUptoRow.holds Tryd.pinned (OpenSpec.upto fnFpBytesSpec)

/-- 'laws.FnFpTells', WHERE WHAT IT READS IS OF BULK AT MOST 1048576: true; the input reads as it did. -/
def fnFpTellsUptoRow : OpenClaim := { program := "ytpogbljoohdehaadoor", sum := "5715292b1431f6a8452e04eb607be111528eaeaa0ada1969b7ec70522e82b495", func := "loop.example/pub-g03039/laws.FnFpTells", spec := "fnFpTells", inPlace := ["math/bits.Sub64", "math/bits.Add64", "crypto/internal/constanttime.boolToUint8"], named := ["loop.example/pub-g03039/pub/circl/fourq.modulusP", "encoding/binary.LittleEndian"], apart := false, laid := [("loop.example/pub-g03039/pub/circl/fourq.modulusP", laid_loop_example_pub_g03039_pub_circl_fourq_modulusP)], narrowed := true }
def FnFpTellsUptoSaid : Prop := fnFpTellsUptoRow.holds Tryd.pinned (OpenSpec.upto fnFpTellsSpec)

/-- 'laws.FnFpRing', WHERE WHAT IT READS IS OF BULK AT MOST 1048576: true; the input reads as it did. -/
def fnFpRingUptoRow : OpenClaim := { program := "ytpogbljoohdehaadoor", sum := "5715292b1431f6a8452e04eb607be111528eaeaa0ada1969b7ec70522e82b495", func := "loop.example/pub-g03039/laws.FnFpRing", spec := "fnFpRing", inPlace := ["math/bits.Add64", "math/bits.Sub64"], named := ["encoding/binary.LittleEndian", "loop.example/pub-g03039/pub/circl/fourq.modulusP"], apart := false, laid := [("loop.example/pub-g03039/pub/circl/fourq.modulusP", laid_loop_example_pub_g03039_pub_circl_fourq_modulusP)], narrowed := true }
def FnFpRingUptoSaid : Prop := fnFpRingUptoRow.holds Tryd.pinned (OpenSpec.upto fnFpRingSpec)

/-- 'laws.FnFqTells', WHERE WHAT IT READS IS OF BULK AT MOST 1048576: true; the input reads as it did. -/
def fnFqTellsUptoRow : OpenClaim := { program := "ytpogbljoohdehaadoor", sum := "5715292b1431f6a8452e04eb607be111528eaeaa0ada1969b7ec70522e82b495", func := "loop.example/pub-g03039/laws.FnFqTells", spec := "fnFqTells", inPlace := ["math/bits.Sub64", "math/bits.Add64", "crypto/internal/constanttime.boolToUint8"], named := ["loop.example/pub-g03039/pub/circl/fourq.modulusP", "encoding/binary.LittleEndian"], apart := false, laid := [("loop.example/pub-g03039/pub/circl/fourq.modulusP", laid_loop_example_pub_g03039_pub_circl_fourq_modulusP)], narrowed := true }
def FnFqTellsUptoSaid : Prop := fnFqTellsUptoRow.holds Tryd.pinned (OpenSpec.upto fnFqTellsSpec)

/-- 'laws.FnFpIs', WHERE WHAT IT READS IS OF BULK AT MOST 1048576: true; the input reads as it did. -/
def fnFpIsUptoRow : OpenClaim := { program := "ytpogbljoohdehaadoor", sum := "5715292b1431f6a8452e04eb607be111528eaeaa0ada1969b7ec70522e82b495", func := "loop.example/pub-g03039/laws.FnFpIs", spec := "fnFpIs", inPlace := ["math/bits.Add64", "math/bits.Sub64"], named := ["encoding/binary.LittleEndian", "loop.example/pub-g03039/pub/circl/fourq.modulusP"], apart := false, laid := [("loop.example/pub-g03039/pub/circl/fourq.modulusP", laid_loop_example_pub_g03039_pub_circl_fourq_modulusP)], narrowed := true }
def FnFpIsUptoSaid : Prop := fnFpIsUptoRow.holds Tryd.pinned (OpenSpec.upto fnFpIsSpec)

/-- 'laws.FnFpPower', WHERE WHAT IT READS IS OF BULK AT MOST 1048576: true; the input reads as it did. -/
def fnFpPowerUptoRow : OpenClaim := { program := "ytpogbljoohdehaadoor", sum := "5715292b1431f6a8452e04eb607be111528eaeaa0ada1969b7ec70522e82b495", func := "loop.example/pub-g03039/laws.FnFpPower", spec := "fnFpPower", inPlace := ["math/bits.Add64", "math/bits.Sub64"], unfollowed := true, recurses := true, named := ["encoding/binary.LittleEndian", "loop.example/pub-g03039/pub/circl/fourq.modulusP"], apart := false, laid := [("loop.example/pub-g03039/pub/circl/fourq.modulusP", laid_loop_example_pub_g03039_pub_circl_fourq_modulusP)], narrowed := true }
def FnFpPowerUptoSaid : Prop := fnFpPowerUptoRow.holds Tryd.pinned (OpenSpec.upto fnFpPowerSpec)

/-- 'laws.FnFqIs', WHERE WHAT IT READS IS OF BULK AT MOST 1048576: true; the input reads as it did. -/
def fnFqIsUptoRow : OpenClaim := { program := "ytpogbljoohdehaadoor", sum := "5715292b1431f6a8452e04eb607be111528eaeaa0ada1969b7ec70522e82b495", func := "loop.example/pub-g03039/laws.FnFqIs", spec := "fnFqIs", inPlace := ["math/bits.Add64", "math/bits.Sub64"], named := ["encoding/binary.LittleEndian", "loop.example/pub-g03039/pub/circl/fourq.modulusP"], apart := false, laid := [("loop.example/pub-g03039/pub/circl/fourq.modulusP", laid_loop_example_pub_g03039_pub_circl_fourq_modulusP)], narrowed := true }
def FnFqIsUptoSaid : Prop := fnFqIsUptoRow.holds Tryd.pinned (OpenSpec.upto fnFqIsSpec)

/-- 'laws.FnFpInv', WHERE WHAT IT READS IS OF BULK AT MOST 1048576: true; the input reads as it did. -/
def fnFpInvUptoRow : OpenClaim := { program := "ytpogbljoohdehaadoor", sum := "5715292b1431f6a8452e04eb607be111528eaeaa0ada1969b7ec70522e82b495", func := "loop.example/pub-g03039/laws.FnFpInv", spec := "fnFpInv", inPlace := ["math/bits.Sub64", "math/bits.Add64"], named := ["encoding/binary.LittleEndian", "loop.example/pub-g03039/pub/circl/fourq.modulusP"], apart := false, laid := [("loop.example/pub-g03039/pub/circl/fourq.modulusP", laid_loop_example_pub_g03039_pub_circl_fourq_modulusP)], narrowed := true }
def FnFpInvUptoSaid : Prop := fnFpInvUptoRow.holds Tryd.pinned (OpenSpec.upto fnFpInvSpec)

/-- 'laws.FnFqInv', WHERE WHAT IT READS IS OF BULK AT MOST 1048576: true; the input reads as it did. -/
def fnFqInvUptoRow : OpenClaim := { program := "ytpogbljoohdehaadoor", sum := "5715292b1431f6a8452e04eb607be111528eaeaa0ada1969b7ec70522e82b495", func := "loop.example/pub-g03039/laws.FnFqInv", spec := "fnFqInv", inPlace := ["math/bits.Add64", "math/bits.Sub64"], named := ["encoding/binary.LittleEndian", "loop.example/pub-g03039/pub/circl/fourq.modulusP"], apart := false, laid := [("loop.example/pub-g03039/pub/circl/fourq.modulusP", laid_loop_example_pub_g03039_pub_circl_fourq_modulusP)], narrowed := true }
def FnFqInvUptoSaid : Prop := fnFqInvUptoRow.holds Tryd.pinned (OpenSpec.upto fnFqInvSpec)

/-- 'laws.FnFqSqrt', WHERE WHAT IT READS IS OF BULK AT MOST 1048576: true; the input reads as it did. -/
def fnFqSqrtUptoRow : OpenClaim := { program := "ytpogbljoohdehaadoor", sum := "5715292b1431f6a8452e04eb607be111528eaeaa0ada1969b7ec70522e82b495", func := "loop.example/pub-g03039/laws.FnFqSqrt", spec := "fnFqSqrt", inPlace := ["math/bits.Add64", "math/bits.Sub64", "crypto/internal/constanttime.boolToUint8"], named := ["encoding/binary.LittleEndian", "loop.example/pub-g03039/pub/circl/fourq.modulusP"], apart := false, laid := [("loop.example/pub-g03039/pub/circl/fourq.modulusP", laid_loop_example_pub_g03039_pub_circl_fourq_modulusP)], narrowed := true }
def FnFqSqrtUptoSaid : Prop := fnFqSqrtUptoRow.holds Tryd.pinned (OpenSpec.upto fnFqSqrtSpec)

end Rows
end Go.Proofs.YtpogbljoohdehaaDoor
