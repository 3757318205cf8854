/- Part 5 of what the laws lean on: arithmetic, walks through the functions, the curve. -/
import Derived.Test.YtfkfljohhabldaaDoorG4
namespace Go.Proofs.YtfkfljohhabldaaDoor
open Go.ChangeShapes Go.WideShapes Go.RowKit Go.FourQ Go.ChangeAt
def holdIn (w : World) (g : Nat) (v : Array Value) : World :=
  { w with heap := w.heap.modify g fun
      | .cells _ t frozen => .cells v t frozen
      | o => o }
section
variable {H : Type} {enc : TypeId × Value → H} {P : Program} {w : World} {spare : Nat → Bool}
theorem trodVars_len : ∀ {ns : List String} {gs : List (DataW H)} {ps : List MemPlace}, DataW.TrodVars enc P w spare ns gs ps → gs.length = ns.length
  | [], [], _, _ => rfl
  | [], _ :: _, _, h => h.elim
  | _ :: _, [], _, h => h.elim
  | _ :: _, _ :: _, _, h => by
    obtain ⟨_, _, _, _, _, _, _, _, _, _, hs, _⟩ := h
    exact congrArg (· + 1) (trodVars_len hs)
theorem gs4 {l : List (DataW H)} (h : l.length = 4) : ∃ a b c d, l = [a, b, c, d] := match l, h with | [a, b, c, d], _ => ⟨a, b, c, d, rfl⟩
theorem gs5 {l : List (DataW H)} (h : l.length = 5) : ∃ a b c d e, l = [a, b, c, d, e] := match l, h with | [a, b, c, d, e], _ => ⟨a, b, c, d, e, rfl⟩
end
theorem cellsFq : Tryd.prog.cellsOf 83 = 32 := by kernel_rfl
/-- paramD. -/
def ddC : Array Value := fps [4205857648805777768770, 125317048443780598345676279555970305165]
theorem dd_of {W : World} {rest : List (String × DataW Unit)} (h : laidMet Tryd.prog (("loop.example/pub-g03039/pub/circl/fourq.paramD", Rows.laid_loop_example_pub_g03039_pub_circl_fourq_paramD) :: rest) W) : AtZ W 0 0 dd := by
  have t := gv_of_laid (g := 0) (t := 83) (z0 := [66, 1, 0, 0, 0, 0, 0, 0, 228, 0, 0, 0, 0, 0, 0, 0]) (z1 := [141, 12, 252, 241, 136, 20, 130, 179, 252, 224, 87, 102, 132, 47, 71, 94]) (by kernel_rfl) (by kernel_rfl) Tryd.underlying83 Tryd.underlying73 Tryd.underlying5 cellsU8 cellsFp cellsFq h
  have e : ((([66, 1, 0, 0, 0, 0, 0, 0, 228, 0, 0, 0, 0, 0, 0, 0] : List Int) ++ [141, 12, 252, 241, 136, 20, 130, 179, 252, 224, 87, 102, 132, 47, 71, 94]).map (fun z => Value.int IntKind.u8 z)).toArray = fps [4205857648805777768770, 125317048443780598345676279555970305165] := by kernel_rfl
  rw [e] at t
  exact atz_of (a := 4205857648805777768770) (c := 125317048443780598345676279555970305165) (by unfold LowB; decide) (by unfold LowB; decide) t
theorem ddv_of {W : World} {rest : List (String × DataW Unit)} (h : laidMet Tryd.prog (("loop.example/pub-g03039/pub/circl/fourq.paramD", Rows.laid_loop_example_pub_g03039_pub_circl_fourq_paramD) :: rest) W) : GV W 0 ddC := by
  have t := gv_of_laid (g := 0) (t := 83) (z0 := [66, 1, 0, 0, 0, 0, 0, 0, 228, 0, 0, 0, 0, 0, 0, 0]) (z1 := [141, 12, 252, 241, 136, 20, 130, 179, 252, 224, 87, 102, 132, 47, 71, 94]) (by kernel_rfl) (by kernel_rfl) Tryd.underlying83 Tryd.underlying73 Tryd.underlying5 cellsU8 cellsFp cellsFq h
  have e : ((([66, 1, 0, 0, 0, 0, 0, 0, 228, 0, 0, 0, 0, 0, 0, 0] : List Int) ++ [141, 12, 252, 241, 136, 20, 130, 179, 252, 224, 87, 102, 132, 47, 71, 94]).map (fun z => Value.int IntKind.u8 z)).toArray = fps [4205857648805777768770, 125317048443780598345676279555970305165] := by kernel_rfl
  rw [e] at t
  exact t
theorem low_d0 : LowB 4205857648805777768770 := by unfold LowB; decide
theorem low_d1 : LowB 125317048443780598345676279555970305165 := by unfold LowB; decide
/-- genX. -/
def gxC : Array Value := fps [34832242333165934151976439273177494442, 40039530084877881816286215037915002870]
theorem gxx_of {W : World} {rest : List (String × DataW Unit)} (h : laidMet Tryd.prog (("loop.example/pub-g03039/pub/circl/fourq.genX", Rows.laid_loop_example_pub_g03039_pub_circl_fourq_genX) :: rest) W) : AtZ W 2 0 gxx := by
  have t := gv_of_laid (g := 2) (t := 83) (z0 := [170, 51, 56, 123, 173, 146, 101, 40, 5, 179, 47, 124, 35, 114, 52, 26]) (z1 := [246, 119, 172, 96, 179, 159, 134, 150, 156, 170, 120, 40, 63, 85, 31, 30]) (by kernel_rfl) (by kernel_rfl) Tryd.underlying83 Tryd.underlying73 Tryd.underlying5 cellsU8 cellsFp cellsFq h
  have e : ((([170, 51, 56, 123, 173, 146, 101, 40, 5, 179, 47, 124, 35, 114, 52, 26] : List Int) ++ [246, 119, 172, 96, 179, 159, 134, 150, 156, 170, 120, 40, 63, 85, 31, 30]).map (fun z => Value.int IntKind.u8 z)).toArray = fps [34832242333165934151976439273177494442, 40039530084877881816286215037915002870] := by kernel_rfl
  rw [e] at t
  exact atz_of (a := 34832242333165934151976439273177494442) (c := 40039530084877881816286215037915002870) (by unfold LowB; decide) (by unfold LowB; decide) t
/-- genY. -/
def gyC : Array Value := fps [18941146186793715734774048165794132615, 146361984425930646555497992424795179868]
theorem gyy_of {W : World} {rest : List (String × DataW Unit)} (h : laidMet Tryd.prog (("loop.example/pub-g03039/pub/circl/fourq.genY", Rows.laid_loop_example_pub_g03039_pub_circl_fourq_genY) :: rest) W) : AtZ W 3 0 gyy := by
  have t := gv_of_laid (g := 3) (t := 83) (z0 := [135, 178, 203, 43, 70, 162, 36, 185, 90, 120, 32, 161, 155, 238, 63, 14]) (z1 := [92, 139, 76, 132, 68, 195, 167, 73, 66, 2, 14, 99, 248, 74, 28, 110]) (by kernel_rfl) (by kernel_rfl) Tryd.underlying83 Tryd.underlying73 Tryd.underlying5 cellsU8 cellsFp cellsFq h
  have e : ((([135, 178, 203, 43, 70, 162, 36, 185, 90, 120, 32, 161, 155, 238, 63, 14] : List Int) ++ [92, 139, 76, 132, 68, 195, 167, 73, 66, 2, 14, 99, 248, 74, 28, 110]).map (fun z => Value.int IntKind.u8 z)).toArray = fps [18941146186793715734774048165794132615, 146361984425930646555497992424795179868] := by kernel_rfl
  rw [e] at t
  exact atz_of (a := 18941146186793715734774048165794132615) (c := 146361984425930646555497992424795179868) (by unfold LowB; decide) (by unfold LowB; decide) t
theorem gen_on : OnC gxx gyy := by unfold OnC; decide +kernel
/-- The order's words. -/
def ordC : Array Value := #[.int .u64 3436901888089820391, .int .u64 16122042576031152537, .int .u64 17317351579400803557, .int .u64 11764505149049458]
theorem ord_of {W : World} {rest : List (String × DataW Unit)} (h : laidMet Tryd.prog (("loop.example/pub-g03039/pub/circl/fourq.orderGenerator", Rows.laid_loop_example_pub_g03039_pub_circl_fourq_orderGenerator) :: rest) W) : GV W 1 ordC := by
  have t := gv_of_tab (g := 1) (t := 60) (k := .u64) (zs := [3436901888089820391, 16122042576031152537, 17317351579400803557, 11764505149049458]) (by kernel_rfl) (by kernel_rfl) Tryd.underlying60 Tryd.underlying24 (by kernel_rfl) (by kernel_rfl) (by decide) h
  exact t
end Go.Proofs.YtfkfljohhabldaaDoor
