/- What a row's list of variables gives the walks: modulusP holds the prime. No condition. -/
import Derived.Test.YtfkfljohhabldaaDoorRowKit
import Derived.Test.YtfkfljohhabldaaDoorRows
import Derived.Lib.LaidTab
namespace Go.Proofs.YtfkfljohhabldaaDoor
open Go.RowKit Go.FourQ Go.ChangeAt

theorem own : ownKnob Tryd.prog.godebug = none := by kernel_rfl
theorem gMod : Tryd.prog.globalNamed "loop.example/pub-g03039/pub/circl/fourq.modulusP" = some 4 := by kernel_rfl
theorem gModType : (Tryd.prog.globals[4]?).map (·.type) = some 73 := by kernel_rfl
theorem cellsFp : Tryd.prog.cellsOf 73 = 16 := by kernel_rfl
theorem cellsU8 : Tryd.prog.cellsOf 5 = 1 := by kernel_rfl
theorem cellsA16 : Tryd.prog.cellsOf 22 = 16 := by kernel_rfl
theorem laidOut : laidOutB Tryd.prog = true := by kernel_rfl

theorem modW_of {W : World} {rest : List (String × DataW Unit)} (h : laidMet Tryd.prog (("loop.example/pub-g03039/pub/circl/fourq.modulusP", Rows.laid_loop_example_pub_g03039_pub_circl_fourq_modulusP) :: rest) W) : ModW W := by
  have t : Lib.TabIs Tryd.prog W "loop.example/pub-g03039/pub/circl/fourq.modulusP" .u8 [255, 255, 255, 255, 255, 255, 255, 255, 255, 255, 255, 255, 255, 255, 255, 127] :=
    Lib.tabIs_of_head gMod gModType Tryd.underlying73 Tryd.underlying5 cellsU8 cellsFp h
  unfold Lib.TabIs World.var? at t
  rw [gMod] at t
  simp only [Option.bind_some] at t
  split at t
  · rename_i cs T fr hc
    have e : cs = fpC pp := (Option.some.inj t).trans (by kernel_rfl)
    exact ⟨T, fr, by rw [hc, e]⟩
  · cases t

end Go.Proofs.YtfkfljohhabldaaDoor
