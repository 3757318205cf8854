/- FnFqSqrt: the law's row, and its card: whatever the arguments, the call returns true, and what was there is as it was; modulusP is tied to the program's text. No condition. -/
import Derived.Test.YtfkfljohhabldaaDoorLawSqrt
import Derived.Test.YtfkfljohhabldaaDoorVarKit
import Derived.Test.YtfkfljohhabldaaDoorCards
import Derived.Test.YtfkfljohhabldaaDoorTie
import Derived.JoinedOf
import Derived.Handed
namespace Go.Proofs.YtfkfljohhabldaaDoor
open Go.ChangeShapes Go.WideShapes Go.RowKit Go.FourQ Go.ChangeAt

/-- A world that meets the row's list. -/
noncomputable def fnFqSqrtWorld (os : Os) : World :=
  { World.holding Tryd.prog os ⟨#[], #[], []⟩ with heap := (World.holding Tryd.prog os ⟨#[], #[], []⟩).heap.modify 4 fun
      | .cells _ t frozen => .cells (fpC pp) t frozen
      | o => o }
theorem fnFqSqrtMet (os : Os) (args : Array Value) : laidMetH Tryd.prog Rows.fnFqSqrtRow.laid ((fnFqSqrtWorld os).forCall (fun _ _ => 0) ⟨#[], args, []⟩).memory :=
  laidMet_of_run' 8 (by kernel_rfl) (by kernel_rfl)

set_option maxRecDepth 100000 in
theorem fnFqSqrt_lifted (os : Os) (started : os.Started) (H : Type) (enc : TypeId × Value → H) :
    ReturnsInHanded {} Tryd.checked os 6 .any (fun w args => (Rows.fnFqSqrtSpec.pre enc Tryd.prog Tryd.f6 [] false w args ∧ laidMetH Tryd.prog Rows.fnFqSqrtRow.laid w) ∧ sizedMet enc Tryd.prog Tryd.f6 (OpenSpec.ofChange Rows.fnFqSqrtSpec) false w args)
      (Rows.fnFqSqrtSpec.post enc Tryd.prog Tryd.f6 false true false false) := by
  refine returnsInHanded_of_change_and (C := Tryd.checked) (X := fun w _ => laidMetH Tryd.prog Rows.fnFqSqrtRow.laid w) (fun _ _ _ hh h => h.of_heap hh) own started (by kernel_rfl) Tryd.func6
    (ChangeSpec.witness_at (enc := enc) (C := Tryd.checked) (os := os) (X := fun w _ => laidMetH Tryd.prog Rows.fnFqSqrtRow.laid w) false (fnFqSqrtWorld os) #[.agg (fps [0, 0]), .agg (fps [0, 0]), .bool false] 8 rfl (by kernel_rfl) (by kernel_rfl) (by kernel_rfl) (by kernel_rfl) (by kernel_rfl) (fnFqSqrtMet os _)) ?_
  intro W base args ds gs before hval0 hW _ _ hL _
  have hval : ∀ (j : Nat) t v, Tryd.f6.params[j]? = some t → args[j]? = some v → Value.okWide Tryd.prog W .any base t v := hval0
  have hW' := hW
  obtain ⟨p, q, hA0, hV0, rfl, hfz, hnd⟩ := hW
  have hA : DataW.TrodAll enc Tryd.prog W 0 (fun _ => true) true Tryd.f6.params.toList args.toList ds p := hA0
  obtain ⟨-, -, -, -, g, -, rfl, -⟩ := trodVars_one hV0
  rw [Tryd.params6] at hA hval
  have hm := modW_of hL
  clear hA0 hV0 hL hval0
  obtain ⟨v0, vs0, d0, ds0, p0, q0, hargs0, rfl, rfl, h0, r0⟩ := trodAll_cons hA
  obtain ⟨v1, vs1, d1, ds1, p1, q1, hargs1, rfl, rfl, h1, r1⟩ := trodAll_cons r0
  obtain ⟨v2, vs2, d2, ds2, p2, q2, hargs2, rfl, rfl, h2, r2⟩ := trodAll_cons r1
  obtain ⟨e3, rfl, rfl⟩ := trodAll_nil r2
  obtain rfl : args = #[v0, v1, v2] := by cases args; simp_all
  obtain ⟨x0, y0, hx0, hy0, rfl⟩ := open_fq Tryd.underlying33 Tryd.underlying22 Tryd.underlying5 cellsU8 cellsA16 (by kernel_rfl) (hval 0 33 v0 rfl rfl) h0
  obtain ⟨x1, y1, hx1, hy1, rfl⟩ := open_fq Tryd.underlying33 Tryd.underlying22 Tryd.underlying5 cellsU8 cellsA16 (by kernel_rfl) (hval 1 33 v1 rfl rfl) h1
  obtain ⟨x2, rfl, -, -⟩ := open_bool Tryd.underlying4 (hval 2 4 v2 rfl rfl) h2
  refine (fqSqrtLaw_c hm hx0 hy0 hx1 hy1).mono fun e W' ⟨he, hb⟩ => ?_
  exact ⟨_, he, post_true laidOut (by kernel_rfl) (by kernel_rfl) rfl Tryd.underlying4 hW' rfl hb⟩

theorem fnFqSqrt_said : Rows.FnFqSqrtSaid :=
  OpenClaim.holds_of_wide 6 Tryd.f6 rfl rfl rfl rfl rfl rfl rfl ⟨rfl, rfl, rfl, rfl, rfl⟩ rfl rfl rfl rfl rfl (by kernel_rfl) Tryd.func6 (by kernel_rfl)
    (of_decide_eq_true (by kernel_rfl)) (by unfold Func.isWrapper; first | (rw [if_pos (by decide +kernel)]; kernel_rfl) | (rw [if_neg (by decide +kernel)]; exact ⟨rfl, rfl⟩))
    (fun os started H enc _ => fnFqSqrt_lifted os started H enc)

theorem fnFqSqrt_plain (f : FuncId) (fn : Func) (hf : Tryd.pinned.checked.prog.funcNamed "loop.example/pub-g03039/laws.FnFqSqrt" = some f) (hfn : Tryd.pinned.checked.prog.funcs[f]? = some fn) :
    false = Tryd.pinned.checked.prog.looks [] ∧ ∀ (j : Nat) t, fn.params[j]? = some t → Tryd.pinned.checked.prog.wantsStandIn t = false := by
  obtain rfl : f = 6 := Option.some.inj ((show Tryd.prog.funcNamed "loop.example/pub-g03039/laws.FnFqSqrt" = some 6 by kernel_rfl).symm.trans hf) |>.symm
  obtain rfl : fn = Tryd.f6 := (Option.some.inj (Tryd.func6.symm.trans hfn)).symm
  refine ⟨by kernel_rfl, fun j t ht => ?_⟩
  rw [Tryd.params6] at ht
  have hmem := Array.mem_of_getElem? ht
  have hall : ∀ t ∈ (#[33, 33, 4] : Array TypeId), Tryd.prog.wantsStandIn t = false := by decide +kernel
  exact hall t hmem

/-- The tied card. -/
theorem fnFqSqrt_card : Rows.FnFqSqrtCardSaid :=
  Claim7.holds_tied_plain_at .later [] _ _ _ _ fnFqSqrt_said (fun _ h => by cases h) (by kernel_rfl) (fun _ h => by cases h) fnFqSqrt_row_tie rfl ⟨rfl, rfl⟩ (by kernel_rfl) rfl fnFqSqrt_plain (by kernel_rfl)
#print axioms fnFqSqrt_card
end Go.Proofs.YtfkfljohhabldaaDoor
