/- FnTimes: the law's row, and its card: whatever the arguments, the call returns true, and what was there is as it was; modulusP is tied to the program's text. No condition. -/
import Derived.Test.YtfkfljohhabldaaDoorTLawTimes
import Derived.Test.YtfkfljohhabldaaDoorT7
import Derived.Test.YtfkfljohhabldaaDoorCards
import Derived.Test.YtfkfljohhabldaaDoorTie
import Derived.JoinedOf
import Derived.Handed
namespace Go.Proofs.YtfkfljohhabldaaDoor
open Go.ChangeShapes Go.WideShapes Go.RowKit Go.FourQ Go.ChangeAt

/-- A world that meets the row's list. -/
noncomputable def fnTimesWorld (os : Os) : World :=
 holdIn (holdIn (holdIn ((World.holding Tryd.prog os ⟨#[], #[], []⟩)) 4 (fpC pp)) 1 (ordC)) 0 (ddC)
theorem fnTimesMet (os : Os) (args : Array Value) : laidMetH Tryd.prog Rows.fnTimesRow.laid ((fnTimesWorld os).forCall (fun _ _ => 0) ⟨#[], args, []⟩).memory :=
 laidMet_of_run' 8 (by kernel_rfl) (by kernel_rfl)

set_option maxRecDepth 100000 in
theorem fnTimes_lifted (os : Os) (started : os.Started) (H : Type) (enc : TypeId × Value → H) :
   ReturnsInHanded {} Tryd.checked os 10 .any (fun w args => (Rows.fnTimesSpec.pre enc Tryd.prog Tryd.f10 [] false w args ∧ laidMetH Tryd.prog Rows.fnTimesRow.laid w) ∧ sizedMet enc Tryd.prog Tryd.f10 (OpenSpec.ofChange Rows.fnTimesSpec) false w args)
     (Rows.fnTimesSpec.post enc Tryd.prog Tryd.f10 false true false false) := by
 refine returnsInHanded_of_change_and (C := Tryd.checked) (X := fun w _ => laidMetH Tryd.prog Rows.fnTimesRow.laid w) (fun _ _ _ hh h => h.of_heap hh) own started (by kernel_rfl) Tryd.func10
   (ChangeSpec.witness_at (enc := enc) (C := Tryd.checked) (os := os) (X := fun w _ => laidMetH Tryd.prog Rows.fnTimesRow.laid w) false (fnTimesWorld os) #[.agg (fps [0, 0]), .agg (fps [0, 0, 0, 0])] 8 rfl (by kernel_rfl) (by kernel_rfl) (by kernel_rfl) (by kernel_rfl) (by kernel_rfl) (fnTimesMet os _)) ?_
 intro W base args ds gs before hval0 hW _ _ hL _
 have hval : ∀ (j : Nat) t v, Tryd.f10.params[j]? = some t → args[j]? = some v → Value.okWide Tryd.prog W .any base t v := hval0
 have hW' := hW
 obtain ⟨p, q, hA0, hV0, rfl, hfz, hnd⟩ := hW
 have hA : DataW.TrodAll enc Tryd.prog W 0 (fun _ => true) true Tryd.f10.params.toList args.toList ds p := hA0
 obtain ⟨g0, g1, g2, rfl⟩ := gs3 (trodVars_len hV0)
 rw [Tryd.params10] at hA hval
 have hm := modW_of hL
 have ho := ord_of (laid_tail hL)
 have hd := dd_of (laid_tail (laid_tail hL))
 clear hA0 hV0 hval0
 obtain ⟨v0, vs0, d0, ds0, p0, q0, hargs0, rfl, rfl, h0, r0⟩ := trodAll_cons hA
 obtain ⟨v1, vs1, d1, ds1, p1, q1, hargs1, rfl, rfl, h1, r1⟩ := trodAll_cons r0
 obtain ⟨e2, rfl, rfl⟩ := trodAll_nil r1
 obtain rfl : args = #[v0, v1] := by cases args; simp_all
 obtain ⟨x0, y0, hx0, hy0, rfl⟩ := open_b32 Tryd.underlying63 Tryd.underlying5 cellsU8 (by kernel_rfl) (hval 0 63 v0 rfl rfl) h0
 obtain ⟨a1, b1, c1, d1', ha1, hb1, hc1, hd1, rfl⟩ := open_pt Tryd.underlying35 rfl rfl rfl rfl Tryd.underlying33 Tryd.underlying22 Tryd.underlying5 cellsU8 cellsA16 (by kernel_rfl) (by kernel_rfl) (hval 1 35 v1 rfl rfl) h1
 refine (fnTimes_c hm (show 5 ≤ _ from hm.lt) ho hd hx0 hy0 ha1 hb1 hc1 hd1).mono fun e W' ⟨he, hb⟩ => ?_
 exact ⟨_, he, post_true laidOut (by kernel_rfl) (by kernel_rfl) rfl Tryd.underlying4 hW' rfl hb⟩

theorem fnTimes_said : Rows.FnTimesSaid :=
 OpenClaim.holds_of_wide 10 Tryd.f10 rfl rfl rfl rfl rfl rfl rfl ⟨rfl, rfl, rfl, rfl, rfl⟩ rfl rfl rfl rfl rfl (by kernel_rfl) Tryd.func10 (by kernel_rfl)
   (of_decide_eq_true (by kernel_rfl)) (by unfold Func.isWrapper; first | (rw [if_pos (by decide +kernel)]; kernel_rfl) | (rw [if_neg (by decide +kernel)]; exact ⟨rfl, rfl⟩))
   (fun os started H enc _ => fnTimes_lifted os started H enc)

theorem fnTimes_plain (f : FuncId) (fn : Func) (hf : Tryd.pinned.checked.prog.funcNamed "loop.example/pub-g03039/laws.FnTimes" = some f) (hfn : Tryd.pinned.checked.prog.funcs[f]? = some fn) :
   false = Tryd.pinned.checked.prog.looks [] ∧ ∀ (j : Nat) t, fn.params[j]? = some t → Tryd.pinned.checked.prog.wantsStandIn t = false := by
 obtain rfl : f = 10 := Option.some.inj ((show Tryd.prog.funcNamed "loop.example/pub-g03039/laws.FnTimes" = some 10 by kernel_rfl).symm.trans hf) |>.symm
 obtain rfl : fn = Tryd.f10 := (Option.some.inj (Tryd.func10.symm.trans hfn)).symm
 refine ⟨by kernel_rfl, fun j t ht => ?_⟩
 rw [Tryd.params10] at ht
 have hmem := Array.mem_of_getElem? ht
 have hall : ∀ t ∈ (#[63, 35] : Array TypeId), Tryd.prog.wantsStandIn t = false := by decide +kernel
 exact hall t hmem

/-- The tied card. -/
theorem fnTimes_card : Rows.FnTimesCardSaid :=
 Claim7.holds_tied_plain_at .later [] _ _ _ _ fnTimes_said (fun _ h => by cases h) (by kernel_rfl) (fun _ h => by cases h) fnTimes_row_tie rfl ⟨rfl, rfl⟩ (by kernel_rfl) rfl fnTimes_plain (by kernel_rfl)
#print axioms fnTimes_card
end Go.Proofs.YtfkfljohhabldaaDoor
