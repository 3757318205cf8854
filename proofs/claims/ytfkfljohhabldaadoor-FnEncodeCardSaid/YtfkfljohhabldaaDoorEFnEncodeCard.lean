/- FnEncode: the law's row, and its card: whatever the arguments, the call returns true, and what was there is as it was; modulusP is tied to the program's text. No condition. -/
import Derived.Test.YtfkfljohhabldaaDoorELawEnc
import Derived.Test.YtfkfljohhabldaaDoorE5
import Derived.Test.YtfkfljohhabldaaDoorCards
import Derived.Test.YtfkfljohhabldaaDoorTie
import Derived.JoinedOf
import Derived.Handed
namespace Go.Proofs.YtfkfljohhabldaaDoor
open Go.ChangeShapes Go.WideShapes Go.RowKit Go.FourQ Go.ChangeAt

/-- A world that meets the row's list. -/
noncomputable def fnEncodeWorld (os : Os) : World :=
  holdIn (holdIn ((World.holding Tryd.prog os ⟨#[], #[], []⟩)) 4 (fpC pp)) 0 (ddC)
theorem fnEncodeMet (os : Os) (args : Array Value) : laidMetH Tryd.prog Rows.fnEncodeRow.laid ((fnEncodeWorld os).forCall (fun _ _ => 0) ⟨#[], args, []⟩).memory :=
  laidMet_of_run' 8 (by kernel_rfl) (by kernel_rfl)

set_option maxRecDepth 100000 in
theorem fnEncode_lifted (os : Os) (started : os.Started) (H : Type) (enc : TypeId × Value → H) :
    ReturnsInHanded {} Tryd.checked os 9 .any (fun w args => (Rows.fnEncodeSpec.pre enc Tryd.prog Tryd.f9 [] false w args ∧ laidMetH Tryd.prog Rows.fnEncodeRow.laid w) ∧ sizedMet enc Tryd.prog Tryd.f9 (OpenSpec.ofChange Rows.fnEncodeSpec) false w args)
      (Rows.fnEncodeSpec.post enc Tryd.prog Tryd.f9 false true false false) := by
  refine returnsInHanded_of_change_and (C := Tryd.checked) (X := fun w _ => laidMetH Tryd.prog Rows.fnEncodeRow.laid w) (fun _ _ _ hh h => h.of_heap hh) own started (by kernel_rfl) Tryd.func9
    (ChangeSpec.witness_at (enc := enc) (C := Tryd.checked) (os := os) (X := fun w _ => laidMetH Tryd.prog Rows.fnEncodeRow.laid w) false (fnEncodeWorld os) #[.agg (fps [0, 0, 0, 0])] 8 rfl (by kernel_rfl) (by kernel_rfl) (by kernel_rfl) (by kernel_rfl) (by kernel_rfl) (fnEncodeMet os _)) ?_
  intro W base args ds gs before hval0 hW _ _ hL _
  have hval : ∀ (j : Nat) t v, Tryd.f9.params[j]? = some t → args[j]? = some v → Value.okWide Tryd.prog W .any base t v := hval0
  have hW' := hW
  obtain ⟨p, q, hA0, hV0, rfl, hfz, hnd⟩ := hW
  have hA : DataW.TrodAll enc Tryd.prog W 0 (fun _ => true) true Tryd.f9.params.toList args.toList ds p := hA0
  obtain ⟨g0, g1, rfl⟩ := gs2 (trodVars_len hV0)
  rw [Tryd.params9] at hA hval
  have hm := modW_of hL
  have hd := dd_of (laid_tail hL)
  clear hA0 hV0 hval0
  obtain ⟨v0, vs0, d0, ds0, p0, q0, hargs0, rfl, rfl, h0, r0⟩ := trodAll_cons hA
  obtain ⟨e1, rfl, rfl⟩ := trodAll_nil r0
  obtain rfl : args = #[v0] := by cases args; simp_all
  obtain ⟨a0, b0, c0, d0', ha0, hb0, hc0, hd0, rfl⟩ := open_pt Tryd.underlying35 rfl rfl rfl rfl Tryd.underlying33 Tryd.underlying22 Tryd.underlying5 cellsU8 cellsA16 (by kernel_rfl) (by kernel_rfl) (hval 0 35 v0 rfl rfl) h0
  refine (fnEncode_c hm (show 5 ≤ _ from hm.lt) hd ha0 hb0 hc0 hd0).mono fun e W' ⟨he, hb⟩ => ?_
  exact ⟨_, he, post_true laidOut (by kernel_rfl) (by kernel_rfl) rfl Tryd.underlying4 hW' rfl hb⟩

theorem fnEncode_said : Rows.FnEncodeSaid :=
  OpenClaim.holds_of_wide 9 Tryd.f9 rfl rfl rfl rfl rfl rfl rfl ⟨rfl, rfl, rfl, rfl, rfl⟩ rfl rfl rfl rfl rfl (by kernel_rfl) Tryd.func9 (by kernel_rfl)
    (of_decide_eq_true (by kernel_rfl)) (by unfold Func.isWrapper; first | (rw [if_pos (by decide +kernel)]; kernel_rfl) | (rw [if_neg (by decide +kernel)]; exact ⟨rfl, rfl⟩))
    (fun os started H enc _ => fnEncode_lifted os started H enc)

theorem fnEncode_plain (f : FuncId) (fn : Func) (hf : Tryd.pinned.checked.prog.funcNamed "loop.example/pub-g03039/laws.FnEncode" = some f) (hfn : Tryd.pinned.checked.prog.funcs[f]? = some fn) :
    false = Tryd.pinned.checked.prog.looks [] ∧ ∀ (j : Nat) t, fn.params[j]? = some t → Tryd.pinned.checked.prog.wantsStandIn t = false := by
  obtain rfl : f = 9 := Option.some.inj ((show Tryd.prog.funcNamed "loop.example/pub-g03039/laws.FnEncode" = some 9 by kernel_rfl).symm.trans hf) |>.symm
  obtain rfl : fn = Tryd.f9 := (Option.some.inj (Tryd.func9.symm.trans hfn)).symm
  refine ⟨by kernel_rfl, fun j t ht => ?_⟩
  rw [Tryd.params9] at ht
  have hmem := Array.mem_of_getElem? ht
  have hall : ∀ t ∈ (#[35] : Array TypeId), Tryd.prog.wantsStandIn t = false := by decide +kernel
  exact hall t hmem

/-- The tied card. -/
theorem fnEncode_card : Rows.FnEncodeCardSaid :=
  Claim7.holds_tied_plain_at .later [] _ _ _ _ fnEncode_said (fun _ h => by cases h) (by kernel_rfl) (fun _ h => by cases h) fnEncode_row_tie rfl ⟨rfl, rfl⟩ (by kernel_rfl) rfl fnEncode_plain (by kernel_rfl)
#print axioms fnEncode_card
end Go.Proofs.YtfkfljohhabldaaDoor
