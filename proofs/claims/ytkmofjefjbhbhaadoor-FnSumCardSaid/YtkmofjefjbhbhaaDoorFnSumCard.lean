/- FnSum: the law's row, and its card: whatever the hash and the bytes, the call returns true, and what was there is as it was; the round constants are tied to the program's text. No condition. -/
import Derived.Test.YtkmofjefjbhbhaaDoorRk
import Derived.Test.YtkmofjefjbhbhaaDoorCards
import Derived.Test.YtkmofjefjbhbhaaDoorTie
import Derived.JoinedOf
import Derived.Handed
namespace Go.Proofs.YtkmofjefjbhbhaaDoor
open Go.ChangeShapes Go.WideShapes Go.RowKit Go.FourQ Go.ChangeAt Go.Sha Go.Sl

def holdIn (w : World) (g : Nat) (v : Array Value) : World :=
  { w with heap := w.heap.modify g fun
      | .cells _ t frozen => .cells v t frozen
      | o => o }
/-- A world that meets the row's list. -/
noncomputable def fnSumWorld (os : Os) : World :=
  holdIn (World.holding Tryd.prog os ⟨#[], #[], []⟩) 0 (wv kc).toArray
theorem fnSumMet (os : Os) (args : Array Value) : laidMetH Tryd.prog Rows.fnSumRow.laid ((fnSumWorld os).forCall (fun _ _ => 0) ⟨#[], args, []⟩).memory :=
  laidMet_of_run' 8 (by kernel_rfl) (by kernel_rfl)

set_option maxRecDepth 100000 in
theorem fnSum_lifted (os : Os) (started : os.Started) (H : Type) (enc : TypeId × Value → H) :
    ReturnsInHanded {} Tryd.checked os 3 .any (fun w args => (Rows.fnSumSpec.pre enc Tryd.prog Tryd.f3 [] false w args ∧ laidMetH Tryd.prog Rows.fnSumRow.laid w) ∧ sizedMet enc Tryd.prog Tryd.f3 (OpenSpec.ofChange Rows.fnSumSpec) false w args)
      (Rows.fnSumSpec.post enc Tryd.prog Tryd.f3 false true false false) := by
  refine returnsInHanded_of_change_and (C := Tryd.checked) (X := fun w _ => laidMetH Tryd.prog Rows.fnSumRow.laid w) (fun _ _ _ hh h => h.of_heap hh) own0 started (by kernel_rfl) Tryd.func3
    (ChangeSpec.witness_at (enc := enc) (C := Tryd.checked) (os := os) (X := fun w _ => laidMetH Tryd.prog Rows.fnSumRow.laid w) false (fnSumWorld os) #[.agg #[.int .i64 0, .int .i64 0, .int .i64 0], .slice none 0 0] 8 rfl (by kernel_rfl) (by kernel_rfl) (by kernel_rfl) (by kernel_rfl) (by kernel_rfl) (fnSumMet os _)) ?_
  intro W base args ds gs before hval0 hW _ _ hL _
  have hval : ∀ (j : Nat) t v, Tryd.f3.params[j]? = some t → args[j]? = some v → Value.okWide Tryd.prog W .any base t v := hval0
  have hW' := hW
  obtain ⟨p, q, hA0, hV0, rfl, hfz, hnd⟩ := hW
  have hA : DataW.TrodAll enc Tryd.prog W 0 (fun _ => true) true Tryd.f3.params.toList args.toList ds p := hA0
  obtain ⟨-, -, -, -, g0, -, rfl, -⟩ := trodVars_one hV0
  rw [Tryd.params3] at hA hval
  have hm := kW_of hL
  clear hA0 hV0 hval0
  obtain ⟨v0, vs0, d0, ds0, p0, q0, hargs0, rfl, rfl, h0, r0⟩ := trodAll_cons hA
  obtain ⟨v1, vs1, d1, ds1, p1, q1, hargs1, rfl, rfl, h1, r1⟩ := trodAll_cons r0
  obtain ⟨e2, rfl, rfl⟩ := trodAll_nil r1
  obtain rfl : args = #[v0, v1] := by cases args; simp_all
  obtain ⟨kI, sI, bI, rfl⟩ := open_hash Tryd.underlying23 (by kernel_rfl) (by kernel_rfl) Tryd.underlying3 Tryd.underlying3 Tryd.underlying3 (hval 0 23 v0 rfl rfl) h0
  obtain ⟨l, hl⟩ := open_bytes Tryd.underlying24 Tryd.underlying5 (by kernel_rfl) (hval 1 24 v1 rfl rfl) h1
  refine (fnSum_c hl hm).mono fun e W' ⟨he, hb⟩ => ?_
  exact ⟨_, he, post_true laidOut (by kernel_rfl) (by kernel_rfl) rfl Tryd.underlying4 hW' rfl hb⟩

theorem fnSum_said : Rows.FnSumSaid :=
  OpenClaim.holds_of_wide 3 Tryd.f3 rfl rfl rfl rfl rfl rfl rfl ⟨rfl, rfl, rfl, rfl, rfl⟩ rfl rfl rfl rfl rfl (by kernel_rfl) Tryd.func3 (by kernel_rfl)
    (of_decide_eq_true (by kernel_rfl)) (by unfold Func.isWrapper; first | (rw [if_pos (by decide +kernel)]; kernel_rfl) | (rw [if_neg (by decide +kernel)]; exact ⟨rfl, rfl⟩))
    (fun os started H enc _ => fnSum_lifted os started H enc)

theorem fnSum_plain (f : FuncId) (fn : Func) (hf : Tryd.pinned.checked.prog.funcNamed "loop.example/pub-g03039/laws.FnSum" = some f) (hfn : Tryd.pinned.checked.prog.funcs[f]? = some fn) :
    false = Tryd.pinned.checked.prog.looks [] ∧ ∀ (j : Nat) t, fn.params[j]? = some t → Tryd.pinned.checked.prog.wantsStandIn t = false := by
  obtain rfl : f = 3 := Option.some.inj ((show Tryd.prog.funcNamed "loop.example/pub-g03039/laws.FnSum" = some 3 by kernel_rfl).symm.trans hf) |>.symm
  obtain rfl : fn = Tryd.f3 := (Option.some.inj (Tryd.func3.symm.trans hfn)).symm
  refine ⟨by kernel_rfl, fun j t ht => ?_⟩
  rw [Tryd.params3] at ht
  have hmem := Array.mem_of_getElem? ht
  have hall : ∀ t ∈ (#[23, 24] : Array TypeId), Tryd.prog.wantsStandIn t = false := by decide +kernel
  exact hall t hmem

/-- The tied card. -/
theorem fnSum_card : Rows.FnSumCardSaid :=
  Claim7.holds_tied_plain_at .later [] _ _ _ _ fnSum_said (fun _ h => by cases h) (by kernel_rfl) (fun _ h => by cases h) fnSum_row_tie rfl ⟨rfl, rfl⟩ (by kernel_rfl) rfl fnSum_plain (by kernel_rfl)
#print axioms fnSum_card
end Go.Proofs.YtkmofjefjbhbhaaDoor
