/- A slice literal in a walk; a region that does not draw its order, by a plan in the text's order. No condition. -/
import Derived.Test.YtpogbljoohdehaaDoorLawKit
import Derived.Deep.Cut
namespace Go.FourQ
open Go.RowKit

theorem wpList_buildS {P : Program} {ops : Array Oper} {rest : List Oper} {o : Oper} {a : Act} {w : World} {Q : Exit → Act → World → Prop} (hg : o.guard = none) (t : TypeId) (len : Nat) (parts : Array (Nat × Operand)) (_ : o.op = .buildSlice t len parts)
    (v : Value) (w' : World) (hrun : (execOp a.eval o).run P w = .ok (.value v) w') (h : wpList P ops Q rest (a.put o.dst v) w') : wpList P ops Q (o :: rest) a w :=
  wpList_plain hg fun _ hK => by
    unfold Oper.wp
    rw [hrun]
    exact hK _ _ h

section
variable {P : Program} {md : Region.Mode} {ops : Array Oper} {Q : Exit → Act → World → Prop} {S : World → Prop}

theorem wpOps_of_plan : ∀ (r : List (Bool × Nat)) (a : Act) (w : World), S w → wpPlan P ops Q S r a w → wpOps P ops Q (r.map (·.2)) a w
  | [], _, _, _, h => h
  | (true, i) :: r, a, w, hS, ⟨o, v, ho, hy, h⟩ => by
    rw [List.map_cons, wpOps_cons]
    exact hy.wpOp ho hS (wpOps_of_plan r _ _ hS h)
  | (false, i) :: r, a, w, hS, h => by
    rw [List.map_cons, wpOps_cons]
    exact wpOp_mono (fun a' w' h' => wpOps_of_plan r a' w' h'.1 h'.2) h

/-- A region in the text's order, by a plan; S: what was there when it began is as it was. -/
theorem wp_seq_at {id : Nat} {l : List Oper} {a : Act} {w : World} (ops : Array Oper) (r : List (Bool × Nat)) (he : l.toArray = ops) (hl : r.map (·.2) = List.range ops.size)
    (h : PlanG P ops Q (fun w' => Below w.heap.size w w') r a w) : (Code.region id l.toArray false).wp P Q a w := by
  subst he
  refine wp_region ?_
  rw [← hl]
  exact wpOps_of_plan r a w (Below.refl _ _) h.out

variable {a : Act} {w : World} {r : List (Bool × Nat)} {i : Nat} {d : Option Tmp} {v : Value}

/-- An operation without a value (a store). -/
theorem k_skipOp (hw : wantN ops i a = some true) (hd : (opN ops i).dst = d) {w' : World} (hrun : (execOp a.eval (opN ops i)).run P w = .ok .skip w') (hS : S w')
    (h : ∀ x, x = w' → S x → PlanG P ops Q S r (a.put d undef) x) : PlanG P ops Q S ((false, i) :: r) a w := by
  subst hd
  refine ⟨?_⟩
  show wpOp P ops Q i _ a w
  have hw' := wantN_some hw
  unfold wpOp
  simp only [hw'.1, hw'.2, if_true]
  refine .inl ?_
  unfold Oper.wp
  rw [hrun]
  exact ⟨hS, (h w' rfl hS).out⟩
end
end Go.FourQ
