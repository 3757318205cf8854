/- More steps of a plan: '!=' on arrays, a store of a whole row. No condition. -/
import Derived.Test.YtfkfljohhabldaaDoorTree
namespace Go.FourQ
open Go.RowKit
section
variable {P : Program} {ops : Array Oper} {Q : Exit → Act → World → Prop} {S : World → Prop} {a : Act} {w : World} {r : List (Bool × Nat)} {i : Nat} {d : Option Tmp}

theorem k_neq (hw : wantN ops i a = some true) (hd : (opN ops i).dst = d) {ty ty' : TypeId} {x y : Operand} (hop : (opN ops i).op = .binOp .neq ty x y ty') {xs ys : Array Value} {b : Bool} (hx : a.eval x = .agg xs) (hy : a.eval y = .agg ys)
    (hm : P.eqGuardType P.depth ty = false) (hb : ∀ w', (binOp .neq ty (.agg xs) (.agg ys)).run P w' = .ok (.bool b) w')
    (h : PlanG P ops Q S r (a.put d (.bool b)) w) : PlanG P ops Q S ((true, i) :: r) a w := by
  refine k_pure hw hd (v := .bool b) (fun w' => ?_) h
  unfold execOp
  simp only [hop, hx, hy, Sem.run_bind, run_eqGuard_agg w' .neq ty x y xs ys hm, Result.andThen_ok, hb w', Sem.run_pure]

theorem k_put (hw : wantN ops i a = some true) (hd : (opN ops i).dst = d) {ty : TypeId} {x y : Operand} (hop : (opN ops i).op = .store ty x y) {g : Nat} {cells : Array Value} (hx : a.eval x = .pointer (some ⟨g, 0, none⟩)) (hy : a.eval y = .agg cells)
    {t : TypeId} {old : Array Value} (hg : w.heap[g]? = some (.cells old t (0, 0))) (hi : (P.info? ty).map (·.size) = some cells.size)
    (hold : old.size = cells.size) (h1 : cells.all (·.oneCell') = true) (hS : S (w.setRow g cells))
    (h : ∀ x, x = w.setRow g cells → S x → PlanG P ops Q S r (a.put d undef) x) : PlanG P ops Q S ((false, i) :: r) a w :=
  k_store hw hd hop hx hy hg hi hold h1 ⟨hS, h _ rfl hS⟩
end
end Go.FourQ
