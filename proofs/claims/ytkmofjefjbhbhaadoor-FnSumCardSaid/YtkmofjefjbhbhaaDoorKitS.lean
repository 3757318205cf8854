/- Plans: the steps of a walk in which the order is settled; single cells, rows. No condition. -/
import Derived.OrdersHeld
import Derived.BigQuiet
import Derived.Deep.Cut
import Derived.Deep.LoopGhost
import Derived.Deep.QuietTactic
import Derived.Great.BuildSlice
import Derived.KernelRfl
import Derived.Lib.Hide
import Derived.StillTailTactics
import Derived.WalkKit
import Derived.WalkLawsBesides
import Derived.WalkSpells
import Derived.Laws.IdiomCopy
namespace Go.FourQ
open Go.RowKit
section
variable {P : Program} {w : World}
theorem addr_add (b o j : Nat) : (⟨b, o, none⟩ : Addr).add j = ⟨b, o + j, none⟩ := by unfold Addr.add; split <;> simp_all
theorem run_loadVar_at (w : World) (b off : Nat) (ty : TypeId) (cs : Array Value) (d : TypeDesc) (hc : ∀ j v, cs[j]? = some v → w.cell? ⟨b, off + j, none⟩ = some v)
    (hu : P.underlying ty = some d) (hd : (match d with | .struct _ | .array _ _ => true | _ => false) = true) (hi : (P.info? ty).map (·.size) = some cs.size) :
    (loadVar ty ⟨b, off, none⟩).run P w = .ok (.agg cs) w := by
  have hl : (loadCells ⟨b, off, none⟩ cs.toList.length).run P w = .ok cs.toList.toArray w :=
    run_loadCells_list (P := P) w ⟨b, off, none⟩ cs.toList (fun j v hv => by
      rw [addr_add]
      exact hc j v (by simpa using hv))
  cases hq : P.info? ty with
  | none => simp [hq] at hi
  | some i =>
    have hs : i.size = cs.size := by simpa [hq] using hi
    have hagg : (isAgg ty).run P w = .ok true w := by
      unfold isAgg
      rw [Sem.run_bind, run_underlying hu w]
      cases d <;> simp_all
    simp only [Array.length_toList, Array.toArray_toList] at hl
    simp [loadVar, Sem.run_bind, hagg, sizeOf, typeInfo, hq, hs, hl]
theorem nb_trans {a b c : World} (h : Below a.heap.size a b) (k : Below b.heap.size b c) : Below a.heap.size a c := h.trans (k.mono h.size)
theorem below_setRow {B : Nat} {v : World} {g : Nat} {cs : Array Value} (h : Below B v w) (hg : B ≤ g) : Below B v (w.setRow g cs) :=
  h.trans ⟨rfl, rfl, rfl, by simp, fun k hk => setRow_other w g k cs (by omega)⟩
end
end Go.FourQ
namespace Go.FourQ
open Go.RowKit

section
variable {P : Program} {md : Region.Mode} {ops : Array Oper} {Q : Exit → Act → World → Prop} {S : World → Prop}

/-- A plan: (true, i): number i is taken first; (false, i): number i alone may come up. -/
def planOk (md : Region.Mode) (ops : Array Oper) : Array Bool → List (Bool × Nat) → Bool
  | listed, [] => (Region.ready md ops listed).isEmpty
  | listed, (true, i) :: r => Region.free md ops listed i && (Region.ready md ops listed).contains i && planOk md ops (listed.setIfInBounds i true) r
  | listed, (false, i) :: r => Region.ready md ops listed == [i] && planOk md ops (listed.setIfInBounds i true) r

def wpPlan (P : Program) (ops : Array Oper) (Q : Exit → Act → World → Prop) (S : World → Prop) : List (Bool × Nat) → Act → World → Prop
  | [], a, w => Q .normal a w
  | (true, i) :: r, a, w => ∃ o v, ops[i]? = some o ∧ YieldsIf P ops S o v a ∧ wpPlan P ops Q S r (a.put o.dst v) w
  | (false, i) :: r, a, w => wpOp P ops Q i (fun a' w' => S w' ∧ wpPlan P ops Q S r a' w') a w

theorem wpAnyH_of_plan (hs : Region.noSelect ops = true) (hQ : ∀ c a (d : Option Tmp) v w, Q (.panic c) (Act.put a d v) w → Q (.panic c) a w) : ∀ (r : List (Bool × Nat)) (fuel : Nat) (listed : Array Bool) (a : Act) (w : World),
    r.length ≤ fuel → planOk md ops listed r = true → S w → wpPlan P ops Q S r a w → wpAnyH P md ops Q S fuel listed a w
  | [], fuel, listed, a, w, _, hp, _, h => wpAnyH_done (by simpa [planOk] using hp) h fuel
  | (true, i) :: r, 0, _, _, _, hl, _, _, _ => absurd hl (by simp)
  | (false, i) :: r, 0, _, _, _, hl, _, _, _ => absurd hl (by simp)
  | (true, i) :: r, fuel + 1, listed, a, w, hl, hp, hS, h => by
    simp only [planOk, Bool.and_eq_true] at hp
    obtain ⟨o, v, ho, hy, hr⟩ := h
    exact wpAnyH_take ho hs hp.1.1 hp.1.2 (fun c a w => hQ c a o.dst v w) hy hS (wpAnyH_of_plan hs hQ r fuel _ _ _ (by simpa using hl) hp.2 hS hr)
  | (false, i) :: r, fuel + 1, listed, a, w, hl, hp, hS, h => by
    simp only [planOk, Bool.and_eq_true, beq_iff_eq] at hp
    refine wpAnyH_all hp.1 (by simp) (fun j hj => ?_)
    obtain rfl : j = i := by simpa using hj
    exact wpOp_mono (fun a' w' h' => ⟨h'.1, wpAnyH_of_plan hs hQ r fuel _ _ _ (by simpa using hl) hp.2 h'.1 h'.2⟩) h

/-- The region, by a plan; S: what was there when it began is as it was. -/
theorem wp_region_plan {id : Nat} {l : List Oper} {a : Act} {w : World} (r : List (Bool × Nat)) (hm : P.follows .mixedOrders = true) (hs : Region.noSelect l.toArray = true)
    (hQ : ∀ c a (d : Option Tmp) v w, Q (.panic c) (Act.put a d v) w → Q (.panic c) a w)
    (hl : Nat.ble r.length l.toArray.size = true) (hp : planOk .any l.toArray (Array.replicate l.toArray.size false) r = true)
    (h : wpPlan P l.toArray Q (fun w' => Below w.heap.size w w') r a w.drew) : (Code.region id l.toArray true).wp P Q a w :=
  wp_region_held (S := fun w' => Below w.heap.size w w') hm (wpAnyH_of_plan hs hQ r _ _ _ _ (Nat.le_of_ble_eq_true hl) hp ((Below.refl _ _).drew) h)

variable {a : Act} {w : World} {o : Oper} {i : Nat} {r : List (Bool × Nat)}

theorem pl_pure (ho : ops[i]? = some o) (hw : Region.wanted o (yielded ops a.tmps) = true) (v : Value) (hrun : ∀ w', (execOp a.eval o).run P w' = .ok (.value v) w')
    (h : wpPlan P ops Q S r (a.put o.dst v) w) : wpPlan P ops Q S ((true, i) :: r) a w := ⟨o, v, ho, .inl ⟨hw, fun w' _ => hrun w'⟩, h⟩

theorem pl_skip (ho : ops[i]? = some o) (hw : Region.wanted o (yielded ops a.tmps) = false)
    (h : wpPlan P ops Q S r (a.put o.dst undef) w) : wpPlan P ops Q S ((true, i) :: r) a w := ⟨o, undef, ho, .inr ⟨hw, rfl⟩, h⟩

theorem pl_skip' (hS : S w) (ho : ops[i]? = some o) (hw : Region.wanted o (yielded ops a.tmps) = false)
    (h : wpPlan P ops Q S r (a.put o.dst undef) w) : wpPlan P ops Q S ((false, i) :: r) a w := by
  show wpOp P ops Q i _ a w
  unfold wpOp
  simp only [ho, hw, Bool.false_eq_true, if_false]
  exact ⟨hS, h⟩

theorem pl_load (ho : ops[i]? = some o) (hw : Region.wanted o (yielded ops a.tmps) = true) (ty : TypeId) (x : Operand) (hop : o.op = .load ty x) (b off : Nat) (hx : a.eval x = .pointer (some ⟨b, off, none⟩)) (cs : Array Value) (d : TypeDesc)
    (hc : ∀ w', S w' → ∀ j v, cs[j]? = some v → w'.cell? ⟨b, off + j, none⟩ = some v)
    (hu : P.underlying ty = some d) (hd : (match d with | .struct _ | .array _ _ => true | _ => false) = true) (hi : (P.info? ty).map (·.size) = some cs.size)
    (h : wpPlan P ops Q S r (a.put o.dst (.agg cs)) w) : wpPlan P ops Q S ((true, i) :: r) a w := by
  refine ⟨o, .agg cs, ho, .inl ⟨hw, fun w' hS => ?_⟩, h⟩
  unfold execOp
  simp only [hop, hx, Instr.loadAt, Instr.sureAddr, Sem.run_bind, Sem.run_pure, Result.andThen_ok, run_loadVar_at w' b off ty cs d (hc w' hS) hu hd hi]

theorem pl_eql (ho : ops[i]? = some o) (hw : Region.wanted o (yielded ops a.tmps) = true) (ty ty' : TypeId) (x y : Operand) (hop : o.op = .binOp .eql ty x y ty') (xs ys : Array Value) (b : Bool) (hx : a.eval x = .agg xs) (hy : a.eval y = .agg ys)
    (hm : P.eqGuardType P.depth ty = false) (hb : ∀ w', (binOp .eql ty (.agg xs) (.agg ys)).run P w' = .ok (.bool b) w')
    (h : wpPlan P ops Q S r (a.put o.dst (.bool b)) w) : wpPlan P ops Q S ((true, i) :: r) a w := by
  refine pl_pure ho hw (.bool b) (fun w' => ?_) h
  unfold execOp
  simp only [hop, hx, hy, Sem.run_bind, run_eqGuard_agg w' .eql ty x y xs ys hm, Result.andThen_ok, hb w', Sem.run_pure]

/-- A call of a Go function. -/
theorem pl_call (ho : ops[i]? = some o) (hw : Region.wanted o (yielded ops a.tmps) = true) (f : FuncId) (args : Array Value) (v : Value) (hrun : ∀ w', (execOp a.eval o).run P w' = .ok (.enter f args) w')
    (hc : Calls P f args w fun e w' => e = .returned v ∧ Below w.heap.size w w')
    (h : ∀ w', Below w.heap.size w w' → S w' ∧ wpPlan P ops Q S r (a.put o.dst v) w') : wpPlan P ops Q S ((false, i) :: r) a w := by
  show wpOp P ops Q i _ a w
  unfold wpOp
  simp only [ho, hw, if_true]
  refine .inl ?_
  unfold Oper.wp
  rw [hrun w]
  refine hc.mono ?_
  rintro e w' ⟨rfl, hb⟩
  exact h w' hb

/-- An operation that makes memory. -/
theorem pl_make (ho : ops[i]? = some o) (hw : Region.wanted o (yielded ops a.tmps) = true) (v : Value) (w' : World) (hrun : (execOp a.eval o).run P w = .ok (.value v) w')
    (h : S w' ∧ wpPlan P ops Q S r (a.put o.dst v) w') : wpPlan P ops Q S ((false, i) :: r) a w := by
  show wpOp P ops Q i _ a w
  unfold wpOp
  simp only [ho, hw, if_true]
  refine .inl ?_
  unfold Oper.wp
  rw [hrun]
  exact h

/-! The same by number: the operation is looked up by the kernel. -/

/-- The operations of a region of a code. -/
def regOf (id : Nat) : Code → Option (Array Oper)
  | .region j ops _ => if j == id then some ops else none
  | .seq x y | .cond _ x y | .rangeFunc _ _ x y => (regOf id x).or (regOf id y)
  | .block _ c | .loop c | .scope c => regOf id c
  | _ => none

def opsAt (f : Func) (id : Nat) : Array Oper := ((f.body.bind (regOf id)).getD #[])

/-- 'wpPlan', that nobody unfolds: the elaborator looks into the goal behind each step, and what it sees there it would reckon out. -/
structure PlanG (P : Program) (ops : Array Oper) (Q : Exit → Act → World → Prop) (S : World → Prop) (r : List (Bool × Nat)) (a : Act) (w : World) : Prop where
  out : wpPlan P ops Q S r a w

theorem wp_region_at {id : Nat} {l : List Oper} (ops : Array Oper) (r : List (Bool × Nat)) (he : l.toArray = ops) (hm : P.follows .mixedOrders = true) (hs : Region.noSelect ops = true)
    (hQ : ∀ c a (d : Option Tmp) v w, Q (.panic c) (Act.put a d v) w → Q (.panic c) a w)
    (hl : Nat.ble r.length ops.size = true) (hp : planOk .any ops (Array.replicate ops.size false) r = true)
    (h : PlanG P ops Q (fun w' => Below w.heap.size w w') r a w.drew) : (Code.region id l.toArray true).wp P Q a w := by
  subst he
  exact wp_region_plan r hm hs hQ hl hp h.out

def opN (ops : Array Oper) (i : Nat) : Oper := ops[i]?.getD default
def wantN (ops : Array Oper) (i : Nat) (a : Act) : Option Bool := ops[i]?.map fun o => Region.wanted o (yielded ops a.tmps)

theorem wantN_some {b : Bool} (h : wantN ops i a = some b) : ops[i]? = some (opN ops i) ∧ Region.wanted (opN ops i) (yielded ops a.tmps) = b := by
  unfold wantN opN at *
  cases hq : ops[i]? with
  | none => rw [hq] at h; cases h
  | some o => rw [hq] at h; exact ⟨rfl, by simpa using h⟩

variable {d : Option Tmp} {v : Value}

theorem k_pure (hw : wantN ops i a = some true) (hd : (opN ops i).dst = d) (hrun : ∀ w', (execOp a.eval (opN ops i)).run P w' = .ok (.value v) w')
    (h : PlanG P ops Q S r (a.put d v) w) : PlanG P ops Q S ((true, i) :: r) a w := by
  subst hd
  exact ⟨pl_pure (wantN_some hw).1 (wantN_some hw).2 v hrun h.out⟩

theorem k_skip (hw : wantN ops i a = some false) (hd : (opN ops i).dst = d)
    (h : PlanG P ops Q S r (a.put d undef) w) : PlanG P ops Q S ((true, i) :: r) a w := by
  subst hd
  exact ⟨pl_skip (wantN_some hw).1 (wantN_some hw).2 h.out⟩

theorem k_skip' (hS : S w) (hw : wantN ops i a = some false) (hd : (opN ops i).dst = d)
    (h : PlanG P ops Q S r (a.put d undef) w) : PlanG P ops Q S ((false, i) :: r) a w := by
  subst hd
  exact ⟨pl_skip' hS (wantN_some hw).1 (wantN_some hw).2 h.out⟩

theorem k_load (hw : wantN ops i a = some true) (hd : (opN ops i).dst = d) {ty : TypeId} {x : Operand} (hop : (opN ops i).op = .load ty x) {b off : Nat} (hx : a.eval x = .pointer (some ⟨b, off, none⟩)) {cs : Array Value}
    (hc : ∀ w', S w' → ∀ j v, cs[j]? = some v → w'.cell? ⟨b, off + j, none⟩ = some v) {t : TypeDesc}
    (hu : P.underlying ty = some t) (ht : (match t with | .struct _ | .array _ _ => true | _ => false) = true) (hi : (P.info? ty).map (·.size) = some cs.size)
    (h : PlanG P ops Q S r (a.put d (.agg cs)) w) : PlanG P ops Q S ((true, i) :: r) a w := by
  subst hd
  exact ⟨pl_load (wantN_some hw).1 (wantN_some hw).2 ty x hop b off hx cs t hc hu ht hi h.out⟩

theorem k_eql (hw : wantN ops i a = some true) (hd : (opN ops i).dst = d) {ty ty' : TypeId} {x y : Operand} (hop : (opN ops i).op = .binOp .eql ty x y ty') {xs ys : Array Value} {b : Bool} (hx : a.eval x = .agg xs) (hy : a.eval y = .agg ys)
    (hm : P.eqGuardType P.depth ty = false) (hb : ∀ w', (binOp .eql ty (.agg xs) (.agg ys)).run P w' = .ok (.bool b) w')
    (h : PlanG P ops Q S r (a.put d (.bool b)) w) : PlanG P ops Q S ((true, i) :: r) a w := by
  subst hd
  exact ⟨pl_eql (wantN_some hw).1 (wantN_some hw).2 ty ty' x y hop xs ys b hx hy hm hb h.out⟩

theorem k_call (hw : wantN ops i a = some true) (hd : (opN ops i).dst = d) {f : FuncId} {args : Array Value} (hrun : ∀ w', (execOp a.eval (opN ops i)).run P w' = .ok (.enter f args) w')
    (hc : Calls P f args w fun e w' => e = .returned v ∧ Below w.heap.size w w')
    (h : ∀ w', Below w.heap.size w w' → S w' ∧ PlanG P ops Q S r (a.put d v) w') : PlanG P ops Q S ((false, i) :: r) a w := by
  subst hd
  exact ⟨pl_call (wantN_some hw).1 (wantN_some hw).2 f args v hrun hc fun w' hb => ⟨(h w' hb).1, (h w' hb).2.out⟩⟩

theorem k_make (hw : wantN ops i a = some true) (hd : (opN ops i).dst = d) {w' : World} (hrun : (execOp a.eval (opN ops i)).run P w = .ok (.value v) w') (hS : S w')
    (h : ∀ x, x = w' → S x → PlanG P ops Q S r (a.put d v) x) : PlanG P ops Q S ((false, i) :: r) a w := by
  subst hd
  exact ⟨pl_make (wantN_some hw).1 (wantN_some hw).2 v w' hrun ⟨hS, (h w' rfl hS).out⟩⟩

theorem k_end (h : Q .normal a w) : PlanG P ops Q S [] a w := ⟨h⟩

end
end Go.FourQ

namespace Go.FourQ
open Go.RowKit
theorem nb_alloc {w w' : World} (h : Below w.heap.size w w') (o : Obj) : Below w.heap.size w (w'.alloc o) := h.trans ((Below.refl _ _).alloc h.size o)
theorem sizeNb {w w' : World} (h : Below w.heap.size w w') : w.heap.size ≤ w'.heap.size := h.size
end Go.FourQ
namespace Go.FourQ
open Go.RowKit

theorem wpList_buildS {P : Program} {ops : Array Oper} {rest : List Oper} {o : Oper} {a : Act} {w : World} {Q : Exit → Act → World → Prop} (hg : o.guard = none) (t : TypeId) (len : Nat) (parts : Array (Nat × Operand)) (_ : o.op = .buildSlice t len parts)
    (v : Value) (w' : World) (hrun : (execOp a.eval o).run P w = .ok (.value v) w') (h : wpList P ops Q rest (a.put o.dst v) w') : wpList P ops Q (o :: rest) a w :=
  wpList_plain hg fun _ hK => by
    unfold Oper.wp
    rw [hrun]
    exact hK _ _ h

section
variable {P : Program} {md : Region.Mode} {ops : Array Oper} {Q : Exit → Act → World → Prop} {S : World → Prop}

theorem wpOps_of_plan : ∀ (r : List (Bool × Nat)) (a : Act) (w : World), S w → wpPlan P ops Q S r a w → wpOps P ops Q (r.map (·.2)) a w
  | [], _, _, _, h => h
  | (true, i) :: r, a, w, hS, ⟨o, v, ho, hy, h⟩ => by
    rw [List.map_cons, wpOps_cons]
    exact hy.wpOp ho hS (wpOps_of_plan r _ _ hS h)
  | (false, i) :: r, a, w, hS, h => by
    rw [List.map_cons, wpOps_cons]
    exact wpOp_mono (fun a' w' h' => wpOps_of_plan r a' w' h'.1 h'.2) h

/-- A region in the text's order, by a plan; S: what was there when it began is as it was. -/
theorem wp_seq_at {id : Nat} {l : List Oper} {a : Act} {w : World} (ops : Array Oper) (r : List (Bool × Nat)) (he : l.toArray = ops) (hl : r.map (·.2) = List.range ops.size)
    (h : PlanG P ops Q (fun w' => Below w.heap.size w w') r a w) : (Code.region id l.toArray false).wp P Q a w := by
  subst he
  refine wp_region ?_
  rw [← hl]
  exact wpOps_of_plan r a w (Below.refl _ _) h.out

/-- A region that draws its order, by a plan; S: what holds throughout. -/
theorem wp_region_atS {id : Nat} {l : List Oper} {a : Act} {w : World} (ops : Array Oper) (r : List (Bool × Nat)) (S : World → Prop) (he : l.toArray = ops) (hm : P.follows .mixedOrders = true) (hs : Region.noSelect ops = true)
    (hQ : ∀ c a (d : Option Tmp) v w, Q (.panic c) (Act.put a d v) w → Q (.panic c) a w)
    (hl : Nat.ble r.length ops.size = true) (hp : planOk .any ops (Array.replicate ops.size false) r = true) (hS : S w.drew)
    (h : PlanG P ops Q S r a w.drew) : (Code.region id l.toArray true).wp P Q a w := by
  subst he
  exact wp_region_held (S := S) hm (wpAnyH_of_plan hs hQ r _ _ _ _ (Nat.le_of_ble_eq_true hl) hp hS h.out)

variable {a : Act} {w : World} {r : List (Bool × Nat)} {i : Nat} {d : Option Tmp} {v : Value}

/-- An operation without a value (a store). -/
theorem k_skipOp (hw : wantN ops i a = some true) (hd : (opN ops i).dst = d) {w' : World} (hrun : (execOp a.eval (opN ops i)).run P w = .ok .skip w') (hS : S w')
    (h : ∀ x, x = w' → S x → PlanG P ops Q S r (a.put d undef) x) : PlanG P ops Q S ((false, i) :: r) a w := by
  subst hd
  refine ⟨?_⟩
  show wpOp P ops Q i _ a w
  have hw' := wantN_some hw
  unfold wpOp
  simp only [hw'.1, hw'.2, if_true]
  refine .inl ?_
  unfold Oper.wp
  rw [hrun]
  exact ⟨hS, (h w' rfl hS).out⟩

/-- A store of a whole row. -/
theorem k_store (hw : wantN ops i a = some true) (hd : (opN ops i).dst = d) {ty : TypeId} {x y : Operand} (hop : (opN ops i).op = .store ty x y) {g : Nat} {cells : Array Value} (hx : a.eval x = .pointer (some ⟨g, 0, none⟩)) (hy : a.eval y = .agg cells)
    {t : TypeId} {old : Array Value} (hg : w.heap[g]? = some (.cells old t (0, 0))) (hi : (P.info? ty).map (·.size) = some cells.size)
    (hold : old.size = cells.size) (h1 : cells.all (·.oneCell') = true)
    (h : S (w.setRow g cells) ∧ PlanG P ops Q S r (a.put d undef) (w.setRow g cells)) : PlanG P ops Q S ((false, i) :: r) a w := by
  subst hd
  refine ⟨?_⟩
  show wpOp P ops Q i _ a w
  have hw' := wantN_some hw
  unfold wpOp
  simp only [hw'.1, hw'.2, if_true]
  exact .inl (wp_store_row ty x y hop g cells hx hy t old hg hi hold h1 ⟨h.1, h.2.out⟩)

/-- A whole row is read. -/
theorem k_row (hw : wantN ops i a = some true) (hd : (opN ops i).dst = d) {ty : TypeId} {x : Operand} (hop : (opN ops i).op = .load ty x) {b : Nat} (hx : a.eval x = .pointer (some ⟨b, 0, none⟩)) {cs : Array Value}
    (hc : ∀ w', S w' → ∃ T, w'.heap[b]? = some (.cells cs T (0, 0))) {t : TypeDesc}
    (hu : P.underlying ty = some t) (ht : (match t with | .struct _ | .array _ _ => true | _ => false) = true) (hi : (P.info? ty).map (·.size) = some cs.size)
    (h : PlanG P ops Q S r (a.put d (.agg cs)) w) : PlanG P ops Q S ((true, i) :: r) a w :=
  k_load hw hd hop hx (fun w' hs j v hj => by obtain ⟨T, hT⟩ := hc w' hs; rw [cell_of_row w' _ _ _ T (0, 0) hT, Nat.zero_add]; exact hj) hu ht hi h
end

/-- What was there at w0 is as it was; these rows hold these cells; those hold so many. -/
structure Kept (w0 : World) (bs : List (Nat × Array Value)) (ns : List (Nat × Nat)) (w' : World) : Prop where
  nb : Below w0.heap.size w0 w'
  row : ∀ p ∈ bs, ∃ T, w'.heap[p.1]? = some (.cells p.2 T (0, 0))
  room : ∀ p ∈ ns, ∃ T old, old.size = p.2 ∧ w'.heap[p.1]? = some (.cells old T (0, 0))

theorem lt_of_heap {w : World} {k : Nat} {o : Obj} (h : w.heap[k]? = some o) : k < w.heap.size := by
  rcases Nat.lt_or_ge k w.heap.size with h' | h'
  · exact h'
  · rw [Array.getElem?_eq_none h'] at h; cases h

theorem Kept.go {w0 w1 w2 : World} {bs : List (Nat × Array Value)} {ns : List (Nat × Nat)} (h : Kept w0 bs ns w1) (v : Below w1.heap.size w1 w2) : Kept w0 bs ns w2 where
  nb := nb_trans h.nb v
  row := fun p hp => by obtain ⟨T, hT⟩ := h.row p hp; exact ⟨T, (v.block _ (lt_of_heap hT)).trans hT⟩
  room := fun p hp => by obtain ⟨T, old, ho, hT⟩ := h.room p hp; exact ⟨T, old, ho, (v.block _ (lt_of_heap hT)).trans hT⟩

theorem Kept.at {w0 w1 : World} {bs : List (Nat × Array Value)} {ns : List (Nat × Nat)} (h : Kept w0 bs ns w1) (i : Nat) {b : Nat} {cs : Array Value} (hi : bs[i]? = some (b, cs)) : ∃ T, w1.heap[b]? = some (.cells cs T (0, 0)) :=
  h.row (b, cs) (List.mem_of_getElem? hi)

theorem Kept.put {w0 w1 : World} {bs : List (Nat × Array Value)} {g n : Nat} (h : Kept w0 bs [(g, n)] w1) {cs : Array Value} (hn : cs.size = n) (hg : w0.heap.size ≤ g) (hb : ∀ p ∈ bs, p.1 ≠ g) : Kept w0 bs [(g, n)] (w1.setRow g cs) where
  nb := below_setRow h.nb hg
  row := fun p hp => by obtain ⟨T, hT⟩ := h.row p hp; exact ⟨T, (setRow_other _ _ _ _ (hb p hp)).trans hT⟩
  room := fun p hp => by
    obtain ⟨T, old, _, hT⟩ := h.room p hp
    obtain rfl : p = (g, n) := by simpa using hp
    exact ⟨T, cs, hn, setRow_heap _ _ _ _ _ _ hT⟩

end Go.FourQ

namespace Go.FourQ
open Go.RowKit
section
variable {P : Program} {ops : Array Oper} {Q : Exit → Act → World → Prop} {S : World → Prop} {a : Act} {w : World} {r : List (Bool × Nat)} {i : Nat} {d : Option Tmp} {v : Value}
theorem k_callR (hw : wantN ops i a = some true) (hd : (opN ops i).dst = d) {f : FuncId} {args : Array Value} (hrun : ∀ w', (execOp a.eval (opN ops i)).run P w' = .ok (.enter f args) w') {R : Ending → World → Prop}
    (hc : Calls P f args w R) (h : ∀ e w', R e w' → ∃ v, e = .returned v ∧ S w' ∧ PlanG P ops Q S r (a.put d v) w') : PlanG P ops Q S ((false, i) :: r) a w := by
  subst hd
  refine ⟨?_⟩
  show wpOp P ops Q i _ a w
  have hw' := wantN_some hw
  unfold wpOp
  simp only [hw'.1, hw'.2, if_true]
  refine .inl ?_
  unfold Oper.wp
  rw [hrun w]
  refine hc.mono ?_
  intro e w' hR
  obtain ⟨v, rfl, hS, h'⟩ := h e w' hR
  exact ⟨hS, h'.out⟩
theorem wp_seq_atS {id : Nat} {l : List Oper} {a : Act} {w : World} (ops : Array Oper) (r : List (Bool × Nat)) (S : World → Prop) (he : l.toArray = ops) (hl : r.map (·.2) = List.range ops.size) (hS : S w)
    (h : PlanG P ops Q S r a w) : (Code.region id l.toArray false).wp P Q a w := by
  subst he
  refine wp_region ?_
  rw [← hl]
  exact wpOps_of_plan r a w hS h.out
theorem k_part (hw : wantN ops i a = some true) (hd : (opN ops i).dst = d) {ty : TypeId} {x : Operand} (hop : (opN ops i).op = .load ty x) {b off : Nat} (hx : a.eval x = .pointer (some ⟨b, off, none⟩)) {all cs : Array Value}
    (hc : ∀ w', S w' → ∃ T, w'.heap[b]? = some (.cells all T (0, 0))) (hp : ∀ j v, cs[j]? = some v → all[off + j]? = some v) {t : TypeDesc}
    (hu : P.underlying ty = some t) (ht : (match t with | .struct _ | .array _ _ => true | _ => false) = true) (hi : (P.info? ty).map (·.size) = some cs.size)
    (h : PlanG P ops Q S r (a.put d (.agg cs)) w) : PlanG P ops Q S ((true, i) :: r) a w :=
  k_load hw hd hop hx (fun w' hs j v hj => by obtain ⟨T, hT⟩ := hc w' hs; rw [cell_of_row w' _ _ _ T (0, 0) hT]; exact hp j v hj) hu ht hi h
theorem k_put (hw : wantN ops i a = some true) (hd : (opN ops i).dst = d) {ty : TypeId} {x y : Operand} (hop : (opN ops i).op = .store ty x y) {g : Nat} {cells : Array Value} (hx : a.eval x = .pointer (some ⟨g, 0, none⟩)) (hy : a.eval y = .agg cells)
    {t : TypeId} {old : Array Value} (hg : w.heap[g]? = some (.cells old t (0, 0))) (hi : (P.info? ty).map (·.size) = some cells.size)
    (hold : old.size = cells.size) (h1 : cells.all (·.oneCell') = true) (hS : S (w.setRow g cells))
    (h : ∀ x, x = w.setRow g cells → S x → PlanG P ops Q S r (a.put d undef) x) : PlanG P ops Q S ((false, i) :: r) a w :=
  k_store hw hd hop hx hy hg hi hold h1 ⟨hS, h _ rfl hS⟩
theorem k_ifR (hw : wantN ops i a = some true) (hd : (opN ops i).dst = d) (hrun : ∀ w', S w' → (execOp a.eval (opN ops i)).run P w' = .ok (.value v) w')
    (h : PlanG P ops Q S r (a.put d v) w) : PlanG P ops Q S ((true, i) :: r) a w := by
  subst hd
  exact ⟨⟨_, v, (wantN_some hw).1, .inl ⟨(wantN_some hw).2, hrun⟩, h.out⟩⟩
end
theorem run_loadB {P : Program} {ρ : Operand → Value} {o : Oper} {w : World} {ty : TypeId} {x : Operand} {b off : Nat} {v : Value} {k : IntKind} (ho : o.op = .load ty x) (hx : ρ x = .pointer (some ⟨b, off, none⟩)) (hu : P.underlying ty = some (.int k))
    (hc : w.cell? ⟨b, off, none⟩ = some v) : (execOp ρ o).run P w = .ok (.value v) w := by
  unfold execOp
  simp [ho, hx, Instr.loadAt, Instr.sureAddr, loadVar, isAgg, run_underlying hu, hc, Result.andThen]
theorem run_storeB {P : Program} {ρ : Operand → Value} {o : Oper} {w : World} {ty : TypeId} {x y : Operand} {b off : Nat} {n : Int} {old : Value} {k : IntKind} (ho : o.op = .store ty x y) (hx : ρ x = .pointer (some ⟨b, off, none⟩)) (hy : ρ y = .int k n) (hi : (P.info? ty).map (·.size) = some 1)
    (hc : w.cell? ⟨b, off, none⟩ = some old) (hf : w.frozen? ⟨b, off, none⟩ = false) : (execOp ρ o).run P w = .ok .skip (w.setCell ⟨b, off, none⟩ (.int k n)) := by
  obtain ⟨i, hi1, hi2⟩ : ∃ i, P.info? ty = some i ∧ i.size = 1 := by
    cases h : P.info? ty with
    | none => simp [h] at hi
    | some i => exact ⟨i, rfl, by simpa [h] using hi⟩
  have e : ((⟨b, off, none⟩ : Addr).add 0) = ⟨b, off, none⟩ := by rw [Addr.add_lit]; rfl
  have hst : (store (⟨b, off, none⟩ : Addr) (.int k n)).run P w = .ok () (w.setCell ⟨b, off, none⟩ (.int k n)) := by
    rw [run_store P w _ _ _ rfl, hc]
    simp [hf]
  unfold execOp
  simp [ho, hx, hy, Instr.storeAt, Instr.sureAddr, storeVar, sizeOf, typeInfo, hi1, hi2, Value.cells, storeCells, e, Result.andThen, hst]
theorem run_indexV {P : Program} {ρ : Operand → Value} {o : Oper} {w : World} {t e : TypeId} {n sz b off off' i : Nat} {x y : Operand} (ho : o.op = .indexAddr t x y) (hx : ρ x = .pointer (some ⟨b, off, none⟩)) (hy : ρ y = .int .i64 (i : Int)) (hu : P.underlying t = some (.array n e)) (hs : (P.info? e).map (·.size) = some sz) (hi : i < n) (he : off + i * sz = off') :
    (execOp ρ o).run P w = .ok (.value (.pointer (some ⟨b, off', none⟩))) w := by
  subst he
  have h1 : P.arrayLen t = n := by simp [Program.arrayLen, hu]
  have h2 : P.elem t = e := by simp [Program.elem, hu]
  have h3 : (sizeOf e).run P w = .ok sz w := by
    cases hq : P.info? e with
    | none => simp [hq] at hs
    | some j => simp [hq] at hs; simp [sizeOf, typeInfo, hq, hs]
  have h4 := run_indexAt_array (P := P) (w := w) t ⟨b, off, none⟩ .i64 (i : Int) (by rw [h1, h2]; exact hu)
  rw [if_pos ⟨by omega, by rw [h1]; omega⟩, h2, h3] at h4
  simp only [Result.andThen, Int.toNat_natCast, Addr.add_lit] at h4
  unfold execOp
  simp [ho, hx, hy, h4, Result.andThen]
theorem run_binOpV {P : Program} {ρ : Operand → Value} {o : Oper} {w : World} {op : BinOp} {x y : Operand} {t t' : TypeId} {u v r : Value} (ho : o.op = .binOp op t x y t') (hx : ρ x = u) (hy : ρ y = v) (hq : (eqGuard op t x y u v).run P w = .ok () w) (h : (binOp op t u v).run P w = .ok r w) : (execOp ρ o).run P w = .ok (.value r) w := by
  unfold execOp
  simp [ho, hx, hy, hq, h, Result.andThen]
theorem run_loadRow {P : Program} {ρ : Operand → Value} {o : Oper} {w : World} {ty : TypeId} {x : Operand} {b : Nat} {cs : Array Value} {T : TypeId} {d : TypeDesc} (ho : o.op = .load ty x) (hx : ρ x = .pointer (some ⟨b, 0, none⟩)) (hg : w.heap[b]? = some (.cells cs T (0, 0)))
    (hu : P.underlying ty = some d) (hd : (match d with | .struct _ | .array _ _ => true | _ => false) = true) (hi : (P.info? ty).map (·.size) = some cs.size) : (execOp ρ o).run P w = .ok (.value (.agg cs)) w := by
  unfold execOp
  simp only [ho, hx, Instr.loadAt, Instr.sureAddr, Sem.run_bind, Sem.run_pure, Result.andThen_ok, run_loadVar_row w b T ty cs (0, 0) d hg hu hd hi]
theorem run_cvOp {P : Program} {ρ : Operand → Value} {o : Oper} {w : World} {x : Operand} {s d : TypeId} {u v : Value} (ho : o.op = .convert s d x) (hx : ρ x = u) (h : (convert s d u).run P w = .ok v w) : (execOp ρ o).run P w = .ok (.value v) w := by
  unfold execOp
  simp [ho, hx, h, Result.andThen]
theorem run_convOpE {P : Program} {ρ : Operand → Value} {o : Oper} {w : World} {x : Operand} {s d : TypeId} {u v v' : Value} (ho : o.op = .convert s d x) (hx : ρ x = u) (h : (convert s d u).run P w = .ok v w) (e : v = v') : (execOp ρ o).run P w = .ok (.value v') w := e ▸ run_cvOp ho hx h
theorem run_copyOp {P : Program} {ρ : Operand → Value} {o : Oper} {w w' : World} {x y : Operand} {dT sT : TypeId} {u v r : Value} (ho : o.op = .call { callee := .builtin .copy, args := #[x, y], argTypes := #[dT, sT] })
    (hx : ρ x = u) (hy : ρ y = v) (h : (Builtin.copy_ #[dT, sT] o.type #[u, v]).run P w = .ok r w') : (execOp ρ o).run P w = .ok (.value r) w' := by
  unfold execOp
  simp [ho, resolve, invoke, builtin, hx, hy, h, Result.andThen]
theorem wp_gen {P : Program} {c : Code} {Q : Exit → Act → World → Prop} {a : Act} {w : World} (φ : World → Prop) (h : φ w) (k : ∀ w', φ w' → c.wp P Q a w') : c.wp P Q a w := k w h
end Go.FourQ
