/- A region that draws its order, in which what writes or calls has one order alone, and all else reads what nobody writes: one walk, by a plan. No condition. -/
import Derived.Test.YtfkfljohhabldaaDoorLow
import Derived.OrdersHeld
namespace Go.FourQ
open Go.RowKit

section
variable {P : Program} {md : Region.Mode} {ops : Array Oper} {Q : Exit → Act → World → Prop} {S : World → Prop}

/-- A plan: (true, i): number i is taken first; (false, i): number i alone may come up. -/
def planOk (md : Region.Mode) (ops : Array Oper) : Array Bool → List (Bool × Nat) → Bool
  | listed, [] => (Region.ready md ops listed).isEmpty
  | listed, (true, i) :: r => Region.free md ops listed i && (Region.ready md ops listed).contains i && planOk md ops (listed.setIfInBounds i true) r
  | listed, (false, i) :: r => Region.ready md ops listed == [i] && planOk md ops (listed.setIfInBounds i true) r

def wpPlan (P : Program) (ops : Array Oper) (Q : Exit → Act → World → Prop) (S : World → Prop) : List (Bool × Nat) → Act → World → Prop
  | [], a, w => Q .normal a w
  | (true, i) :: r, a, w => ∃ o v, ops[i]? = some o ∧ YieldsIf P ops S o v a ∧ wpPlan P ops Q S r (a.put o.dst v) w
  | (false, i) :: r, a, w => wpOp P ops Q i (fun a' w' => S w' ∧ wpPlan P ops Q S r a' w') a w

theorem wpAnyH_of_plan (hs : Region.noSelect ops = true) (hQ : ∀ c a (d : Option Tmp) v w, Q (.panic c) (Act.put a d v) w → Q (.panic c) a w) : ∀ (r : List (Bool × Nat)) (fuel : Nat) (listed : Array Bool) (a : Act) (w : World),
    r.length ≤ fuel → planOk md ops listed r = true → S w → wpPlan P ops Q S r a w → wpAnyH P md ops Q S fuel listed a w
  | [], fuel, listed, a, w, _, hp, _, h => wpAnyH_done (by simpa [planOk] using hp) h fuel
  | (true, i) :: r, 0, _, _, _, hl, _, _, _ => absurd hl (by simp)
  | (false, i) :: r, 0, _, _, _, hl, _, _, _ => absurd hl (by simp)
  | (true, i) :: r, fuel + 1, listed, a, w, hl, hp, hS, h => by
    simp only [planOk, Bool.and_eq_true] at hp
    obtain ⟨o, v, ho, hy, hr⟩ := h
    exact wpAnyH_take ho hs hp.1.1 hp.1.2 (fun c a w => hQ c a o.dst v w) hy hS (wpAnyH_of_plan hs hQ r fuel _ _ _ (by simpa using hl) hp.2 hS hr)
  | (false, i) :: r, fuel + 1, listed, a, w, hl, hp, hS, h => by
    simp only [planOk, Bool.and_eq_true, beq_iff_eq] at hp
    refine wpAnyH_all hp.1 (by simp) (fun j hj => ?_)
    obtain rfl : j = i := by simpa using hj
    exact wpOp_mono (fun a' w' h' => ⟨h'.1, wpAnyH_of_plan hs hQ r fuel _ _ _ (by simpa using hl) hp.2 h'.1 h'.2⟩) h

/-- The region, by a plan; S: what was there when it began is as it was. -/
theorem wp_region_plan {id : Nat} {l : List Oper} {a : Act} {w : World} (r : List (Bool × Nat)) (hm : P.follows .mixedOrders = true) (hs : Region.noSelect l.toArray = true)
    (hQ : ∀ c a (d : Option Tmp) v w, Q (.panic c) (Act.put a d v) w → Q (.panic c) a w)
    (hl : Nat.ble r.length l.toArray.size = true) (hp : planOk .any l.toArray (Array.replicate l.toArray.size false) r = true)
    (h : wpPlan P l.toArray Q (fun w' => Below w.heap.size w w') r a w.drew) : (Code.region id l.toArray true).wp P Q a w :=
  wp_region_held (S := fun w' => Below w.heap.size w w') hm (wpAnyH_of_plan hs hQ r _ _ _ _ (Nat.le_of_ble_eq_true hl) hp ((Below.refl _ _).drew) h)

variable {a : Act} {w : World} {o : Oper} {i : Nat} {r : List (Bool × Nat)}

theorem pl_pure (ho : ops[i]? = some o) (hw : Region.wanted o (yielded ops a.tmps) = true) (v : Value) (hrun : ∀ w', (execOp a.eval o).run P w' = .ok (.value v) w')
    (h : wpPlan P ops Q S r (a.put o.dst v) w) : wpPlan P ops Q S ((true, i) :: r) a w := ⟨o, v, ho, .inl ⟨hw, fun w' _ => hrun w'⟩, h⟩

theorem pl_skip (ho : ops[i]? = some o) (hw : Region.wanted o (yielded ops a.tmps) = false)
    (h : wpPlan P ops Q S r (a.put o.dst undef) w) : wpPlan P ops Q S ((true, i) :: r) a w := ⟨o, undef, ho, .inr ⟨hw, rfl⟩, h⟩

theorem pl_skip' (hS : S w) (ho : ops[i]? = some o) (hw : Region.wanted o (yielded ops a.tmps) = false)
    (h : wpPlan P ops Q S r (a.put o.dst undef) w) : wpPlan P ops Q S ((false, i) :: r) a w := by
  show wpOp P ops Q i _ a w
  unfold wpOp
  simp only [ho, hw, Bool.false_eq_true, if_false]
  exact ⟨hS, h⟩

theorem pl_load (ho : ops[i]? = some o) (hw : Region.wanted o (yielded ops a.tmps) = true) (ty : TypeId) (x : Operand) (hop : o.op = .load ty x) (b off : Nat) (hx : a.eval x = .pointer (some ⟨b, off, none⟩)) (cs : Array Value) (d : TypeDesc)
    (hc : ∀ w', S w' → ∀ j v, cs[j]? = some v → w'.cell? ⟨b, off + j, none⟩ = some v)
    (hu : P.underlying ty = some d) (hd : (match d with | .struct _ | .array _ _ => true | _ => false) = true) (hi : (P.info? ty).map (·.size) = some cs.size)
    (h : wpPlan P ops Q S r (a.put o.dst (.agg cs)) w) : wpPlan P ops Q S ((true, i) :: r) a w := by
  refine ⟨o, .agg cs, ho, .inl ⟨hw, fun w' hS => ?_⟩, h⟩
  unfold execOp
  simp only [hop, hx, Instr.loadAt, Instr.sureAddr, Sem.run_bind, Sem.run_pure, Result.andThen_ok, run_loadVar_at w' b off ty cs d (hc w' hS) hu hd hi]

theorem pl_eql (ho : ops[i]? = some o) (hw : Region.wanted o (yielded ops a.tmps) = true) (ty ty' : TypeId) (x y : Operand) (hop : o.op = .binOp .eql ty x y ty') (xs ys : Array Value) (b : Bool) (hx : a.eval x = .agg xs) (hy : a.eval y = .agg ys)
    (hm : P.eqGuardType P.depth ty = false) (hb : ∀ w', (binOp .eql ty (.agg xs) (.agg ys)).run P w' = .ok (.bool b) w')
    (h : wpPlan P ops Q S r (a.put o.dst (.bool b)) w) : wpPlan P ops Q S ((true, i) :: r) a w := by
  refine pl_pure ho hw (.bool b) (fun w' => ?_) h
  unfold execOp
  simp only [hop, hx, hy, Sem.run_bind, run_eqGuard_agg w' .eql ty x y xs ys hm, Result.andThen_ok, hb w', Sem.run_pure]

/-- A call of a Go function. -/
theorem pl_call (ho : ops[i]? = some o) (hw : Region.wanted o (yielded ops a.tmps) = true) (f : FuncId) (args : Array Value) (v : Value) (hrun : ∀ w', (execOp a.eval o).run P w' = .ok (.enter f args) w')
    (hc : Calls P f args w fun e w' => e = .returned v ∧ Below w.heap.size w w')
    (h : ∀ w', Below w.heap.size w w' → S w' ∧ wpPlan P ops Q S r (a.put o.dst v) w') : wpPlan P ops Q S ((false, i) :: r) a w := by
  show wpOp P ops Q i _ a w
  unfold wpOp
  simp only [ho, hw, if_true]
  refine .inl ?_
  unfold Oper.wp
  rw [hrun w]
  refine hc.mono ?_
  rintro e w' ⟨rfl, hb⟩
  exact h w' hb

/-- An operation that makes memory. -/
theorem pl_make (ho : ops[i]? = some o) (hw : Region.wanted o (yielded ops a.tmps) = true) (v : Value) (w' : World) (hrun : (execOp a.eval o).run P w = .ok (.value v) w')
    (h : S w' ∧ wpPlan P ops Q S r (a.put o.dst v) w') : wpPlan P ops Q S ((false, i) :: r) a w := by
  show wpOp P ops Q i _ a w
  unfold wpOp
  simp only [ho, hw, if_true]
  refine .inl ?_
  unfold Oper.wp
  rw [hrun]
  exact h

/-! The same by number: the operation is looked up by the kernel. -/

/-- The operations of a region of a code. -/
def regOf (id : Nat) : Code → Option (Array Oper)
  | .region j ops _ => if j == id then some ops else none
  | .seq x y | .cond _ x y | .rangeFunc _ _ x y => (regOf id x).or (regOf id y)
  | .block _ c | .loop c | .scope c => regOf id c
  | _ => none

def opsAt (f : Func) (id : Nat) : Array Oper := ((f.body.bind (regOf id)).getD #[])

/-- 'wpPlan', that nobody unfolds: the elaborator looks into the goal behind each step, and what it sees there it would reckon out. -/
structure PlanG (P : Program) (ops : Array Oper) (Q : Exit → Act → World → Prop) (S : World → Prop) (r : List (Bool × Nat)) (a : Act) (w : World) : Prop where
  out : wpPlan P ops Q S r a w

theorem wp_region_at {id : Nat} {l : List Oper} (ops : Array Oper) (r : List (Bool × Nat)) (he : l.toArray = ops) (hm : P.follows .mixedOrders = true) (hs : Region.noSelect ops = true)
    (hQ : ∀ c a (d : Option Tmp) v w, Q (.panic c) (Act.put a d v) w → Q (.panic c) a w)
    (hl : Nat.ble r.length ops.size = true) (hp : planOk .any ops (Array.replicate ops.size false) r = true)
    (h : PlanG P ops Q (fun w' => Below w.heap.size w w') r a w.drew) : (Code.region id l.toArray true).wp P Q a w := by
  subst he
  exact wp_region_plan r hm hs hQ hl hp h.out

def opN (ops : Array Oper) (i : Nat) : Oper := ops[i]?.getD default
def wantN (ops : Array Oper) (i : Nat) (a : Act) : Option Bool := ops[i]?.map fun o => Region.wanted o (yielded ops a.tmps)

theorem wantN_some {b : Bool} (h : wantN ops i a = some b) : ops[i]? = some (opN ops i) ∧ Region.wanted (opN ops i) (yielded ops a.tmps) = b := by
  unfold wantN opN at *
  cases hq : ops[i]? with
  | none => rw [hq] at h; cases h
  | some o => rw [hq] at h; exact ⟨rfl, by simpa using h⟩

variable {d : Option Tmp} {v : Value}

theorem k_pure (hw : wantN ops i a = some true) (hd : (opN ops i).dst = d) (hrun : ∀ w', (execOp a.eval (opN ops i)).run P w' = .ok (.value v) w')
    (h : PlanG P ops Q S r (a.put d v) w) : PlanG P ops Q S ((true, i) :: r) a w := by
  subst hd
  exact ⟨pl_pure (wantN_some hw).1 (wantN_some hw).2 v hrun h.out⟩

theorem k_skip (hw : wantN ops i a = some false) (hd : (opN ops i).dst = d)
    (h : PlanG P ops Q S r (a.put d undef) w) : PlanG P ops Q S ((true, i) :: r) a w := by
  subst hd
  exact ⟨pl_skip (wantN_some hw).1 (wantN_some hw).2 h.out⟩

theorem k_skip' (hS : S w) (hw : wantN ops i a = some false) (hd : (opN ops i).dst = d)
    (h : PlanG P ops Q S r (a.put d undef) w) : PlanG P ops Q S ((false, i) :: r) a w := by
  subst hd
  exact ⟨pl_skip' hS (wantN_some hw).1 (wantN_some hw).2 h.out⟩

theorem k_load (hw : wantN ops i a = some true) (hd : (opN ops i).dst = d) {ty : TypeId} {x : Operand} (hop : (opN ops i).op = .load ty x) {b off : Nat} (hx : a.eval x = .pointer (some ⟨b, off, none⟩)) {cs : Array Value}
    (hc : ∀ w', S w' → ∀ j v, cs[j]? = some v → w'.cell? ⟨b, off + j, none⟩ = some v) {t : TypeDesc}
    (hu : P.underlying ty = some t) (ht : (match t with | .struct _ | .array _ _ => true | _ => false) = true) (hi : (P.info? ty).map (·.size) = some cs.size)
    (h : PlanG P ops Q S r (a.put d (.agg cs)) w) : PlanG P ops Q S ((true, i) :: r) a w := by
  subst hd
  exact ⟨pl_load (wantN_some hw).1 (wantN_some hw).2 ty x hop b off hx cs t hc hu ht hi h.out⟩

theorem k_eql (hw : wantN ops i a = some true) (hd : (opN ops i).dst = d) {ty ty' : TypeId} {x y : Operand} (hop : (opN ops i).op = .binOp .eql ty x y ty') {xs ys : Array Value} {b : Bool} (hx : a.eval x = .agg xs) (hy : a.eval y = .agg ys)
    (hm : P.eqGuardType P.depth ty = false) (hb : ∀ w', (binOp .eql ty (.agg xs) (.agg ys)).run P w' = .ok (.bool b) w')
    (h : PlanG P ops Q S r (a.put d (.bool b)) w) : PlanG P ops Q S ((true, i) :: r) a w := by
  subst hd
  exact ⟨pl_eql (wantN_some hw).1 (wantN_some hw).2 ty ty' x y hop xs ys b hx hy hm hb h.out⟩

theorem k_call (hw : wantN ops i a = some true) (hd : (opN ops i).dst = d) {f : FuncId} {args : Array Value} (hrun : ∀ w', (execOp a.eval (opN ops i)).run P w' = .ok (.enter f args) w')
    (hc : Calls P f args w fun e w' => e = .returned v ∧ Below w.heap.size w w')
    (h : ∀ w', Below w.heap.size w w' → S w' ∧ PlanG P ops Q S r (a.put d v) w') : PlanG P ops Q S ((false, i) :: r) a w := by
  subst hd
  exact ⟨pl_call (wantN_some hw).1 (wantN_some hw).2 f args v hrun hc fun w' hb => ⟨(h w' hb).1, (h w' hb).2.out⟩⟩

theorem k_make (hw : wantN ops i a = some true) (hd : (opN ops i).dst = d) {w' : World} (hrun : (execOp a.eval (opN ops i)).run P w = .ok (.value v) w') (hS : S w')
    (h : ∀ x, x = w' → S x → PlanG P ops Q S r (a.put d v) x) : PlanG P ops Q S ((false, i) :: r) a w := by
  subst hd
  exact ⟨pl_make (wantN_some hw).1 (wantN_some hw).2 v w' hrun ⟨hS, (h w' rfl hS).out⟩⟩

theorem k_end (h : Q .normal a w) : PlanG P ops Q S [] a w := ⟨h⟩

end
end Go.FourQ
