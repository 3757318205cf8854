/- A slice literal in a walk; a region that does not draw its order, by a plan in the text's order. No condition. -/
import Derived.Test.YtfkfljohhabldaaDoorLawKit
import Derived.Deep.Cut
namespace Go.FourQ
open Go.RowKit

theorem wpList_buildS {P : Program} {ops : Array Oper} {rest : List Oper} {o : Oper} {a : Act} {w : World} {Q : Exit → Act → World → Prop} (hg : o.guard = none) (t : TypeId) (len : Nat) (parts : Array (Nat × Operand)) (_ : o.op = .buildSlice t len parts)
    (v : Value) (w' : World) (hrun : (execOp a.eval o).run P w = .ok (.value v) w') (h : wpList P ops Q rest (a.put o.dst v) w') : wpList P ops Q (o :: rest) a w :=
  wpList_plain hg fun _ hK => by
    unfold Oper.wp
    rw [hrun]
    exact hK _ _ h

section
variable {P : Program} {md : Region.Mode} {ops : Array Oper} {Q : Exit → Act → World → Prop} {S : World → Prop}

theorem wpOps_of_plan : ∀ (r : List (Bool × Nat)) (a : Act) (w : World), S w → wpPlan P ops Q S r a w → wpOps P ops Q (r.map (·.2)) a w
  | [], _, _, _, h => h
  | (true, i) :: r, a, w, hS, ⟨o, v, ho, hy, h⟩ => by
    rw [List.map_cons, wpOps_cons]
    exact hy.wpOp ho hS (wpOps_of_plan r _ _ hS h)
  | (false, i) :: r, a, w, hS, h => by
    rw [List.map_cons, wpOps_cons]
    exact wpOp_mono (fun a' w' h' => wpOps_of_plan r a' w' h'.1 h'.2) h

/-- A region in the text's order, by a plan; S: what was there when it began is as it was. -/
theorem wp_seq_at {id : Nat} {l : List Oper} {a : Act} {w : World} (ops : Array Oper) (r : List (Bool × Nat)) (he : l.toArray = ops) (hl : r.map (·.2) = List.range ops.size)
    (h : PlanG P ops Q (fun w' => Below w.heap.size w w') r a w) : (Code.region id l.toArray false).wp P Q a w := by
  subst he
  refine wp_region ?_
  rw [← hl]
  exact wpOps_of_plan r a w (Below.refl _ _) h.out

/-- A region that draws its order, by a plan; S: what holds throughout. -/
theorem wp_region_atS {id : Nat} {l : List Oper} {a : Act} {w : World} (ops : Array Oper) (r : List (Bool × Nat)) (S : World → Prop) (he : l.toArray = ops) (hm : P.follows .mixedOrders = true) (hs : Region.noSelect ops = true)
    (hQ : ∀ c a (d : Option Tmp) v w, Q (.panic c) (Act.put a d v) w → Q (.panic c) a w)
    (hl : Nat.ble r.length ops.size = true) (hp : planOk .any ops (Array.replicate ops.size false) r = true) (hS : S w.drew)
    (h : PlanG P ops Q S r a w.drew) : (Code.region id l.toArray true).wp P Q a w := by
  subst he
  exact wp_region_held (S := S) hm (wpAnyH_of_plan hs hQ r _ _ _ _ (Nat.le_of_ble_eq_true hl) hp hS h.out)

variable {a : Act} {w : World} {r : List (Bool × Nat)} {i : Nat} {d : Option Tmp} {v : Value}

/-- An operation without a value (a store). -/
theorem k_skipOp (hw : wantN ops i a = some true) (hd : (opN ops i).dst = d) {w' : World} (hrun : (execOp a.eval (opN ops i)).run P w = .ok .skip w') (hS : S w')
    (h : ∀ x, x = w' → S x → PlanG P ops Q S r (a.put d undef) x) : PlanG P ops Q S ((false, i) :: r) a w := by
  subst hd
  refine ⟨?_⟩
  show wpOp P ops Q i _ a w
  have hw' := wantN_some hw
  unfold wpOp
  simp only [hw'.1, hw'.2, if_true]
  refine .inl ?_
  unfold Oper.wp
  rw [hrun]
  exact ⟨hS, (h w' rfl hS).out⟩

/-- A store of a whole row. -/
theorem k_store (hw : wantN ops i a = some true) (hd : (opN ops i).dst = d) {ty : TypeId} {x y : Operand} (hop : (opN ops i).op = .store ty x y) {g : Nat} {cells : Array Value} (hx : a.eval x = .pointer (some ⟨g, 0, none⟩)) (hy : a.eval y = .agg cells)
    {t : TypeId} {old : Array Value} (hg : w.heap[g]? = some (.cells old t (0, 0))) (hi : (P.info? ty).map (·.size) = some cells.size)
    (hold : old.size = cells.size) (h1 : cells.all (·.oneCell') = true)
    (h : S (w.setRow g cells) ∧ PlanG P ops Q S r (a.put d undef) (w.setRow g cells)) : PlanG P ops Q S ((false, i) :: r) a w := by
  subst hd
  refine ⟨?_⟩
  show wpOp P ops Q i _ a w
  have hw' := wantN_some hw
  unfold wpOp
  simp only [hw'.1, hw'.2, if_true]
  exact .inl (wp_store_row ty x y hop g cells hx hy t old hg hi hold h1 ⟨h.1, h.2.out⟩)

/-- A whole row is read. -/
theorem k_row (hw : wantN ops i a = some true) (hd : (opN ops i).dst = d) {ty : TypeId} {x : Operand} (hop : (opN ops i).op = .load ty x) {b : Nat} (hx : a.eval x = .pointer (some ⟨b, 0, none⟩)) {cs : Array Value}
    (hc : ∀ w', S w' → ∃ T, w'.heap[b]? = some (.cells cs T (0, 0))) {t : TypeDesc}
    (hu : P.underlying ty = some t) (ht : (match t with | .struct _ | .array _ _ => true | _ => false) = true) (hi : (P.info? ty).map (·.size) = some cs.size)
    (h : PlanG P ops Q S r (a.put d (.agg cs)) w) : PlanG P ops Q S ((true, i) :: r) a w :=
  k_load hw hd hop hx (fun w' hs j v hj => by obtain ⟨T, hT⟩ := hc w' hs; rw [cell_of_row w' _ _ _ T (0, 0) hT, Nat.zero_add]; exact hj) hu ht hi h
end

/-- What was there at w0 is as it was; these rows hold these cells; those hold so many. -/
structure Kept (w0 : World) (bs : List (Nat × Array Value)) (ns : List (Nat × Nat)) (w' : World) : Prop where
  nb : Below w0.heap.size w0 w'
  row : ∀ p ∈ bs, ∃ T, w'.heap[p.1]? = some (.cells p.2 T (0, 0))
  room : ∀ p ∈ ns, ∃ T old, old.size = p.2 ∧ w'.heap[p.1]? = some (.cells old T (0, 0))

theorem lt_of_heap {w : World} {k : Nat} {o : Obj} (h : w.heap[k]? = some o) : k < w.heap.size := by
  rcases Nat.lt_or_ge k w.heap.size with h' | h'
  · exact h'
  · rw [Array.getElem?_eq_none h'] at h; cases h

theorem Kept.go {w0 w1 w2 : World} {bs : List (Nat × Array Value)} {ns : List (Nat × Nat)} (h : Kept w0 bs ns w1) (v : Below w1.heap.size w1 w2) : Kept w0 bs ns w2 where
  nb := nb_trans h.nb v
  row := fun p hp => by obtain ⟨T, hT⟩ := h.row p hp; exact ⟨T, (v.block _ (lt_of_heap hT)).trans hT⟩
  room := fun p hp => by obtain ⟨T, old, ho, hT⟩ := h.room p hp; exact ⟨T, old, ho, (v.block _ (lt_of_heap hT)).trans hT⟩

theorem Kept.at {w0 w1 : World} {bs : List (Nat × Array Value)} {ns : List (Nat × Nat)} (h : Kept w0 bs ns w1) (i : Nat) {b : Nat} {cs : Array Value} (hi : bs[i]? = some (b, cs)) : ∃ T, w1.heap[b]? = some (.cells cs T (0, 0)) :=
  h.row (b, cs) (List.mem_of_getElem? hi)

theorem Kept.put {w0 w1 : World} {bs : List (Nat × Array Value)} {g n : Nat} (h : Kept w0 bs [(g, n)] w1) {cs : Array Value} (hn : cs.size = n) (hg : w0.heap.size ≤ g) (hb : ∀ p ∈ bs, p.1 ≠ g) : Kept w0 bs [(g, n)] (w1.setRow g cs) where
  nb := below_setRow h.nb hg
  row := fun p hp => by obtain ⟨T, hT⟩ := h.row p hp; exact ⟨T, (setRow_other _ _ _ _ (hb p hp)).trans hT⟩
  room := fun p hp => by
    obtain ⟨T, old, _, hT⟩ := h.room p hp
    obtain rfl : p = (g, n) := by simpa using hp
    exact ⟨T, cs, hn, setRow_heap _ _ _ _ _ _ hT⟩

end Go.FourQ
