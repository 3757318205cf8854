/- A region that draws its order, whose operations read and whose callees only make memory: one walk, in the order of the text. No condition. -/
import Derived.Test.YtfkfljohhabldaaDoorEq
namespace Go.FourQ
open Go.RowKit

section
variable {P : Program}

theorem wp_region_nb {id : Nat} {Q : Exit → Act → World → Prop} {a : Act} {w : World} {l : List Oper} (hm : P.follows .mixedOrders = true) (hB : Region.lexB .any l.toArray = true)
    (h : wpQuiet P l.toArray (fun w' => Below w.heap.size w w') (fun a' => ∀ w', Below w.heap.size w w' → Q .normal a' w') l a) : (Code.region id l.toArray true).wp P Q a w :=
  wp_region_quiet (C := fun w' => Below w.heap.size w w') hm hB ((Below.refl _ _).drew) (by simpa using h)

variable {ops : Array Oper} {C : World → Prop} {Q : Act → Prop} {a : Act} {o : Oper} {rest : List Oper} {w : World}

theorem q_pure (hg : o.guard = none) (v : Value) (hrun : ∀ w', (execOp a.eval o).run P w' = .ok (.value v) w') (h : wpQuiet P ops C Q rest (a.put o.dst v)) : wpQuiet P ops C Q (o :: rest) a := by
  refine wpQuiet_step fun K hK => ?_
  have hw : Region.wanted o (yielded ops a.tmps) = true := by simp [Region.wanted, hg]
  rw [if_pos hw]
  exact ⟨v, fun w' _ => by unfold Oper.quietAt; rw [hrun w']; exact ⟨rfl, rfl⟩, hK _ h⟩

theorem q_load (hg : o.guard = none) (ty : TypeId) (x : Operand) (ho : o.op = .load ty x) (g : Nat) (hx : a.eval x = .pointer (some ⟨g, 0, none⟩)) (t : TypeId) (cs : Array Value) (fr : Nat × Nat) (d : TypeDesc)
    (hh : ∀ w', C w' → w'.heap[g]? = some (.cells cs t fr))
    (hu : P.underlying ty = some d) (hd : (match d with | .struct _ | .array _ _ => true | _ => false) = true) (hi : (P.info? ty).map (·.size) = some cs.size)
    (h : wpQuiet P ops C Q rest (a.put o.dst (.agg cs))) : wpQuiet P ops C Q (o :: rest) a := by
  refine wpQuiet_step fun K hK => ?_
  have hw : Region.wanted o (yielded ops a.tmps) = true := by simp [Region.wanted, hg]
  rw [if_pos hw]
  refine ⟨.agg cs, fun w' hC => ?_, hK _ h⟩
  unfold Oper.quietAt execOp
  simp only [ho, hx, Instr.loadAt, Instr.sureAddr, Sem.run_bind, Sem.run_pure, Result.andThen_ok, run_loadVar_row w' g t ty cs fr d (hh w' hC) hu hd hi]
  exact ⟨rfl, rfl⟩

/-- '==' on two arrays. -/
theorem q_eql (hg : o.guard = none) (ty ty' : TypeId) (x y : Operand) (ho : o.op = .binOp .eql ty x y ty') (xs ys : Array Value) (b : Bool) (hx : a.eval x = .agg xs) (hy : a.eval y = .agg ys)
    (hm : P.eqGuardType P.depth ty = false) (hb : ∀ w', (binOp .eql ty (.agg xs) (.agg ys)).run P w' = .ok (.bool b) w') (h : wpQuiet P ops C Q rest (a.put o.dst (.bool b))) : wpQuiet P ops C Q (o :: rest) a := by
  refine q_pure hg (.bool b) (fun w' => ?_) h
  unfold execOp
  simp only [ho, hx, hy, Sem.run_bind, run_eqGuard_agg w' .eql ty x y xs ys hm, Result.andThen_ok, hb w', Sem.run_pure]

/-- A call of a Go function. -/
theorem q_call (hg : o.guard = none) (f : FuncId) (args : Array Value) (v : Value) (hrun : ∀ w', (execOp a.eval o).run P w' = .ok (.enter f args) w')
    (hc : ∀ w', C w' → Calls P f args w' fun e w'' => e = .returned v ∧ C w'') (h : wpQuiet P ops C Q rest (a.put o.dst v)) : wpQuiet P ops C Q (o :: rest) a := by
  refine wpQuiet_step fun K hK => ?_
  have hw : Region.wanted o (yielded ops a.tmps) = true := by simp [Region.wanted, hg]
  rw [if_pos hw]
  exact ⟨v, fun w' hC => by unfold Oper.quietAt; rw [hrun w']; exact ⟨rfl, hc w' hC⟩, hK _ h⟩

/-- A callee's contract, met in a later world. -/
theorem nb_calls {f : FuncId} {args : Array Value} {v : Value} (hc : ∀ w', Calls P f args w' fun e w'' => e = .returned v ∧ Below w'.heap.size w' w'') :
    ∀ w', Below w.heap.size w w' → Calls P f args w' fun e w'' => e = .returned v ∧ Below w.heap.size w w'' :=
  fun w' h => (hc w').mono fun _ _ ⟨he, hb⟩ => ⟨he, nb_trans h hb⟩

theorem nb_heap {g : Nat} {o : Obj} (h : w.heap[g]? = some o) : ∀ w', Below w.heap.size w w' → w'.heap[g]? = some o := fun w' hb => by
  rw [hb.block g ?_, h]
  rcases Nat.lt_or_ge g w.heap.size with h' | h'
  · exact h'
  · simp [Array.getElem?_eq_none h'] at h

theorem hp1_0 (O0 : Obj) : (w.alloc O0).heap[w.heap.size]? = some O0 := heap_alloc_new _ _
theorem hp2_0 (O0 O1 : Obj) : ((w.alloc O0).alloc O1).heap[w.heap.size]? = some O0 := (Below.heap_alloc _ _ _ (by simp only [World.size_alloc]; omega)).trans (hp1_0 O0)
theorem hp2_1 (O0 O1 : Obj) : ((w.alloc O0).alloc O1).heap[w.heap.size + 1]? = some O1 := by
  have e : (w.alloc O0).heap.size = w.heap.size + 1 := by simp
  rw [← e]; exact heap_alloc_new _ _
theorem hp3_0 (O0 O1 O2 : Obj) : (((w.alloc O0).alloc O1).alloc O2).heap[w.heap.size]? = some O0 := (Below.heap_alloc _ _ _ (by simp only [World.size_alloc]; omega)).trans (hp2_0 O0 O1)
theorem hp3_1 (O0 O1 O2 : Obj) : (((w.alloc O0).alloc O1).alloc O2).heap[w.heap.size + 1]? = some O1 := (Below.heap_alloc _ _ _ (by simp only [World.size_alloc]; omega)).trans (hp2_1 O0 O1)
theorem hp3_2 (O0 O1 O2 : Obj) : (((w.alloc O0).alloc O1).alloc O2).heap[w.heap.size + 1 + 1]? = some O2 := by
  have e : ((w.alloc O0).alloc O1).heap.size = w.heap.size + 1 + 1 := by simp
  rw [← e]; exact heap_alloc_new _ _
theorem hp4_0 (O0 O1 O2 O3 : Obj) : ((((w.alloc O0).alloc O1).alloc O2).alloc O3).heap[w.heap.size]? = some O0 := (Below.heap_alloc _ _ _ (by simp only [World.size_alloc]; omega)).trans (hp3_0 O0 O1 O2)
theorem hp4_1 (O0 O1 O2 O3 : Obj) : ((((w.alloc O0).alloc O1).alloc O2).alloc O3).heap[w.heap.size + 1]? = some O1 := (Below.heap_alloc _ _ _ (by simp only [World.size_alloc]; omega)).trans (hp3_1 O0 O1 O2)
theorem hp4_2 (O0 O1 O2 O3 : Obj) : ((((w.alloc O0).alloc O1).alloc O2).alloc O3).heap[w.heap.size + 1 + 1]? = some O2 := (Below.heap_alloc _ _ _ (by simp only [World.size_alloc]; omega)).trans (hp3_2 O0 O1 O2)
theorem hp4_3 (O0 O1 O2 O3 : Obj) : ((((w.alloc O0).alloc O1).alloc O2).alloc O3).heap[w.heap.size + 1 + 1 + 1]? = some O3 := by
  have e : (((w.alloc O0).alloc O1).alloc O2).heap.size = w.heap.size + 1 + 1 + 1 := by simp
  rw [← e]; exact heap_alloc_new _ _
theorem hp5_0 (O0 O1 O2 O3 O4 : Obj) : (((((w.alloc O0).alloc O1).alloc O2).alloc O3).alloc O4).heap[w.heap.size]? = some O0 := (Below.heap_alloc _ _ _ (by simp only [World.size_alloc]; omega)).trans (hp4_0 O0 O1 O2 O3)
theorem hp5_1 (O0 O1 O2 O3 O4 : Obj) : (((((w.alloc O0).alloc O1).alloc O2).alloc O3).alloc O4).heap[w.heap.size + 1]? = some O1 := (Below.heap_alloc _ _ _ (by simp only [World.size_alloc]; omega)).trans (hp4_1 O0 O1 O2 O3)
theorem hp5_2 (O0 O1 O2 O3 O4 : Obj) : (((((w.alloc O0).alloc O1).alloc O2).alloc O3).alloc O4).heap[w.heap.size + 1 + 1]? = some O2 := (Below.heap_alloc _ _ _ (by simp only [World.size_alloc]; omega)).trans (hp4_2 O0 O1 O2 O3)
theorem hp5_3 (O0 O1 O2 O3 O4 : Obj) : (((((w.alloc O0).alloc O1).alloc O2).alloc O3).alloc O4).heap[w.heap.size + 1 + 1 + 1]? = some O3 := (Below.heap_alloc _ _ _ (by simp only [World.size_alloc]; omega)).trans (hp4_3 O0 O1 O2 O3)
theorem hp5_4 (O0 O1 O2 O3 O4 : Obj) : (((((w.alloc O0).alloc O1).alloc O2).alloc O3).alloc O4).heap[w.heap.size + 1 + 1 + 1 + 1]? = some O4 := by
  have e : ((((w.alloc O0).alloc O1).alloc O2).alloc O3).heap.size = w.heap.size + 1 + 1 + 1 + 1 := by simp
  rw [← e]; exact heap_alloc_new _ _
theorem hp6_0 (O0 O1 O2 O3 O4 O5 : Obj) : ((((((w.alloc O0).alloc O1).alloc O2).alloc O3).alloc O4).alloc O5).heap[w.heap.size]? = some O0 := (Below.heap_alloc _ _ _ (by simp only [World.size_alloc]; omega)).trans (hp5_0 O0 O1 O2 O3 O4)
theorem hp6_1 (O0 O1 O2 O3 O4 O5 : Obj) : ((((((w.alloc O0).alloc O1).alloc O2).alloc O3).alloc O4).alloc O5).heap[w.heap.size + 1]? = some O1 := (Below.heap_alloc _ _ _ (by simp only [World.size_alloc]; omega)).trans (hp5_1 O0 O1 O2 O3 O4)
theorem hp6_2 (O0 O1 O2 O3 O4 O5 : Obj) : ((((((w.alloc O0).alloc O1).alloc O2).alloc O3).alloc O4).alloc O5).heap[w.heap.size + 1 + 1]? = some O2 := (Below.heap_alloc _ _ _ (by simp only [World.size_alloc]; omega)).trans (hp5_2 O0 O1 O2 O3 O4)
theorem hp6_3 (O0 O1 O2 O3 O4 O5 : Obj) : ((((((w.alloc O0).alloc O1).alloc O2).alloc O3).alloc O4).alloc O5).heap[w.heap.size + 1 + 1 + 1]? = some O3 := (Below.heap_alloc _ _ _ (by simp only [World.size_alloc]; omega)).trans (hp5_3 O0 O1 O2 O3 O4)
theorem hp6_4 (O0 O1 O2 O3 O4 O5 : Obj) : ((((((w.alloc O0).alloc O1).alloc O2).alloc O3).alloc O4).alloc O5).heap[w.heap.size + 1 + 1 + 1 + 1]? = some O4 := (Below.heap_alloc _ _ _ (by simp only [World.size_alloc]; omega)).trans (hp5_4 O0 O1 O2 O3 O4)
theorem hp6_5 (O0 O1 O2 O3 O4 O5 : Obj) : ((((((w.alloc O0).alloc O1).alloc O2).alloc O3).alloc O4).alloc O5).heap[w.heap.size + 1 + 1 + 1 + 1 + 1]? = some O5 := by
  have e : (((((w.alloc O0).alloc O1).alloc O2).alloc O3).alloc O4).heap.size = w.heap.size + 1 + 1 + 1 + 1 + 1 := by simp
  rw [← e]; exact heap_alloc_new _ _

theorem below_setRow {B : Nat} {v : World} {g : Nat} {cs : Array Value} (h : Below B v w) (hg : B ≤ g) : Below B v (w.setRow g cs) :=
  h.trans ⟨rfl, rfl, rfl, by simp, fun k hk => setRow_other w g k cs (by omega)⟩

/-- A result that lies in memory: words; an element. -/
theorem results_ds {fn : Func} {p : Tmp} {ty : TypeId} (h : fn.results = #[.cell p ty]) (tmps : Array Value) (g : Nat) (l : List Nat) (d : TypeDesc)
    (hp : tmps.getD p undef = .pointer (some ⟨g, 0, none⟩)) (hg : Ds w g l)
    (hu : P.underlying ty = some d) (hd : (match d with | .struct _ | .array _ _ => true | _ => false) = true) (hi : (P.info? ty).map (·.size) = some l.length) :
    (results fn tmps).run P w = .ok (.agg (dgA l)) w := by
  obtain ⟨T, hg⟩ := hg
  exact results_cell_row h tmps w g T _ _ d hp hg hu hd (by rw [size_dgA]; exact hi)

theorem results_fps {fn : Func} {p : Tmp} {ty : TypeId} (h : fn.results = #[.cell p ty]) (tmps : Array Value) (g : Nat) (l : List Nat) (d : TypeDesc)
    (hp : tmps.getD p undef = .pointer (some ⟨g, 0, none⟩)) (hg : Fps w g l)
    (hu : P.underlying ty = some d) (hd : (match d with | .struct _ | .array _ _ => true | _ => false) = true) (hi : (P.info? ty).map (·.size) = some (16 * l.length)) :
    (results fn tmps).run P w = .ok (.agg (fps l)) w := by
  obtain ⟨T, hg⟩ := hg
  exact results_cell_row h tmps w g T _ _ d hp hg hu hd (by rw [size_fps]; exact hi)

theorem setRow_ds {g : Nat} {l : List Nat} (m : List Nat) (h : Ds w g l) : Ds (w.setRow g (dgA m)) g m := by
  obtain ⟨T, hT⟩ := h
  exact ⟨T, setRow_heap w g _ _ T _ hT⟩

theorem setRow_fps {g : Nat} {l : List Nat} (m : List Nat) (h : Fps w g l) : Fps (w.setRow g (fps m)) g m := by
  obtain ⟨T, hT⟩ := h
  exact ⟨T, setRow_heap w g _ _ T _ hT⟩

theorem Ds.nb {w' : World} {g : Nat} {l : List Nat} (h : Ds w g l) (v : Below w.heap.size w w') : Ds w' g l := h.of_heap (v.block g h.lt)
theorem Fps.nb {w' : World} {g : Nat} {l : List Nat} (h : Fps w g l) (v : Below w.heap.size w w') : Fps w' g l := h.of_heap (v.block g h.lt)

end
end Go.FourQ
