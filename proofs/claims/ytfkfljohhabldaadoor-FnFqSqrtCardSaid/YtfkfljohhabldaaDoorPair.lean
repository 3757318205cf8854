/- Pairs: elements of the square field as bytes and as digits; parts of them; '==' on them; a region in the text's order by a plan with what holds throughout. No condition. -/
import Derived.Test.YtfkfljohhabldaaDoorLawKit3
import Derived.Test.YtfkfljohhabldaaDoorIs
import Derived.Test.YtfkfljohhabldaaDoorZp
namespace Go.FourQ
open Go.RowKit

section
variable {P : Program} {md : Region.Mode} {ops : Array Oper} {Q : Exit → Act → World → Prop} {S : World → Prop}

theorem wp_seq_atS {id : Nat} {l : List Oper} {a : Act} {w : World} (ops : Array Oper) (r : List (Bool × Nat)) (S : World → Prop) (he : l.toArray = ops) (hl : r.map (·.2) = List.range ops.size) (hS : S w)
    (h : PlanG P ops Q S r a w) : (Code.region id l.toArray false).wp P Q a w := by
  subst he
  refine wp_region ?_
  rw [← hl]
  exact wpOps_of_plan r a w hS h.out

variable {a : Act} {w : World} {r : List (Bool × Nat)} {i : Nat} {d : Option Tmp} {v : Value}

/-- A part of a row is read. -/
theorem k_part (hw : wantN ops i a = some true) (hd : (opN ops i).dst = d) {ty : TypeId} {x : Operand} (hop : (opN ops i).op = .load ty x) {b off : Nat} (hx : a.eval x = .pointer (some ⟨b, off, none⟩)) {all cs : Array Value}
    (hc : ∀ w', S w' → ∃ T, w'.heap[b]? = some (.cells all T (0, 0))) (hp : ∀ j v, cs[j]? = some v → all[off + j]? = some v) {t : TypeDesc}
    (hu : P.underlying ty = some t) (ht : (match t with | .struct _ | .array _ _ => true | _ => false) = true) (hi : (P.info? ty).map (·.size) = some cs.size)
    (h : PlanG P ops Q S r (a.put d (.agg cs)) w) : PlanG P ops Q S ((true, i) :: r) a w :=
  k_load hw hd hop hx (fun w' hs j v hj => by obtain ⟨T, hT⟩ := hc w' hs; rw [cell_of_row w' _ _ _ T (0, 0) hT]; exact hp j v hj) hu ht hi h

theorem run_eq_pair (dd : Nat) {t e : TypeId} {s : Nat} {xs ys x0 x1 y0 y1 : Array Value} {b0 b1 : Bool} (ht : P.underlying t = some (.array 2 e)) (hs : (P.info? e).map (·.size) = some s) {de : TypeDesc} (he : P.underlying e = some de)
    (hde : (match de with | .struct _ | .array _ _ => true | _ => false) = true)
    (e0 : xs.extract (0 * s) (0 * s + s) = x0) (e1 : xs.extract (1 * s) (1 * s + s) = x1) (g0 : ys.extract (0 * s) (0 * s + s) = y0) (g1 : ys.extract (1 * s) (1 * s + s) = y1) (w : World)
    (h0 : (Op.equalIn dd e (.agg x0) (.agg y0)).run P w = .ok b0 w) (h1 : (Op.equalIn dd e (.agg x1) (.agg y1)).run P w = .ok b1 w) :
    (Op.equalIn (dd + 1) t (.agg xs) (.agg ys)).run P w = .ok (b0 && b1) w := by
  have := run_equalIn_array (P := P) w dd (xs := xs) (ys := ys) ht hs (fun i => if i = 0 then b0 else b1) (fun i hi => by
    rw [Sem.run_bind, run_part_agg he hde hs w, Result.andThen_ok, Sem.run_bind, run_part_agg he hde hs w, Result.andThen_ok]
    rcases (by omega : i = 0 ∨ i = 1) with rfl | rfl
    · rw [e0, g0, if_pos rfl]; exact h0
    · rw [e1, g1, if_neg (by decide)]; exact h1)
  have e : ((List.range 2).all fun i => if i = 0 then b0 else b1) = (b0 && b1) := by simp [List.range, List.range.loop]
  rwa [e] at this

theorem run_eqIn_fpC {t e : TypeId} {x y : Nat} (ht : P.underlying t = some (.array 16 e)) (hs : (P.info? e).map (·.size) = some 1) (he : P.underlying e = some (.int .u8)) (hx : x < 256 ^ 16) (hy : y < 256 ^ 16) (d : Nat) (w : World) :
    (Op.equalIn (d + 2) t (.agg (fpC x)) (.agg (fpC y))).run P w = .ok (decide (x = y)) w := by
  rw [← fpC_beq hx hy]
  exact run_eq_ints d ht hs he _ _ (fun i hi => fpC_get x i hi) (fun i hi => fpC_get y i hi) w
theorem run_eqIn_digs {t e : TypeId} {x y : Nat} (ht : P.underlying t = some (.array 8 e)) (hs : (P.info? e).map (·.size) = some 1) (he : P.underlying e = some (.int .u64)) (hx : x < 65536 ^ 8) (hy : y < 65536 ^ 8) (d : Nat) (w : World) :
    (Op.equalIn (d + 2) t (.agg (dgA (digs 8 x))) (.agg (dgA (digs 8 y)))).run P w = .ok (decide (x = y)) w := by
  rw [← digs_beq hx hy]
  exact run_eq_ints d ht hs he _ _ (fun i hi => dgA_get (digs_get 8 x i hi)) (fun i hi => dgA_get (digs_get 8 y i hi)) w

/-- A pair of numbers of eight digits. -/
def dgQ (x y : Nat) : Array Value := dgA (digs 8 x ++ digs 8 y)

theorem eql_fps {t u e : TypeId} {x y x' y' : Nat} (ht : P.underlying t = some (.array 2 u)) (hu : P.underlying u = some (.array 16 e)) (hsu : (P.info? u).map (·.size) = some 16) (hs : (P.info? e).map (·.size) = some 1) (he : P.underlying e = some (.int .u8))
    (hx : x < 256 ^ 16) (hy : y < 256 ^ 16) (hx' : x' < 256 ^ 16) (hy' : y' < 256 ^ 16) (w : World) :
    (binOp .eql t (.agg (fps [x, y])) (.agg (fps [x', y']))).run P w = .ok (.bool (decide (x = x') && decide (y = y'))) w :=
  run_eql_agg w t _ _ _ (run_eq_pair 9999 (x0 := fpC x) (x1 := fpC y) (y0 := fpC x') (y1 := fpC y') ht hsu hu rfl (by kernel_rfl) (by kernel_rfl) (by kernel_rfl) (by kernel_rfl) w (run_eqIn_fpC hu hs he hx hx' 9997 w) (run_eqIn_fpC hu hs he hy hy' 9997 w))

theorem eql_dgQ {t u e : TypeId} {x y x' y' : Nat} (ht : P.underlying t = some (.array 2 u)) (hu : P.underlying u = some (.array 8 e)) (hsu : (P.info? u).map (·.size) = some 8) (hs : (P.info? e).map (·.size) = some 1) (he : P.underlying e = some (.int .u64))
    (hx : x < 65536 ^ 8) (hy : y < 65536 ^ 8) (hx' : x' < 65536 ^ 8) (hy' : y' < 65536 ^ 8) (w : World) :
    (binOp .eql t (.agg (dgQ x y)) (.agg (dgQ x' y'))).run P w = .ok (.bool (decide (x = x') && decide (y = y'))) w :=
  run_eql_agg w t _ _ _ (run_eq_pair 9999 (x0 := dgA (digs 8 x)) (x1 := dgA (digs 8 y)) (y0 := dgA (digs 8 x')) (y1 := dgA (digs 8 y')) ht hsu hu rfl (by kernel_rfl) (by kernel_rfl) (by kernel_rfl) (by kernel_rfl) w (run_eqIn_digs hu hs he hx hx' 9997 w) (run_eqIn_digs hu hs he hy hy' 9997 w))

theorem fps_part0 {x y : Nat} : ∀ j v, (fpC x)[j]? = some v → (fps [x, y])[0 + j]? = some v := fun j v h => by
  have hj : j < 16 := by rw [← size_fpC x]; exact (Array.getElem?_eq_some_iff.1 h).1
  rw [Nat.zero_add, fps, Array.getElem?_append_left (by rw [size_fpC]; exact hj)]; exact h
theorem fps_part1 {x y : Nat} : ∀ j v, (fpC y)[j]? = some v → (fps [x, y])[16 + j]? = some v := fun j v h => by
  rw [fps, Array.getElem?_append_right (by rw [size_fpC]; omega), size_fpC, fps_one, Nat.add_sub_cancel_left]; exact h
theorem dgQ_part0 {x y : Nat} : ∀ j v, (dgA (digs 8 x))[j]? = some v → (dgQ x y)[0 + j]? = some v := fun j v h => by
  have hj : j < 8 := by have := (Array.getElem?_eq_some_iff.1 h).1; rwa [size_dgA, digs_length] at this
  rw [Nat.zero_add]
  simp only [dgA, dgQ, List.getElem?_toArray, List.map_append] at h ⊢
  rw [List.getElem?_append_left (by rw [List.length_map, digs_length]; exact hj)]; exact h
theorem dgQ_part1 {x y : Nat} : ∀ j v, (dgA (digs 8 y))[j]? = some v → (dgQ x y)[8 + j]? = some v := fun j v h => by
  simp only [dgA, dgQ, List.getElem?_toArray, List.map_append] at h ⊢
  rw [List.getElem?_append_right (by rw [List.length_map, digs_length]; omega), List.length_map, digs_length, Nat.add_sub_cancel_left]; exact h

theorem all_dgQ (x y : Nat) : (dgQ x y).all (·.oneCell') = true := all_dgA _
theorem all_fps2 (x y : Nat) : (fps [x, y]).all (·.oneCell') = true := by
  have e : fps [x, y] = fpC x ++ fpC y := by rw [fps, fps_one]
  rw [e, Array.all_append, all_fpC, all_fpC]; rfl
end

/-- What holds at the head of a function: its rows. -/
theorem Kept.one {w w' : World} {bs : List (Nat × Array Value)} {g n : Nat} (nb : Below w.heap.size w w') (row : ∀ p ∈ bs, ∃ T, w'.heap[p.1]? = some (.cells p.2 T (0, 0))) {T : TypeId} {old : Array Value} (ho : old.size = n) (hg : w'.heap[g]? = some (.cells old T (0, 0))) : Kept w bs [(g, n)] w' where
  nb := nb
  row := row
  room := fun p hp => by
    obtain rfl : p = (g, n) := by simpa using hp
    exact ⟨T, old, ho, hg⟩
theorem Kept.drew {w w' : World} {bs : List (Nat × Array Value)} {ns : List (Nat × Nat)} (h : Kept w bs ns w') : Kept w bs ns w'.drew where
  nb := h.nb.drew
  row := h.row
  room := h.room
theorem Kept.zero {w w' : World} {bs : List (Nat × Array Value)} (nb : Below w.heap.size w w') (row : ∀ p ∈ bs, ∃ T, w'.heap[p.1]? = some (.cells p.2 T (0, 0))) : Kept w bs [] w' where
  nb := nb
  row := row
  room := fun _ hp => by simp at hp
theorem rows1 {w' : World} {b : Nat} {c : Array Value} (h : ∃ T, w'.heap[b]? = some (.cells c T (0, 0))) : ∀ p ∈ [(b, c)], ∃ T, w'.heap[p.1]? = some (.cells p.2 T (0, 0)) := fun p hp => by
  obtain rfl : p = (b, c) := by simpa using hp
  exact h
theorem rowsC {w' : World} {bs : List (Nat × Array Value)} {b : Nat} {c : Array Value} (h : ∃ T, w'.heap[b]? = some (.cells c T (0, 0))) (r : ∀ p ∈ bs, ∃ T, w'.heap[p.1]? = some (.cells p.2 T (0, 0))) : ∀ p ∈ (b, c) :: bs, ∃ T, w'.heap[p.1]? = some (.cells p.2 T (0, 0)) := fun p hp => by
  rcases List.mem_cons.1 hp with rfl | hp
  · exact h
  · exact r p hp
theorem rows0 {w' : World} : ∀ p ∈ ([] : List (Nat × Array Value)), ∃ T, w'.heap[p.1]? = some (.cells p.2 T (0, 0)) := fun _ hp => by simp at hp
theorem ne1 {b g : Nat} {c : Array Value} (h : b ≠ g) : ∀ p ∈ [(b, c)], p.1 ≠ g := fun p hp => by
  obtain rfl : p = (b, c) := by simpa using hp
  exact h
theorem neC {bs : List (Nat × Array Value)} {b g : Nat} {c : Array Value} (h : b ≠ g) (r : ∀ p ∈ bs, p.1 ≠ g) : ∀ p ∈ (b, c) :: bs, p.1 ≠ g := fun p hp => by
  rcases List.mem_cons.1 hp with rfl | hp
  · exact h
  · exact r p hp
theorem ne0 {g : Nat} : ∀ p ∈ ([] : List (Nat × Array Value)), p.1 ≠ g := fun _ hp => by simp at hp

end Go.FourQ

namespace Go.Proofs.YtfkfljohhabldaaDoor
open Go.RowKit Go.FourQ

theorem addZ_c {w : World} (x y : Zp) : Calls Tryd.prog 61 #[.agg (dgA (digs 8 x.val)), .agg (dgA (digs 8 y.val))] w fun e w' => e = .returned (.agg (dgA (digs 8 (x + y).val))) ∧ Below w.heap.size w w' :=
  add_c w (Nat.lt_trans x.lt (by decide +kernel)) (Nat.lt_trans y.lt (by decide +kernel))
theorem mulZ_c {w : World} (x y : Zp) : Calls Tryd.prog 60 #[.agg (dgA (digs 8 x.val)), .agg (dgA (digs 8 y.val))] w fun e w' => e = .returned (.agg (dgA (digs 8 (x * y).val))) ∧ Below w.heap.size w w' :=
  mul_c w (Nat.lt_trans x.lt (by decide +kernel)) (Nat.lt_trans y.lt (by decide +kernel))
theorem negZ_c {w : World} (x : Zp) : Calls Tryd.prog 28 #[.agg (dgA (digs 8 x.val))] w fun e w' => e = .returned (.agg (dgA (digs 8 (-x).val))) ∧ Below w.heap.size w w' := by
  have := neg_c w (x := x.val) (Nat.lt_trans x.lt (by decide +kernel))
  rwa [Nat.mod_eq_of_lt x.lt] at this
theorem subZ_c {w : World} (x y : Zp) : Calls Tryd.prog 59 #[.agg (dgA (digs 8 x.val)), .agg (dgA (digs 8 y.val))] w fun e w' => e = .returned (.agg (dgA (digs 8 (x - y).val))) ∧ Below w.heap.size w w' := by
  have := sub_c w (x := x.val) (y := y.val) (Nat.lt_trans x.lt (by decide +kernel)) (Nat.lt_trans y.lt (by decide +kernel))
  rwa [Nat.mod_eq_of_lt y.lt] at this
theorem ofZ_c {w : World} {x : Nat} (hx : x < 256 ^ 16) : Calls Tryd.prog 12 #[.agg (fpC x)] w fun e w' => e = .returned (.agg (dgA (digs 8 (zp x).val))) ∧ Below w.heap.size w w' := of_c w x hx
theorem bytesZ_c {w : World} (x : Zp) : Calls Tryd.prog 45 #[.agg (dgA (digs 8 x.val))] w fun e w' => e = .returned (.agg (fpC x.val)) ∧ Below w.heap.size w w' := bytes_c w x.val (Nat.lt_trans x.lt (by decide +kernel))

end Go.Proofs.YtfkfljohhabldaaDoor
