/- Part 2 of what the laws lean on: arithmetic, walks through the functions, the curve. -/
import Derived.Test.YtfkfljohhabldaaDoorT1
namespace Go.FourQ
open Go.RowKit
section
variable {P : Program} {md : Region.Mode} {ops : Array Oper} {Q : Exit → Act → World → Prop} {S : World → Prop}
theorem wp_seq_atS {id : Nat} {l : List Oper} {a : Act} {w : World} (ops : Array Oper) (r : List (Bool × Nat)) (S : World → Prop) (he : l.toArray = ops) (hl : r.map (·.2) = List.range ops.size) (hS : S w)
   (h : PlanG P ops Q S r a w) : (Code.region id l.toArray false).wp P Q a w := by
 subst he
 refine wp_region ?_
 rw [← hl]
 exact wpOps_of_plan r a w hS h.out
theorem wsA {id : Nat} {l : List Oper} {a : Act} {w : World} (ops : Array Oper) (r : List (Bool × Nat)) (S : World → Prop) (hS : S w) (h : PlanG P ops Q S r a w) (he : l.toArray = ops := by kernel_rfl) (hl : r.map (·.2) = List.range ops.size := by kernel_rfl) : (Code.region id l.toArray false).wp P Q a w := wp_seq_atS ops r S he hl hS h
variable {a : Act} {w : World} {r : List (Bool × Nat)} {i : Nat} {d : Option Tmp} {v : Value}
/-- A part of a row is read. -/
theorem k_part (hw : wantN ops i a = some true) (hd : (opN ops i).dst = d) {ty : TypeId} {x : Operand} (hop : (opN ops i).op = .load ty x) {b off : Nat} (hx : a.eval x = .pointer (some ⟨b, off, none⟩)) {all cs : Array Value}
   (hc : ∀ w', S w' → ∃ T, w'.heap[b]? = some (.cells all T (0, 0))) (hp : ∀ j v, cs[j]? = some v → all[off + j]? = some v) {t : TypeDesc}
   (hu : P.underlying ty = some t) (ht : (match t with | .struct _ | .array _ _ => true | _ => false) = true) (hi : (P.info? ty).map (·.size) = some cs.size)
   (h : PlanG P ops Q S r (a.put d (.agg cs)) w) : PlanG P ops Q S ((true, i) :: r) a w :=
 k_load hw hd hop hx (fun w' hs j v hj => by obtain ⟨T, hT⟩ := hc w' hs; rw [cell_of_row w' _ _ _ T (0, 0) hT]; exact hp j v hj) hu ht hi h
theorem run_eq_pair (dd : Nat) {t e : TypeId} {s : Nat} {xs ys x0 x1 y0 y1 : Array Value} {b0 b1 : Bool} (ht : P.underlying t = some (.array 2 e)) (hs : (P.info? e).map (·.size) = some s) {de : TypeDesc} (he : P.underlying e = some de)
   (hde : (match de with | .struct _ | .array _ _ => true | _ => false) = true)
   (e0 : xs.extract (0 * s) (0 * s + s) = x0) (e1 : xs.extract (1 * s) (1 * s + s) = x1) (g0 : ys.extract (0 * s) (0 * s + s) = y0) (g1 : ys.extract (1 * s) (1 * s + s) = y1) (w : World)
   (h0 : (Op.equalIn dd e (.agg x0) (.agg y0)).run P w = .ok b0 w) (h1 : (Op.equalIn dd e (.agg x1) (.agg y1)).run P w = .ok b1 w) :
   (Op.equalIn (dd + 1) t (.agg xs) (.agg ys)).run P w = .ok (b0 && b1) w := by
 have := run_equalIn_array (P := P) w dd (xs := xs) (ys := ys) ht hs (fun i => if i = 0 then b0 else b1) (fun i hi => by
   rw [Sem.run_bind, run_part_agg he hde hs w, Result.andThen_ok, Sem.run_bind, run_part_agg he hde hs w, Result.andThen_ok]
   rcases (by omega : i = 0 ∨ i = 1) with rfl | rfl
   · rw [e0, g0, if_pos rfl]; exact h0
   · rw [e1, g1, if_neg (by decide)]; exact h1)
 have e : ((List.range 2).all fun i => if i = 0 then b0 else b1) = (b0 && b1) := by simp [List.range, List.range.loop]
 rwa [e] at this
theorem run_eqIn_fpC {t e : TypeId} {x y : Nat} (ht : P.underlying t = some (.array 16 e)) (hs : (P.info? e).map (·.size) = some 1) (he : P.underlying e = some (.int .u8)) (hx : x < 256 ^ 16) (hy : y < 256 ^ 16) (d : Nat) (w : World) :
   (Op.equalIn (d + 2) t (.agg (fpC x)) (.agg (fpC y))).run P w = .ok (decide (x = y)) w := by
 rw [← fpC_beq hx hy]
 exact run_eq_ints d ht hs he _ _ (fun i hi => fpC_get x i hi) (fun i hi => fpC_get y i hi) w
theorem run_eqIn_digs {t e : TypeId} {x y : Nat} (ht : P.underlying t = some (.array 8 e)) (hs : (P.info? e).map (·.size) = some 1) (he : P.underlying e = some (.int .u64)) (hx : x < 65536 ^ 8) (hy : y < 65536 ^ 8) (d : Nat) (w : World) :
   (Op.equalIn (d + 2) t (.agg (dgA (digs 8 x))) (.agg (dgA (digs 8 y)))).run P w = .ok (decide (x = y)) w := by
 rw [← digs_beq hx hy]
 exact run_eq_ints d ht hs he _ _ (fun i hi => dgA_get (digs_get 8 x i hi)) (fun i hi => dgA_get (digs_get 8 y i hi)) w
/-- A pair of numbers of eight digits. -/
def dgQ (x y : Nat) : Array Value := dgA (digs 8 x ++ digs 8 y)
theorem eql_fps {t u e : TypeId} {x y x' y' : Nat} (ht : P.underlying t = some (.array 2 u)) (hu : P.underlying u = some (.array 16 e)) (hsu : (P.info? u).map (·.size) = some 16) (hs : (P.info? e).map (·.size) = some 1) (he : P.underlying e = some (.int .u8))
   (hx : x < 256 ^ 16) (hy : y < 256 ^ 16) (hx' : x' < 256 ^ 16) (hy' : y' < 256 ^ 16) (w : World) :
   (binOp .eql t (.agg (fps [x, y])) (.agg (fps [x', y']))).run P w = .ok (.bool (decide (x = x') && decide (y = y'))) w :=
 run_eql_agg w t _ _ _ (run_eq_pair 9999 (x0 := fpC x) (x1 := fpC y) (y0 := fpC x') (y1 := fpC y') ht hsu hu rfl (by kernel_rfl) (by kernel_rfl) (by kernel_rfl) (by kernel_rfl) w (run_eqIn_fpC hu hs he hx hx' 9997 w) (run_eqIn_fpC hu hs he hy hy' 9997 w))
theorem eql_dgQ {t u e : TypeId} {x y x' y' : Nat} (ht : P.underlying t = some (.array 2 u)) (hu : P.underlying u = some (.array 8 e)) (hsu : (P.info? u).map (·.size) = some 8) (hs : (P.info? e).map (·.size) = some 1) (he : P.underlying e = some (.int .u64))
   (hx : x < 65536 ^ 8) (hy : y < 65536 ^ 8) (hx' : x' < 65536 ^ 8) (hy' : y' < 65536 ^ 8) (w : World) :
   (binOp .eql t (.agg (dgQ x y)) (.agg (dgQ x' y'))).run P w = .ok (.bool (decide (x = x') && decide (y = y'))) w :=
 run_eql_agg w t _ _ _ (run_eq_pair 9999 (x0 := dgA (digs 8 x)) (x1 := dgA (digs 8 y)) (y0 := dgA (digs 8 x')) (y1 := dgA (digs 8 y')) ht hsu hu rfl (by kernel_rfl) (by kernel_rfl) (by kernel_rfl) (by kernel_rfl) w (run_eqIn_digs hu hs he hx hx' 9997 w) (run_eqIn_digs hu hs he hy hy' 9997 w))
theorem fps_part0 {x y : Nat} : ∀ j v, (fpC x)[j]? = some v → (fps [x, y])[0 + j]? = some v := fun j v h => by
 have hj : j < 16 := by rw [← size_fpC x]; exact (Array.getElem?_eq_some_iff.1 h).1
 rw [Nat.zero_add, fps, Array.getElem?_append_left (by rw [size_fpC]; exact hj)]; exact h
theorem fps_part1 {x y : Nat} : ∀ j v, (fpC y)[j]? = some v → (fps [x, y])[16 + j]? = some v := fun j v h => by
 rw [fps, Array.getElem?_append_right (by rw [size_fpC]; omega), size_fpC, fps_one, Nat.add_sub_cancel_left]; exact h
theorem dgQ_part0 {x y : Nat} : ∀ j v, (dgA (digs 8 x))[j]? = some v → (dgQ x y)[0 + j]? = some v := fun j v h => by
 have hj : j < 8 := by have := (Array.getElem?_eq_some_iff.1 h).1; rwa [size_dgA, digs_length] at this
 rw [Nat.zero_add]
 simp only [dgA, dgQ, List.getElem?_toArray, List.map_append] at h ⊢
 rw [List.getElem?_append_left (by rw [List.length_map, digs_length]; exact hj)]; exact h
theorem dgQ_part1 {x y : Nat} : ∀ j v, (dgA (digs 8 y))[j]? = some v → (dgQ x y)[8 + j]? = some v := fun j v h => by
 simp only [dgA, dgQ, List.getElem?_toArray, List.map_append] at h ⊢
 rw [List.getElem?_append_right (by rw [List.length_map, digs_length]; omega), List.length_map, digs_length, Nat.add_sub_cancel_left]; exact h
theorem all_dgQ (x y : Nat) : (dgQ x y).all (·.oneCell') = true := all_dgA _
theorem all_fps2 (x y : Nat) : (fps [x, y]).all (·.oneCell') = true := by
 have e : fps [x, y] = fpC x ++ fpC y := by rw [fps, fps_one]
 rw [e, Array.all_append, all_fpC, all_fpC]; rfl
end
/-- What holds at the head of a function: its rows. -/
theorem Kept.one {w w' : World} {bs : List (Nat × Array Value)} {g n : Nat} (nb : Below w.heap.size w w') (row : ∀ p ∈ bs, ∃ T, w'.heap[p.1]? = some (.cells p.2 T (0, 0))) {T : TypeId} {old : Array Value} (ho : old.size = n) (hg : w'.heap[g]? = some (.cells old T (0, 0))) : Kept w bs [(g, n)] w' where
 nb := nb
 row := row
 room := fun p hp => by
   obtain rfl : p = (g, n) := by simpa using hp
   exact ⟨T, old, ho, hg⟩
theorem Kept.drew {w w' : World} {bs : List (Nat × Array Value)} {ns : List (Nat × Nat)} (h : Kept w bs ns w') : Kept w bs ns w'.drew where
 nb := h.nb.drew
 row := h.row
 room := h.room
theorem Kept.zero {w w' : World} {bs : List (Nat × Array Value)} (nb : Below w.heap.size w w') (row : ∀ p ∈ bs, ∃ T, w'.heap[p.1]? = some (.cells p.2 T (0, 0))) : Kept w bs [] w' where
 nb := nb
 row := row
 room := fun _ hp => by simp at hp
theorem rowsC {w' : World} {bs : List (Nat × Array Value)} {b : Nat} {c : Array Value} (h : ∃ T, w'.heap[b]? = some (.cells c T (0, 0))) (r : ∀ p ∈ bs, ∃ T, w'.heap[p.1]? = some (.cells p.2 T (0, 0))) : ∀ p ∈ (b, c) :: bs, ∃ T, w'.heap[p.1]? = some (.cells p.2 T (0, 0)) := fun p hp => by
 rcases List.mem_cons.1 hp with rfl | hp
 · exact h
 · exact r p hp
theorem rows0 {w' : World} : ∀ p ∈ ([] : List (Nat × Array Value)), ∃ T, w'.heap[p.1]? = some (.cells p.2 T (0, 0)) := fun _ hp => by simp at hp
theorem neC {bs : List (Nat × Array Value)} {b g : Nat} {c : Array Value} (h : b ≠ g) (r : ∀ p ∈ bs, p.1 ≠ g) : ∀ p ∈ (b, c) :: bs, p.1 ≠ g := fun p hp => by
 rcases List.mem_cons.1 hp with rfl | hp
 · exact h
 · exact r p hp
theorem ne0 {g : Nat} : ∀ p ∈ ([] : List (Nat × Array Value)), p.1 ≠ g := fun _ hp => by simp at hp
end Go.FourQ
namespace Go.Proofs.YtfkfljohhabldaaDoor
open Go.RowKit Go.FourQ
theorem addZ_c {w : World} (x y : Zp) : Calls Tryd.prog 61 #[.agg (dgA (digs 8 x.val)), .agg (dgA (digs 8 y.val))] w fun e w' => e = .returned (.agg (dgA (digs 8 (x + y).val))) ∧ Below w.heap.size w w' :=
 add_c w (Nat.lt_trans x.lt (by decide +kernel)) (Nat.lt_trans y.lt (by decide +kernel))
theorem mulZ_c {w : World} (x y : Zp) : Calls Tryd.prog 60 #[.agg (dgA (digs 8 x.val)), .agg (dgA (digs 8 y.val))] w fun e w' => e = .returned (.agg (dgA (digs 8 (x * y).val))) ∧ Below w.heap.size w w' :=
 mul_c w (Nat.lt_trans x.lt (by decide +kernel)) (Nat.lt_trans y.lt (by decide +kernel))
theorem negZ_c {w : World} (x : Zp) : Calls Tryd.prog 28 #[.agg (dgA (digs 8 x.val))] w fun e w' => e = .returned (.agg (dgA (digs 8 (-x).val))) ∧ Below w.heap.size w w' := by
 have := neg_c w (x := x.val) (Nat.lt_trans x.lt (by decide +kernel))
 rwa [Nat.mod_eq_of_lt x.lt] at this
theorem subZ_c {w : World} (x y : Zp) : Calls Tryd.prog 59 #[.agg (dgA (digs 8 x.val)), .agg (dgA (digs 8 y.val))] w fun e w' => e = .returned (.agg (dgA (digs 8 (x - y).val))) ∧ Below w.heap.size w w' := by
 have := sub_c w (x := x.val) (y := y.val) (Nat.lt_trans x.lt (by decide +kernel)) (Nat.lt_trans y.lt (by decide +kernel))
 rwa [Nat.mod_eq_of_lt y.lt] at this
theorem ofZ_c {w : World} {x : Nat} (hx : x < 256 ^ 16) : Calls Tryd.prog 12 #[.agg (fpC x)] w fun e w' => e = .returned (.agg (dgA (digs 8 (zp x).val))) ∧ Below w.heap.size w w' := of_c w x hx
theorem bytesZ_c {w : World} (x : Zp) : Calls Tryd.prog 45 #[.agg (dgA (digs 8 x.val))] w fun e w' => e = .returned (.agg (fpC x.val)) ∧ Below w.heap.size w w' := bytes_c w x.val (Nat.lt_trans x.lt (by decide +kernel))
end Go.Proofs.YtfkfljohhabldaaDoor
namespace Go.FourQ
open Go.RowKit
/-- Numbers of eight digits each, as cells. -/
def dgL (L : List Nat) : Array Value := dgA (L.flatMap (digs 8))
theorem dgL_two (x y : Nat) : dgL [x, y] = dgQ x y := by simp [dgL, dgQ]
theorem dgL_get : ∀ (L : List Nat) (k x i : Nat), L[k]? = some x → i < 8 → (dgL L)[8 * k + i]? = (dgA (digs 8 x))[i]?
 | [], k, x, i, h, _ => by simp at h
 | y :: L, 0, x, i, h, hi => by
   obtain rfl : y = x := by simpa using h
   simp only [dgL, dgA, List.flatMap_cons, List.map_append, List.getElem?_toArray, Nat.mul_zero, Nat.zero_add]
   rw [List.getElem?_append_left (by rw [List.length_map, digs_length]; exact hi)]
 | y :: L, k + 1, x, i, h, hi => by
   have ih := dgL_get L k x i (by simpa using h) hi
   simp only [dgL, dgA, List.flatMap_cons, List.map_append, List.getElem?_toArray] at ih ⊢
   rw [List.getElem?_append_right (by rw [List.length_map, digs_length]; omega), List.length_map, digs_length, ← ih]
   congr 1; omega
theorem fpsub2 {L : List Nat} {k x y : Nat} (h : L[k]? = some x) (g : L[k + 1]? = some y) : ∀ j v, (fps [x, y])[j]? = some v → (fps L)[16 * k + j]? = some v := fun j v hj => by
 obtain ⟨z, hz, rfl⟩ := fps_getElem hj
 rcases hq : j / 16 with _ | q
 · rw [hq] at hz
   obtain rfl : x = z := by simpa using hz
   have := fps_get L k x (j % 16) h (Nat.mod_lt _ (by decide))
   rwa [show 16 * k + j % 16 = 16 * k + j by omega] at this
 · rw [hq] at hz
   have hq0 : q = 0 := by
     rcases Nat.eq_zero_or_pos q with h0 | h0
     · exact h0
     · rw [List.getElem?_eq_none (by simp only [List.length_cons, List.length_nil]; omega)] at hz; cases hz
   subst hq0
   obtain rfl : y = z := by simpa using hz
   have := fps_get L (k + 1) y (j % 16) g (Nat.mod_lt _ (by decide))
   rwa [show 16 * (k + 1) + j % 16 = 16 * k + j by omega] at this
theorem dgsub2 {L : List Nat} {k x y : Nat} (h : L[k]? = some x) (g : L[k + 1]? = some y) : ∀ j v, (dgQ x y)[j]? = some v → (dgL L)[8 * k + j]? = some v := fun j v hj => by
 rw [← dgL_two] at hj
 have hl : j < 16 := by
   have := (Array.getElem?_eq_some_iff.1 hj).1
   simpa [dgL, size_dgA, digs_length] using this
 rcases Nat.lt_or_ge j 8 with h8 | h8
 · have e := dgL_get [x, y] 0 x j rfl h8
   rw [Nat.mul_zero, Nat.zero_add] at e
   rw [dgL_get L k x j h h8, ← e]; exact hj
 · have e := dgL_get [x, y] 1 y (j - 8) rfl (by omega)
   rw [show 8 * 1 + (j - 8) = j by omega] at e
   have e2 := dgL_get L (k + 1) y (j - 8) g (by omega)
   rw [show 8 * (k + 1) + (j - 8) = 8 * k + j by omega] at e2
   rw [e2, ← e]; exact hj
theorem all_fps : ∀ L : List Nat, (fps L).all (·.oneCell') = true
 | [] => by simp [fps]
 | x :: L => by rw [fps, Array.all_append, all_fpC, all_fps L]; rfl
/-- One of the rows is written. -/
theorem Kept.puti {w0 w1 : World} {bs : List (Nat × Array Value)} {ns : List (Nat × Nat)} (h : Kept w0 bs ns w1) {g n : Nat} {cs : Array Value} (hn : cs.size = n) (hg : w0.heap.size ≤ g) (hb : ∀ p ∈ bs, p.1 ≠ g) (hns : ∀ p ∈ ns, p.1 = g → p.2 = n) : Kept w0 bs ns (w1.setRow g cs) where
 nb := below_setRow h.nb hg
 row := fun p hp => by obtain ⟨T, hT⟩ := h.row p hp; exact ⟨T, (setRow_other _ _ _ _ (hb p hp)).trans hT⟩
 room := fun p hp => by
   obtain ⟨T, old, ho, hT⟩ := h.room p hp
   by_cases e : p.1 = g
   · have h2 := hns p hp e
     rw [e] at hT ⊢
     exact ⟨T, cs, by rw [hn, h2], setRow_heap _ _ _ _ _ _ hT⟩
   · exact ⟨T, old, ho, (setRow_other _ _ _ _ e).trans hT⟩
theorem Kept.mks {w0 w1 : World} {bs : List (Nat × Array Value)} {ns : List (Nat × Nat)} (nb : Below w0.heap.size w0 w1) (row : ∀ p ∈ bs, ∃ T, w1.heap[p.1]? = some (.cells p.2 T (0, 0))) (room : ∀ p ∈ ns, ∃ T old, old.size = p.2 ∧ w1.heap[p.1]? = some (.cells old T (0, 0))) : Kept w0 bs ns w1 := ⟨nb, row, room⟩
theorem rooms0 {w' : World} : ∀ p ∈ ([] : List (Nat × Nat)), ∃ T old, old.size = p.2 ∧ w'.heap[p.1]? = some (.cells old T (0, 0)) := fun _ hp => by simp at hp
theorem roomsC {w' : World} {ns : List (Nat × Nat)} {g n : Nat} {T : TypeId} {old : Array Value} (ho : old.size = n) (hg : w'.heap[g]? = some (.cells old T (0, 0))) (r : ∀ p ∈ ns, ∃ T old, old.size = p.2 ∧ w'.heap[p.1]? = some (.cells old T (0, 0))) :
   ∀ p ∈ (g, n) :: ns, ∃ T old, old.size = p.2 ∧ w'.heap[p.1]? = some (.cells old T (0, 0)) := fun p hp => by
 rcases List.mem_cons.1 hp with rfl | hp
 · exact ⟨T, old, ho, hg⟩
 · exact r p hp
/-- A call writes one of the rows. -/
theorem Kept.updz {w0 w1 w2 : World} {bs : List (Nat × Array Value)} {ns : List (Nat × Nat)} (h : Kept w0 bs ns w1) {g n : Nat} {l : List Nat} (u : Upd w1 w2 g l) (hn : 16 * l.length = n) (hg : w0.heap.size ≤ g) (hb : ∀ p ∈ bs, p.1 ≠ g) (hns : ∀ p ∈ ns, p.1 = g → p.2 = n) : Kept w0 bs ns w2 where
 nb := h.nb.trans ⟨u.os, u.tape, u.output, u.size, fun k hk => u.other k (Nat.lt_of_lt_of_le hk h.nb.size) (by omega)⟩
 row := fun p hp => by obtain ⟨T, hT⟩ := h.row p hp; exact ⟨T, (u.other _ (lt_of_heap hT) (hb p hp)).trans hT⟩
 room := fun p hp => by
   obtain ⟨T, old, ho, hT⟩ := h.room p hp
   by_cases e : p.1 = g
   · have h2 := hns p hp e
     obtain ⟨T', hT'⟩ := u.blk
     rw [e]
     exact ⟨T', _, by rw [size_fps, hn, h2], hT'⟩
   · exact ⟨T, old, ho, (u.other _ (lt_of_heap hT) e).trans hT⟩
/-- What holds of the world alone is handed on. -/
theorem wp_gen {P : Program} {c : Code} {Q : Exit → Act → World → Prop} {a : Act} {w : World} (φ : World → Prop) (h : φ w) (k : ∀ w', φ w' → c.wp P Q a w') : c.wp P Q a w := k w h
theorem row_as {w : World} {b : Nat} {C D : Array Value} {T : TypeId} (h : w.heap[b]? = some (.cells C T (0, 0))) (e : C = D) : ∃ T, w.heap[b]? = some (.cells D T (0, 0)) := ⟨T, e ▸ h⟩
theorem ns0 {g n : Nat} : ∀ p ∈ ([] : List (Nat × Nat)), p.1 = g → p.2 = n := fun _ hp => by simp at hp
theorem nsE {g n : Nat} {ns : List (Nat × Nat)} (r : ∀ p ∈ ns, p.1 = g → p.2 = n) : ∀ p ∈ (g, n) :: ns, p.1 = g → p.2 = n := fun p hp e => by
 rcases List.mem_cons.1 hp with rfl | hp
 · rfl
 · exact r p hp e
section
variable {P : Program} {ops : Array Oper} {Q : Exit → Act → World → Prop} {S : World → Prop} {a : Act} {w : World} {t m : PT} {i : Nat} {d : Option Tmp} {v : Value}
theorem t_part (hw : wantN ops i a = some true) (hd : (opN ops i).dst = d) {ty : TypeId} {x : Operand} (hop : (opN ops i).op = .load ty x) {b off : Nat} (hx : a.eval x = .pointer (some ⟨b, off, none⟩)) {all cs : Array Value}
   (hc : ∀ w', S w' → ∃ T, w'.heap[b]? = some (.cells all T (0, 0))) (hp : ∀ j v, cs[j]? = some v → all[off + j]? = some v) {td : TypeDesc}
   (hu : P.underlying ty = some td) (ht : (match td with | .struct _ | .array _ _ => true | _ => false) = true) (hi : (P.info? ty).map (·.size) = some cs.size)
   (h : TreeG P ops Q S t (a.put d (.agg cs)) w) : TreeG P ops Q S (.take i t) a w := by
 subst hd
 refine ⟨_, .agg cs, (wantN_some hw).1, .inl ⟨(wantN_some hw).2, fun w' hS => ?_⟩, h.out⟩
 obtain ⟨T, hT⟩ := hc w' hS
 unfold execOp
 simp only [hop, hx, Instr.loadAt, Instr.sureAddr, Sem.run_bind, Sem.run_pure, Result.andThen_ok, run_loadVar_at w' b off ty cs td (fun j v hj => by rw [cell_of_row w' _ _ _ T (0, 0) hT]; exact hp j v hj) hu ht hi]
end
end Go.FourQ
namespace Go.FourQ
theorem UpdZ.ofDrew {w w' : World} {b : Nat} {L : List Zp} (u : UpdZ w.drew w' b L) : UpdZ w w' b L := ⟨u.os, u.tape, u.output, u.size, u.blk, u.other⟩
theorem At.drew {w : World} {b o : Nat} {x : Zp} (h : At w b o x) : At w.drew b o x := h
theorem FpsZ.drew {w : World} {b : Nat} {L : List Zp} (h : FpsZ w b L) : FpsZ w.drew b L := h
theorem e16 {o k : Nat} (h : o = 16 * k) : o + 16 = 16 * (k + 1) := by omega
theorem len_set {L : List Zp} {k j : Nat} {z : Zp} (h : j < L.length) : j < (L.set k z).length := by rw [List.length_set]; exact h
theorem ne_new {n b : Nat} (h : b < n) (i : Nat) {p : Nat} (hp : p = n + i := by rfl) : p ≠ b := by omega
theorem Boxes.drew {n : Nat} {w wr : World} {zs : List Zp} (h : Boxes n w zs wr) : Boxes n w zs wr.drew := ⟨h.nb.drew, h.size, h.blk⟩
theorem sqrN {x y : Zp} : x * y + x * y = x * y + y * x := by rw [zmul_comm y x]
end Go.FourQ
namespace Go.Proofs.YtfkfljohhabldaaDoor
open Go.RowKit Go.FourQ
section
variable {w : World} {b1 b2 b3 o1 o2 o3 k1 : Nat} {L1 : List Zp} {x0 x1 y0 y1 z0 z1 : Zp}
set_option maxRecDepth 100000 in
set_option maxHeartbeats 1000000 in
theorem fqAddG (h1 : FpsZ w b1 L1) (hA : AtQ w b2 o2 x0 x1) (hB : AtQ w b3 o3 y0 y1) (e1 : o1 = 16 * k1) (i1 : k1 + 1 < L1.length) (dA : b2 ≠ b1 ∨ o2 + 16 ≠ o1) (dB : b3 ≠ b1 ∨ o3 + 16 ≠ o1) (hz0 : x0 + y0 = z0) (hz1 : x1 + y1 = z1) :
   Calls Tryd.prog 118 #[.pointer (some ⟨b1, o1, none⟩), .pointer (some ⟨b2, o2, none⟩), .pointer (some ⟨b3, o3, none⟩)] w fun e w' => e = .returned (.tuple #[]) ∧ UpdZ w w' b1 ((L1.set k1 z0).set (k1 + 1) z1) := by
 have E1 := Lib.hid e1
 have HZ0 := Lib.hid hz0
 have HZ1 := Lib.hid hz1
 clear e1 hz0 hz1
 go_enter Tryd.func118, Tryd.ntmps118
 go_upto_region 0 with (fail)
 refine wrA (opsAt Tryd.f118 0) ((true, 0) :: (true, 1) :: (true, 2) :: (true, 3) :: (true, 4) :: (true, 5) :: (true, 6) :: (true, 7) :: (true, 8) :: (false, 9) :: []) (fun _ => True) trivial ?_
 refine kp (d := some 6) (v := .pointer (some ⟨b1, o1, none⟩)) ?_
 refine kp (d := some 7) (v := .pointer (some ⟨b1, o1, none⟩)) ?_
 refine kp (d := some 8) (v := .pointer (some ⟨b1, o1, none⟩)) ?_
 refine kp (d := some 9) (v := .pointer (some ⟨b2, o2, none⟩)) ?_
 refine kp (d := some 10) (v := .pointer (some ⟨b2, o2, none⟩)) ?_
 refine kp (d := some 11) (v := .pointer (some ⟨b2, o2, none⟩)) ?_
 refine kp (d := some 12) (v := .pointer (some ⟨b3, o3, none⟩)) ?_
 refine kp (d := some 13) (v := .pointer (some ⟨b3, o3, none⟩)) ?_
 refine kp (d := some 14) (v := .pointer (some ⟨b3, o3, none⟩)) ?_
 refine kd (d := some 15) (f := 128) (args := #[.pointer (some ⟨b1, o1, none⟩), .pointer (some ⟨b2, o2, none⟩), .pointer (some ⟨b3, o3, none⟩)]) (gAdd h1.drew hA.fst.drew hB.fst.drew E1.out (Nat.lt_of_succ_lt i1) HZ0.out) (fun _ w1 q1 => ⟨.tuple #[], q1.1, trivial, ?_⟩)
 have u1 := q1.2.ofDrew
 clear q1
 refine k_end ?_
 go_simp
 go_upto_region 1 with (fail)
 refine wrA (opsAt Tryd.f118 1) ((true, 0) :: (true, 1) :: (true, 2) :: (true, 3) :: (true, 4) :: (true, 5) :: (true, 6) :: (true, 7) :: (true, 8) :: (false, 9) :: []) (fun _ => True) trivial ?_
 refine kp (d := some 16) (v := .pointer (some ⟨b1, o1, none⟩)) ?_
 refine kp (d := some 17) (v := .pointer (some ⟨b1, o1, none⟩)) ?_
 refine kp (d := some 18) (v := .pointer (some ⟨b1, o1 + 16, none⟩)) ?_
 refine kp (d := some 19) (v := .pointer (some ⟨b2, o2, none⟩)) ?_
 refine kp (d := some 20) (v := .pointer (some ⟨b2, o2, none⟩)) ?_
 refine kp (d := some 21) (v := .pointer (some ⟨b2, o2 + 16, none⟩)) ?_
 refine kp (d := some 22) (v := .pointer (some ⟨b3, o3, none⟩)) ?_
 refine kp (d := some 23) (v := .pointer (some ⟨b3, o3, none⟩)) ?_
 refine kp (d := some 24) (v := .pointer (some ⟨b3, o3 + 16, none⟩)) ?_
 refine kd (d := some 25) (f := 128) (args := #[.pointer (some ⟨b1, o1 + 16, none⟩), .pointer (some ⟨b2, o2 + 16, none⟩), .pointer (some ⟨b3, o3 + 16, none⟩)]) (gAdd u1.blk.drew (hA.snd.set h1 E1.out u1 dA).drew (hB.snd.set h1 E1.out u1 dB).drew (e16 E1.out) (len_set i1) HZ1.out) (fun _ w2 q2 => ⟨.tuple #[], q2.1, trivial, ?_⟩)
 have u2 := q2.2.ofDrew
 clear q2
 refine k_end ?_
 go_simp
 go_wp2_with fail
 go_end0
 exact ⟨rfl, u1.trans u2⟩
set_option maxRecDepth 100000 in
set_option maxHeartbeats 1000000 in
theorem fqAdd (h1 : FpsZ w b1 L1) (hA : AtQ w b2 o2 x0 x1) (hB : AtQ w b3 o3 y0 y1) (e1 : o1 = 16 * k1) (i1 : k1 + 1 < L1.length) (dA : b2 ≠ b1 ∨ o2 + 16 ≠ o1) (dB : b3 ≠ b1 ∨ o3 + 16 ≠ o1) (hz0 : x0 + y0 = z0) (hz1 : x1 + y1 = z1) :
   Calls Tryd.prog 92 #[.pointer (some ⟨b1, o1, none⟩), .pointer (some ⟨b2, o2, none⟩), .pointer (some ⟨b3, o3, none⟩)] w fun e w' => e = .returned (.tuple #[]) ∧ UpdZ w w' b1 ((L1.set k1 z0).set (k1 + 1) z1) := by
 have C := Lib.hid (fqAddG h1 hA hB e1 i1 dA dB hz0 hz1)
 clear h1 hA hB e1 i1 dA dB hz0 hz1
 go_enter Tryd.func92, Tryd.ntmps92
 go_wp2_with fail
 refine C.out.mono ?_
 rintro e w' ⟨rfl, u⟩
 go_wp2_with fail
 go_end0
 exact ⟨rfl, u⟩
set_option maxRecDepth 100000 in
set_option maxHeartbeats 1000000 in
theorem fqSubG (h1 : FpsZ w b1 L1) (hA : AtQ w b2 o2 x0 x1) (hB : AtQ w b3 o3 y0 y1) (e1 : o1 = 16 * k1) (i1 : k1 + 1 < L1.length) (dA : b2 ≠ b1 ∨ o2 + 16 ≠ o1) (dB : b3 ≠ b1 ∨ o3 + 16 ≠ o1) (hz0 : x0 - y0 = z0) (hz1 : x1 - y1 = z1) :
   Calls Tryd.prog 117 #[.pointer (some ⟨b1, o1, none⟩), .pointer (some ⟨b2, o2, none⟩), .pointer (some ⟨b3, o3, none⟩)] w fun e w' => e = .returned (.tuple #[]) ∧ UpdZ w w' b1 ((L1.set k1 z0).set (k1 + 1) z1) := by
 have E1 := Lib.hid e1
 have HZ0 := Lib.hid hz0
 have HZ1 := Lib.hid hz1
 clear e1 hz0 hz1
 go_enter Tryd.func117, Tryd.ntmps117
 go_upto_region 0 with (fail)
 refine wrA (opsAt Tryd.f117 0) ((true, 0) :: (true, 1) :: (true, 2) :: (true, 3) :: (true, 4) :: (true, 5) :: (true, 6) :: (true, 7) :: (true, 8) :: (false, 9) :: []) (fun _ => True) trivial ?_
 refine kp (d := some 6) (v := .pointer (some ⟨b1, o1, none⟩)) ?_
 refine kp (d := some 7) (v := .pointer (some ⟨b1, o1, none⟩)) ?_
 refine kp (d := some 8) (v := .pointer (some ⟨b1, o1, none⟩)) ?_
 refine kp (d := some 9) (v := .pointer (some ⟨b2, o2, none⟩)) ?_
 refine kp (d := some 10) (v := .pointer (some ⟨b2, o2, none⟩)) ?_
 refine kp (d := some 11) (v := .pointer (some ⟨b2, o2, none⟩)) ?_
 refine kp (d := some 12) (v := .pointer (some ⟨b3, o3, none⟩)) ?_
 refine kp (d := some 13) (v := .pointer (some ⟨b3, o3, none⟩)) ?_
 refine kp (d := some 14) (v := .pointer (some ⟨b3, o3, none⟩)) ?_
 refine kd (d := some 15) (f := 130) (args := #[.pointer (some ⟨b1, o1, none⟩), .pointer (some ⟨b2, o2, none⟩), .pointer (some ⟨b3, o3, none⟩)]) (gSub h1.drew hA.fst.drew hB.fst.drew E1.out (Nat.lt_of_succ_lt i1) HZ0.out) (fun _ w1 q1 => ⟨.tuple #[], q1.1, trivial, ?_⟩)
 have u1 := q1.2.ofDrew
 clear q1
 refine k_end ?_
 go_simp
 go_upto_region 1 with (fail)
 refine wrA (opsAt Tryd.f117 1) ((true, 0) :: (true, 1) :: (true, 2) :: (true, 3) :: (true, 4) :: (true, 5) :: (true, 6) :: (true, 7) :: (true, 8) :: (false, 9) :: []) (fun _ => True) trivial ?_
 refine kp (d := some 16) (v := .pointer (some ⟨b1, o1, none⟩)) ?_
 refine kp (d := some 17) (v := .pointer (some ⟨b1, o1, none⟩)) ?_
 refine kp (d := some 18) (v := .pointer (some ⟨b1, o1 + 16, none⟩)) ?_
 refine kp (d := some 19) (v := .pointer (some ⟨b2, o2, none⟩)) ?_
 refine kp (d := some 20) (v := .pointer (some ⟨b2, o2, none⟩)) ?_
 refine kp (d := some 21) (v := .pointer (some ⟨b2, o2 + 16, none⟩)) ?_
 refine kp (d := some 22) (v := .pointer (some ⟨b3, o3, none⟩)) ?_
 refine kp (d := some 23) (v := .pointer (some ⟨b3, o3, none⟩)) ?_
 refine kp (d := some 24) (v := .pointer (some ⟨b3, o3 + 16, none⟩)) ?_
 refine kd (d := some 25) (f := 130) (args := #[.pointer (some ⟨b1, o1 + 16, none⟩), .pointer (some ⟨b2, o2 + 16, none⟩), .pointer (some ⟨b3, o3 + 16, none⟩)]) (gSub u1.blk.drew (hA.snd.set h1 E1.out u1 dA).drew (hB.snd.set h1 E1.out u1 dB).drew (e16 E1.out) (len_set i1) HZ1.out) (fun _ w2 q2 => ⟨.tuple #[], q2.1, trivial, ?_⟩)
 have u2 := q2.2.ofDrew
 clear q2
 refine k_end ?_
 go_simp
 go_wp2_with fail
 go_end0
 exact ⟨rfl, u1.trans u2⟩
set_option maxRecDepth 100000 in
set_option maxHeartbeats 1000000 in
theorem fqSub (h1 : FpsZ w b1 L1) (hA : AtQ w b2 o2 x0 x1) (hB : AtQ w b3 o3 y0 y1) (e1 : o1 = 16 * k1) (i1 : k1 + 1 < L1.length) (dA : b2 ≠ b1 ∨ o2 + 16 ≠ o1) (dB : b3 ≠ b1 ∨ o3 + 16 ≠ o1) (hz0 : x0 - y0 = z0) (hz1 : x1 - y1 = z1) :
   Calls Tryd.prog 91 #[.pointer (some ⟨b1, o1, none⟩), .pointer (some ⟨b2, o2, none⟩), .pointer (some ⟨b3, o3, none⟩)] w fun e w' => e = .returned (.tuple #[]) ∧ UpdZ w w' b1 ((L1.set k1 z0).set (k1 + 1) z1) := by
 have C := Lib.hid (fqSubG h1 hA hB e1 i1 dA dB hz0 hz1)
 clear h1 hA hB e1 i1 dA dB hz0 hz1
 go_enter Tryd.func91, Tryd.ntmps91
 go_wp2_with fail
 refine C.out.mono ?_
 rintro e w' ⟨rfl, u⟩
 go_wp2_with fail
 go_end0
 exact ⟨rfl, u⟩
theorem ModW.drew {w : World} (h : ModW w) : ModW w.drew := h
theorem ModW.updZ {w w' : World} {b : Nat} {L : List Zp} (h : ModW w) (hg : 4 < b) (u : UpdZ w w' b L) : ModW w' := h.of_heap (u.other _ h.lt (Nat.ne_of_lt hg))
set_option maxRecDepth 100000 in
set_option maxHeartbeats 1000000 in
theorem fqNeg (hm : ModW w) (hg : 4 < b1) (h1 : FpsZ w b1 L1) (hA : AtQ w b2 o2 x0 x1) (e1 : o1 = 16 * k1) (i1 : k1 + 1 < L1.length) (dA : b2 ≠ b1 ∨ o2 + 16 ≠ o1) (hz0 : -x0 = z0) (hz1 : -x1 = z1) :
   Calls Tryd.prog 112 #[.pointer (some ⟨b1, o1, none⟩), .pointer (some ⟨b2, o2, none⟩)] w fun e w' => e = .returned (.tuple #[]) ∧ UpdZ w w' b1 ((L1.set k1 z0).set (k1 + 1) z1) := by
 have E1 := Lib.hid e1
 have HZ0 := Lib.hid hz0
 have HZ1 := Lib.hid hz1
 clear e1 hz0 hz1
 go_enter Tryd.func112, Tryd.ntmps112
 go_upto_region 0 with (fail)
 refine wrA (opsAt Tryd.f112 0) ((true, 0) :: (true, 1) :: (true, 2) :: (true, 3) :: (true, 4) :: (true, 5) :: (false, 6) :: []) (fun _ => True) trivial ?_
 refine kp (d := some 4) (v := .pointer (some ⟨b1, o1, none⟩)) ?_
 refine kp (d := some 5) (v := .pointer (some ⟨b1, o1, none⟩)) ?_
 refine kp (d := some 6) (v := .pointer (some ⟨b1, o1, none⟩)) ?_
 refine kp (d := some 7) (v := .pointer (some ⟨b2, o2, none⟩)) ?_
 refine kp (d := some 8) (v := .pointer (some ⟨b2, o2, none⟩)) ?_
 refine kp (d := some 9) (v := .pointer (some ⟨b2, o2, none⟩)) ?_
 refine kd (d := some 10) (f := 93) (args := #[.pointer (some ⟨b1, o1, none⟩), .pointer (some ⟨b2, o2, none⟩)]) (atNeg hm.drew h1.drew hA.fst.drew E1.out (Nat.lt_of_succ_lt i1) HZ0.out) (fun _ w1 q1 => ⟨.tuple #[], q1.1, trivial, ?_⟩)
 have u1 := q1.2.ofDrew
 clear q1
 refine k_end ?_
 go_simp
 go_upto_region 1 with (fail)
 refine wrA (opsAt Tryd.f112 1) ((true, 0) :: (true, 1) :: (true, 2) :: (true, 3) :: (true, 4) :: (true, 5) :: (false, 6) :: []) (fun _ => True) trivial ?_
 refine kp (d := some 11) (v := .pointer (some ⟨b1, o1, none⟩)) ?_
 refine kp (d := some 12) (v := .pointer (some ⟨b1, o1, none⟩)) ?_
 refine kp (d := some 13) (v := .pointer (some ⟨b1, o1 + 16, none⟩)) ?_
 refine kp (d := some 14) (v := .pointer (some ⟨b2, o2, none⟩)) ?_
 refine kp (d := some 15) (v := .pointer (some ⟨b2, o2, none⟩)) ?_
 refine kp (d := some 16) (v := .pointer (some ⟨b2, o2 + 16, none⟩)) ?_
 refine kd (d := some 17) (f := 93) (args := #[.pointer (some ⟨b1, o1 + 16, none⟩), .pointer (some ⟨b2, o2 + 16, none⟩)]) (atNeg (hm.updZ hg u1).drew u1.blk.drew (hA.snd.set h1 E1.out u1 dA).drew (e16 E1.out) (len_set i1) HZ1.out) (fun _ w2 q2 => ⟨.tuple #[], q2.1, trivial, ?_⟩)
 have u2 := q2.2.ofDrew
 clear q2
 refine k_end ?_
 go_simp
 go_wp2_with fail
 go_end0
 exact ⟨rfl, u1.trans u2⟩
section
variable {wr : World} {n i p : Nat} {zs : List Zp} {x y z u : Zp}
theorem gBMul (h : Boxes n w zs wr) (hp : p = n + i) (hi : zs[i]? = some u) (h2 : At wr b2 o2 x) (h3 : At wr b3 o3 y) (hz : x * y = z) :
   Calls Tryd.prog 127 #[.pointer (some ⟨p, 0, none⟩), .pointer (some ⟨b2, o2, none⟩), .pointer (some ⟨b3, o3, none⟩)] wr fun e w' => e = .returned (.tuple #[]) ∧ Boxes n w (zs.set i z) w' := by
 subst hp
 exact (gMul (h.blk i u hi) h2 h3 (k1 := 0) rfl (by simp) hz).mono fun _ _ q => ⟨q.1, h.upd q.2⟩
theorem gBSqr (h : Boxes n w zs wr) (hp : p = n + i) (hi : zs[i]? = some u) (h2 : At wr b2 o2 x) (hz : x * x = z) :
   Calls Tryd.prog 129 #[.pointer (some ⟨p, 0, none⟩), .pointer (some ⟨b2, o2, none⟩)] wr fun e w' => e = .returned (.tuple #[]) ∧ Boxes n w (zs.set i z) w' := by
 subst hp
 exact (gSqr (h.blk i u hi) h2 (k1 := 0) rfl (by simp) hz).mono fun _ _ q => ⟨q.1, h.upd q.2⟩
end
set_option maxRecDepth 100000 in
set_option maxHeartbeats 1000000 in
theorem fqMulG (h1 : FpsZ w b1 L1) (hA : AtQ w b2 o2 x0 x1) (hB : AtQ w b3 o3 y0 y1) (e1 : o1 = 16 * k1) (i1 : k1 + 1 < L1.length) (hz0 : x0 * y0 - x1 * y1 = z0) (hz1 : x0 * y1 + x1 * y0 = z1) :
   Calls Tryd.prog 116 #[.pointer (some ⟨b1, o1, none⟩), .pointer (some ⟨b2, o2, none⟩), .pointer (some ⟨b3, o3, none⟩)] w fun e w' => e = .returned (.tuple #[]) ∧ UpdZ w w' b1 ((L1.set k1 z0).set (k1 + 1) z1) := by
 have E1 := Lib.hid e1
 have HZ0 := Lib.hid hz0
 have HZ1 := Lib.hid hz1
 clear e1 hz0 hz1
 go_enter Tryd.func116, Tryd.ntmps116
 go_upto_region 1 with (fail)
 have H0 : Boxes w.heap.size w [0, 0, 0, 0] ((((w.alloc (.cells #[.int .u8 0, .int .u8 0, .int .u8 0, .int .u8 0, .int .u8 0, .int .u8 0, .int .u8 0, .int .u8 0, .int .u8 0, .int .u8 0, .int .u8 0, .int .u8 0, .int .u8 0, .int .u8 0, .int .u8 0, .int .u8 0] 73)).alloc (.cells #[.int .u8 0, .int .u8 0, .int .u8 0, .int .u8 0, .int .u8 0, .int .u8 0, .int .u8 0, .int .u8 0, .int .u8 0, .int .u8 0, .int .u8 0, .int .u8 0, .int .u8 0, .int .u8 0, .int .u8 0, .int .u8 0] 73)).alloc (.cells #[.int .u8 0, .int .u8 0, .int .u8 0, .int .u8 0, .int .u8 0, .int .u8 0, .int .u8 0, .int .u8 0, .int .u8 0, .int .u8 0, .int .u8 0, .int .u8 0, .int .u8 0, .int .u8 0, .int .u8 0, .int .u8 0] 73)).alloc (.cells #[.int .u8 0, .int .u8 0, .int .u8 0, .int .u8 0, .int .u8 0, .int .u8 0, .int .u8 0, .int .u8 0, .int .u8 0, .int .u8 0, .int .u8 0, .int .u8 0, .int .u8 0, .int .u8 0, .int .u8 0, .int .u8 0] 73)) := (((((Boxes.start w).new rfl zero_fps.symm low_zero zp_zero).new (by simp) zero_fps.symm low_zero zp_zero).new (by simp) zero_fps.symm low_zero zp_zero).new (by simp) zero_fps.symm low_zero zp_zero)
 obtain ⟨W0, hW⟩ : ∃ W0 : World, W0 = ((((w.alloc (.cells #[.int .u8 0, .int .u8 0, .int .u8 0, .int .u8 0, .int .u8 0, .int .u8 0, .int .u8 0, .int .u8 0, .int .u8 0, .int .u8 0, .int .u8 0, .int .u8 0, .int .u8 0, .int .u8 0, .int .u8 0, .int .u8 0] 73)).alloc (.cells #[.int .u8 0, .int .u8 0, .int .u8 0, .int .u8 0, .int .u8 0, .int .u8 0, .int .u8 0, .int .u8 0, .int .u8 0, .int .u8 0, .int .u8 0, .int .u8 0, .int .u8 0, .int .u8 0, .int .u8 0, .int .u8 0] 73)).alloc (.cells #[.int .u8 0, .int .u8 0, .int .u8 0, .int .u8 0, .int .u8 0, .int .u8 0, .int .u8 0, .int .u8 0, .int .u8 0, .int .u8 0, .int .u8 0, .int .u8 0, .int .u8 0, .int .u8 0, .int .u8 0, .int .u8 0] 73)).alloc (.cells #[.int .u8 0, .int .u8 0, .int .u8 0, .int .u8 0, .int .u8 0, .int .u8 0, .int .u8 0, .int .u8 0, .int .u8 0, .int .u8 0, .int .u8 0, .int .u8 0, .int .u8 0, .int .u8 0, .int .u8 0, .int .u8 0] 73)) := ⟨_, rfl⟩
 rw [← hW] at H0 ⊢
 clear hW
 refine wrA (opsAt Tryd.f116 1) ((true, 0) :: (true, 1) :: (true, 2) :: (true, 3) :: (true, 4) :: (true, 5) :: (false, 6) :: []) (fun _ => True) trivial ?_
 refine kp (d := some 10) (v := .pointer (some ⟨b2, o2, none⟩)) ?_
 refine kp (d := some 11) (v := .pointer (some ⟨b2, o2, none⟩)) ?_
 refine kp (d := some 12) (v := .pointer (some ⟨b2, o2, none⟩)) ?_
 refine kp (d := some 13) (v := .pointer (some ⟨b3, o3, none⟩)) ?_
 refine kp (d := some 14) (v := .pointer (some ⟨b3, o3, none⟩)) ?_
 refine kp (d := some 15) (v := .pointer (some ⟨b3, o3, none⟩)) ?_
 refine kd (d := some 16) (f := 127) (args := #[.pointer (some ⟨w.heap.size, 0, none⟩), .pointer (some ⟨b2, o2, none⟩), .pointer (some ⟨b3, o3, none⟩)]) (gBMul H0.drew (i := 0) (by rfl) rfl (hA.fst.below H0.nb hA.fst.lt).drew (hB.fst.below H0.nb hB.fst.lt).drew rfl) (fun _ w1 q1 => ⟨.tuple #[], q1.1, trivial, ?_⟩)
 have u1 := q1.2
 clear q1
 refine k_end ?_
 go_simp
 go_upto_region 2 with (fail)
 have H1 : Boxes w.heap.size w [x0 * y0, 0, 0, 0] w1 := u1
 clear u1 H0
 refine wrA (opsAt Tryd.f116 2) ((true, 0) :: (true, 1) :: (true, 2) :: (true, 3) :: (true, 4) :: (true, 5) :: (false, 6) :: []) (fun _ => True) trivial ?_
 refine kp (d := some 17) (v := .pointer (some ⟨b2, o2, none⟩)) ?_
 refine kp (d := some 18) (v := .pointer (some ⟨b2, o2, none⟩)) ?_
 refine kp (d := some 19) (v := .pointer (some ⟨b2, o2, none⟩)) ?_
 refine kp (d := some 20) (v := .pointer (some ⟨b3, o3, none⟩)) ?_
 refine kp (d := some 21) (v := .pointer (some ⟨b3, o3, none⟩)) ?_
 refine kp (d := some 22) (v := .pointer (some ⟨b3, o3 + 16, none⟩)) ?_
 refine kd (d := some 23) (f := 127) (args := #[.pointer (some ⟨w.heap.size + 1, 0, none⟩), .pointer (some ⟨b2, o2, none⟩), .pointer (some ⟨b3, o3 + 16, none⟩)]) (gBMul H1.drew (i := 1) (by rfl) rfl (hA.fst.below H1.nb hA.fst.lt).drew (hB.snd.below H1.nb hB.snd.lt).drew rfl) (fun _ w2 q2 => ⟨.tuple #[], q2.1, trivial, ?_⟩)
 have u2 := q2.2
 clear q2
 refine k_end ?_
 go_simp
 go_upto_region 3 with (fail)
 have H2 : Boxes w.heap.size w [x0 * y0, x0 * y1, 0, 0] w2 := u2
 clear u2 H1
 refine wrA (opsAt Tryd.f116 3) ((true, 0) :: (true, 1) :: (true, 2) :: (true, 3) :: (true, 4) :: (true, 5) :: (false, 6) :: []) (fun _ => True) trivial ?_
 refine kp (d := some 24) (v := .pointer (some ⟨b2, o2, none⟩)) ?_
 refine kp (d := some 25) (v := .pointer (some ⟨b2, o2, none⟩)) ?_
 refine kp (d := some 26) (v := .pointer (some ⟨b2, o2 + 16, none⟩)) ?_
 refine kp (d := some 27) (v := .pointer (some ⟨b3, o3, none⟩)) ?_
 refine kp (d := some 28) (v := .pointer (some ⟨b3, o3, none⟩)) ?_
 refine kp (d := some 29) (v := .pointer (some ⟨b3, o3, none⟩)) ?_
 refine kd (d := some 30) (f := 127) (args := #[.pointer (some ⟨w.heap.size + 1 + 1, 0, none⟩), .pointer (some ⟨b2, o2 + 16, none⟩), .pointer (some ⟨b3, o3, none⟩)]) (gBMul H2.drew (i := 2) (by rfl) rfl (hA.snd.below H2.nb hA.snd.lt).drew (hB.fst.below H2.nb hB.fst.lt).drew rfl) (fun _ w3 q3 => ⟨.tuple #[], q3.1, trivial, ?_⟩)
 have u3 := q3.2
 clear q3
 refine k_end ?_
 go_simp
 go_upto_region 4 with (fail)
 have H3 : Boxes w.heap.size w [x0 * y0, x0 * y1, x1 * y0, 0] w3 := u3
 clear u3 H2
 refine wrA (opsAt Tryd.f116 4) ((true, 0) :: (true, 1) :: (true, 2) :: (true, 3) :: (true, 4) :: (true, 5) :: (false, 6) :: []) (fun _ => True) trivial ?_
 refine kp (d := some 31) (v := .pointer (some ⟨b2, o2, none⟩)) ?_
 refine kp (d := some 32) (v := .pointer (some ⟨b2, o2, none⟩)) ?_
 refine kp (d := some 33) (v := .pointer (some ⟨b2, o2 + 16, none⟩)) ?_
 refine kp (d := some 34) (v := .pointer (some ⟨b3, o3, none⟩)) ?_
 refine kp (d := some 35) (v := .pointer (some ⟨b3, o3, none⟩)) ?_
 refine kp (d := some 36) (v := .pointer (some ⟨b3, o3 + 16, none⟩)) ?_
 refine kd (d := some 37) (f := 127) (args := #[.pointer (some ⟨w.heap.size + 1 + 1 + 1, 0, none⟩), .pointer (some ⟨b2, o2 + 16, none⟩), .pointer (some ⟨b3, o3 + 16, none⟩)]) (gBMul H3.drew (i := 3) (by rfl) rfl (hA.snd.below H3.nb hA.snd.lt).drew (hB.snd.below H3.nb hB.snd.lt).drew rfl) (fun _ w4 q4 => ⟨.tuple #[], q4.1, trivial, ?_⟩)
 have u4 := q4.2
 clear q4
 refine k_end ?_
 go_simp
 go_upto_region 5 with (fail)
 have H4 : Boxes w.heap.size w [x0 * y0, x0 * y1, x1 * y0, x1 * y1] w4 := u4
 clear u4 H3
 refine wsA (opsAt Tryd.f116 5) ((true, 0) :: (true, 1) :: (true, 2) :: (false, 3) :: []) (fun _ => True) trivial ?_
 refine kp (d := some 38) (v := .pointer (some ⟨b1, o1, none⟩)) ?_
 refine kp (d := some 39) (v := .pointer (some ⟨b1, o1, none⟩)) ?_
 refine kp (d := some 40) (v := .pointer (some ⟨b1, o1, none⟩)) ?_
 refine kd (d := some 41) (f := 130) (args := #[.pointer (some ⟨b1, o1, none⟩), .pointer (some ⟨w.heap.size, 0, none⟩), .pointer (some ⟨w.heap.size + 1 + 1 + 1, 0, none⟩)]) (gSub (h1.of_heap (H4.nb.block _ h1.lt)) (H4.at 0 (by rfl) rfl) (H4.at 3 (by rfl) rfl) E1.out (Nat.lt_of_succ_lt i1) HZ0.out) (fun _ w5 q5 => ⟨.tuple #[], q5.1, trivial, ?_⟩)
 have u5 := q5.2
 clear q5
 refine k_end ?_
 go_simp
 go_upto_region 6 with (fail)
 refine wsA (opsAt Tryd.f116 6) ((true, 0) :: (true, 1) :: (true, 2) :: (false, 3) :: []) (fun _ => True) trivial ?_
 refine kp (d := some 42) (v := .pointer (some ⟨b1, o1, none⟩)) ?_
 refine kp (d := some 43) (v := .pointer (some ⟨b1, o1, none⟩)) ?_
 refine kp (d := some 44) (v := .pointer (some ⟨b1, o1 + 16, none⟩)) ?_
 refine kd (d := some 45) (f := 128) (args := #[.pointer (some ⟨b1, o1 + 16, none⟩), .pointer (some ⟨w.heap.size + 1, 0, none⟩), .pointer (some ⟨w.heap.size + 1 + 1, 0, none⟩)]) (gAdd u5.blk ((H4.at 1 (by rfl) rfl).upd u5 (ne_new h1.lt 1)) ((H4.at 2 (by rfl) rfl).upd u5 (ne_new h1.lt 2)) (e16 E1.out) (len_set i1) HZ1.out) (fun _ w6 q6 => ⟨.tuple #[], q6.1, trivial, ?_⟩)
 have u6 := q6.2
 clear q6
 refine k_end ?_
 go_simp
 go_wp2_with fail
 go_end0
 exact ⟨rfl, UpdZ.ahead H4.nb (u5.trans u6)⟩
set_option maxRecDepth 100000 in
set_option maxHeartbeats 1000000 in
theorem fqSqrG (h1 : FpsZ w b1 L1) (hA : AtQ w b2 o2 x0 x1) (e1 : o1 = 16 * k1) (i1 : k1 + 1 < L1.length) (hz0 : x0 * x0 - x1 * x1 = z0) (hz1 : x0 * x1 + x0 * x1 = z1) :
   Calls Tryd.prog 115 #[.pointer (some ⟨b1, o1, none⟩), .pointer (some ⟨b2, o2, none⟩)] w fun e w' => e = .returned (.tuple #[]) ∧ UpdZ w w' b1 ((L1.set k1 z0).set (k1 + 1) z1) := by
 have E1 := Lib.hid e1
 have HZ0 := Lib.hid hz0
 have HZ1 := Lib.hid hz1
 clear e1 hz0 hz1
 go_enter Tryd.func115, Tryd.ntmps115
 go_upto_region 1 with (fail)
 have H0 : Boxes w.heap.size w [0, 0, 0] (((w.alloc (.cells #[.int .u8 0, .int .u8 0, .int .u8 0, .int .u8 0, .int .u8 0, .int .u8 0, .int .u8 0, .int .u8 0, .int .u8 0, .int .u8 0, .int .u8 0, .int .u8 0, .int .u8 0, .int .u8 0, .int .u8 0, .int .u8 0] 73)).alloc (.cells #[.int .u8 0, .int .u8 0, .int .u8 0, .int .u8 0, .int .u8 0, .int .u8 0, .int .u8 0, .int .u8 0, .int .u8 0, .int .u8 0, .int .u8 0, .int .u8 0, .int .u8 0, .int .u8 0, .int .u8 0, .int .u8 0] 73)).alloc (.cells #[.int .u8 0, .int .u8 0, .int .u8 0, .int .u8 0, .int .u8 0, .int .u8 0, .int .u8 0, .int .u8 0, .int .u8 0, .int .u8 0, .int .u8 0, .int .u8 0, .int .u8 0, .int .u8 0, .int .u8 0, .int .u8 0] 73)) := ((((Boxes.start w).new rfl zero_fps.symm low_zero zp_zero).new (by simp) zero_fps.symm low_zero zp_zero).new (by simp) zero_fps.symm low_zero zp_zero)
 obtain ⟨W0, hW⟩ : ∃ W0 : World, W0 = (((w.alloc (.cells #[.int .u8 0, .int .u8 0, .int .u8 0, .int .u8 0, .int .u8 0, .int .u8 0, .int .u8 0, .int .u8 0, .int .u8 0, .int .u8 0, .int .u8 0, .int .u8 0, .int .u8 0, .int .u8 0, .int .u8 0, .int .u8 0] 73)).alloc (.cells #[.int .u8 0, .int .u8 0, .int .u8 0, .int .u8 0, .int .u8 0, .int .u8 0, .int .u8 0, .int .u8 0, .int .u8 0, .int .u8 0, .int .u8 0, .int .u8 0, .int .u8 0, .int .u8 0, .int .u8 0, .int .u8 0] 73)).alloc (.cells #[.int .u8 0, .int .u8 0, .int .u8 0, .int .u8 0, .int .u8 0, .int .u8 0, .int .u8 0, .int .u8 0, .int .u8 0, .int .u8 0, .int .u8 0, .int .u8 0, .int .u8 0, .int .u8 0, .int .u8 0, .int .u8 0] 73)) := ⟨_, rfl⟩
 rw [← hW] at H0 ⊢
 clear hW
 refine wsA (opsAt Tryd.f115 1) ((true, 0) :: (true, 1) :: (true, 2) :: (false, 3) :: []) (fun _ => True) trivial ?_
 refine kp (d := some 7) (v := .pointer (some ⟨b2, o2, none⟩)) ?_
 refine kp (d := some 8) (v := .pointer (some ⟨b2, o2, none⟩)) ?_
 refine kp (d := some 9) (v := .pointer (some ⟨b2, o2, none⟩)) ?_
 refine kd (d := some 10) (f := 129) (args := #[.pointer (some ⟨w.heap.size, 0, none⟩), .pointer (some ⟨b2, o2, none⟩)]) (gBSqr H0 (i := 0) (by rfl) rfl (hA.fst.below H0.nb hA.fst.lt) rfl) (fun _ w1 q1 => ⟨.tuple #[], q1.1, trivial, ?_⟩)
 have u1 := q1.2
 clear q1
 refine k_end ?_
 go_simp
 go_upto_region 2 with (fail)
 have H1 : Boxes w.heap.size w [x0 * x0, 0, 0] w1 := u1
 clear u1 H0
 refine wrA (opsAt Tryd.f115 2) ((true, 0) :: (true, 1) :: (true, 2) :: (true, 3) :: (true, 4) :: (true, 5) :: (false, 6) :: []) (fun _ => True) trivial ?_
 refine kp (d := some 11) (v := .pointer (some ⟨b2, o2, none⟩)) ?_
 refine kp (d := some 12) (v := .pointer (some ⟨b2, o2, none⟩)) ?_
 refine kp (d := some 13) (v := .pointer (some ⟨b2, o2, none⟩)) ?_
 refine kp (d := some 14) (v := .pointer (some ⟨b2, o2, none⟩)) ?_
 refine kp (d := some 15) (v := .pointer (some ⟨b2, o2, none⟩)) ?_
 refine kp (d := some 16) (v := .pointer (some ⟨b2, o2 + 16, none⟩)) ?_
 refine kd (d := some 17) (f := 127) (args := #[.pointer (some ⟨w.heap.size + 1, 0, none⟩), .pointer (some ⟨b2, o2, none⟩), .pointer (some ⟨b2, o2 + 16, none⟩)]) (gBMul H1.drew (i := 1) (by rfl) rfl (hA.fst.below H1.nb hA.fst.lt).drew (hA.snd.below H1.nb hA.snd.lt).drew rfl) (fun _ w2 q2 => ⟨.tuple #[], q2.1, trivial, ?_⟩)
 have u2 := q2.2
 clear q2
 refine k_end ?_
 go_simp
 go_upto_region 3 with (fail)
 have H2 : Boxes w.heap.size w [x0 * x0, x0 * x1, 0] w2 := u2
 clear u2 H1
 refine wsA (opsAt Tryd.f115 3) ((true, 0) :: (true, 1) :: (true, 2) :: (false, 3) :: []) (fun _ => True) trivial ?_
 refine kp (d := some 18) (v := .pointer (some ⟨b2, o2, none⟩)) ?_
 refine kp (d := some 19) (v := .pointer (some ⟨b2, o2, none⟩)) ?_
 refine kp (d := some 20) (v := .pointer (some ⟨b2, o2 + 16, none⟩)) ?_
 refine kd (d := some 21) (f := 129) (args := #[.pointer (some ⟨w.heap.size + 1 + 1, 0, none⟩), .pointer (some ⟨b2, o2 + 16, none⟩)]) (gBSqr H2 (i := 2) (by rfl) rfl (hA.snd.below H2.nb hA.snd.lt) rfl) (fun _ w3 q3 => ⟨.tuple #[], q3.1, trivial, ?_⟩)
 have u3 := q3.2
 clear q3
 refine k_end ?_
 go_simp
 go_upto_region 4 with (fail)
 have H3 : Boxes w.heap.size w [x0 * x0, x0 * x1, x1 * x1] w3 := u3
 clear u3 H2
 refine wsA (opsAt Tryd.f115 4) ((true, 0) :: (true, 1) :: (true, 2) :: (false, 3) :: []) (fun _ => True) trivial ?_
 refine kp (d := some 22) (v := .pointer (some ⟨b1, o1, none⟩)) ?_
 refine kp (d := some 23) (v := .pointer (some ⟨b1, o1, none⟩)) ?_
 refine kp (d := some 24) (v := .pointer (some ⟨b1, o1, none⟩)) ?_
 refine kd (d := some 25) (f := 130) (args := #[.pointer (some ⟨b1, o1, none⟩), .pointer (some ⟨w.heap.size, 0, none⟩), .pointer (some ⟨w.heap.size + 1 + 1, 0, none⟩)]) (gSub (h1.of_heap (H3.nb.block _ h1.lt)) (H3.at 0 (by rfl) rfl) (H3.at 2 (by rfl) rfl) E1.out (Nat.lt_of_succ_lt i1) HZ0.out) (fun _ w4 q4 => ⟨.tuple #[], q4.1, trivial, ?_⟩)
 have u4 := q4.2
 clear q4
 refine k_end ?_
 go_simp
 go_upto_region 5 with (fail)
 refine wsA (opsAt Tryd.f115 5) ((true, 0) :: (true, 1) :: (true, 2) :: (false, 3) :: []) (fun _ => True) trivial ?_
 refine kp (d := some 26) (v := .pointer (some ⟨b1, o1, none⟩)) ?_
 refine kp (d := some 27) (v := .pointer (some ⟨b1, o1, none⟩)) ?_
 refine kp (d := some 28) (v := .pointer (some ⟨b1, o1 + 16, none⟩)) ?_
 refine kd (d := some 29) (f := 128) (args := #[.pointer (some ⟨b1, o1 + 16, none⟩), .pointer (some ⟨w.heap.size + 1, 0, none⟩), .pointer (some ⟨w.heap.size + 1, 0, none⟩)]) (gAdd u4.blk ((H3.at 1 (by rfl) rfl).upd u4 (ne_new h1.lt 1)) ((H3.at 1 (by rfl) rfl).upd u4 (ne_new h1.lt 1)) (e16 E1.out) (len_set i1) HZ1.out) (fun _ w5 q5 => ⟨.tuple #[], q5.1, trivial, ?_⟩)
 have u5 := q5.2
 clear q5
 refine k_end ?_
 go_simp
 go_wp2_with fail
 go_end0
 exact ⟨rfl, UpdZ.ahead H3.nb (u4.trans u5)⟩
set_option maxRecDepth 100000 in
set_option maxHeartbeats 1000000 in
theorem fqMul (h1 : FpsZ w b1 L1) (hA : AtQ w b2 o2 x0 x1) (hB : AtQ w b3 o3 y0 y1) (e1 : o1 = 16 * k1) (i1 : k1 + 1 < L1.length) (hz0 : x0 * y0 - x1 * y1 = z0) (hz1 : x0 * y1 + x1 * y0 = z1) :
   Calls Tryd.prog 90 #[.pointer (some ⟨b1, o1, none⟩), .pointer (some ⟨b2, o2, none⟩), .pointer (some ⟨b3, o3, none⟩)] w fun e w' => e = .returned (.tuple #[]) ∧ UpdZ w w' b1 ((L1.set k1 z0).set (k1 + 1) z1) := by
 have C := Lib.hid (fqMulG h1 hA hB e1 i1 hz0 hz1)
 clear h1 hA hB e1 i1 hz0 hz1
 go_enter Tryd.func90, Tryd.ntmps90
 go_wp2_with fail
 refine C.out.mono ?_
 rintro e w' ⟨rfl, u⟩
 go_wp2_with fail
 go_end0
 exact ⟨rfl, u⟩
set_option maxRecDepth 100000 in
set_option maxHeartbeats 1000000 in
theorem fqSqr (h1 : FpsZ w b1 L1) (hA : AtQ w b2 o2 x0 x1) (e1 : o1 = 16 * k1) (i1 : k1 + 1 < L1.length) (hz0 : x0 * x0 - x1 * x1 = z0) (hz1 : x0 * x1 + x0 * x1 = z1) :
   Calls Tryd.prog 89 #[.pointer (some ⟨b1, o1, none⟩), .pointer (some ⟨b2, o2, none⟩)] w fun e w' => e = .returned (.tuple #[]) ∧ UpdZ w w' b1 ((L1.set k1 z0).set (k1 + 1) z1) := by
 have C := Lib.hid (fqSqrG h1 hA e1 i1 hz0 hz1)
 clear h1 hA e1 i1 hz0 hz1
 go_enter Tryd.func89, Tryd.ntmps89
 go_wp2_with fail
 refine C.out.mono ?_
 rintro e w' ⟨rfl, u⟩
 go_wp2_with fail
 go_end0
 exact ⟨rfl, u⟩
end
end Go.Proofs.YtfkfljohhabldaaDoor
namespace Go.Proofs.YtfkfljohhabldaaDoor
open Go.RowKit Go.FourQ
theorem lt16 (x : Zp) : x.val < 256 ^ 16 := Nat.lt_trans x.lt (by decide +kernel)
set_option maxRecDepth 100000 in
set_option maxHeartbeats 1000000 in
theorem ofQ_c {w : World} {a b : Nat} (ha : a < 256 ^ 16) (hb : b < 256 ^ 16) :
   Calls Tryd.prog 19 #[.agg (fps [a, b])] w fun e w' => e = .returned (.agg (dgQ ((zp a).val) ((zp b).val))) ∧ Below w.heap.size w w' := by
 go_enter Tryd.func19, Tryd.ntmps19
 go_upto_region 1 with (fail)
 have K0 : Kept w [(w.heap.size, (fps [a, b]))] [(w.heap.size + 1, 16)] ((w.alloc (.cells (fps [a, b]) 33)).alloc (.cells #[.int .u64 0, .int .u64 0, .int .u64 0, .int .u64 0, .int .u64 0, .int .u64 0, .int .u64 0, .int .u64 0, .int .u64 0, .int .u64 0, .int .u64 0, .int .u64 0, .int .u64 0, .int .u64 0, .int .u64 0, .int .u64 0] 39)) := Kept.one (nb_alloc (nb_alloc (Below.refl _ _) _) _) (rowsC ⟨_, hp2_0 (w := w) (.cells (fps [a, b]) 33) (.cells #[.int .u64 0, .int .u64 0, .int .u64 0, .int .u64 0, .int .u64 0, .int .u64 0, .int .u64 0, .int .u64 0, .int .u64 0, .int .u64 0, .int .u64 0, .int .u64 0, .int .u64 0, .int .u64 0, .int .u64 0, .int .u64 0] 39)⟩ rows0) rfl (hp2_1 (w := w) (.cells (fps [a, b]) 33) (.cells #[.int .u64 0, .int .u64 0, .int .u64 0, .int .u64 0, .int .u64 0, .int .u64 0, .int .u64 0, .int .u64 0, .int .u64 0, .int .u64 0, .int .u64 0, .int .u64 0, .int .u64 0, .int .u64 0, .int .u64 0, .int .u64 0] 39))
 obtain ⟨W0, hW⟩ : ∃ W0 : World, W0 = ((w.alloc (.cells (fps [a, b]) 33)).alloc (.cells #[.int .u64 0, .int .u64 0, .int .u64 0, .int .u64 0, .int .u64 0, .int .u64 0, .int .u64 0, .int .u64 0, .int .u64 0, .int .u64 0, .int .u64 0, .int .u64 0, .int .u64 0, .int .u64 0, .int .u64 0, .int .u64 0] 39)) := ⟨_, rfl⟩
 rw [← hW] at K0 ⊢
 clear hW
 refine wrA (opsAt Tryd.f19 1) ((true, 0) :: (true, 1) :: (true, 3) :: (true, 4) :: (false, 2) :: (false, 5) :: (true, 6) :: (false, 7) :: []) (Kept w [(w.heap.size, (fps [a, b]))] [(w.heap.size + 1, 16)]) K0.drew ?_
 have K0d := K0.drew
 refine kp (d := some 3) (v := .pointer (some ⟨w.heap.size, 0, none⟩)) ?_
 refine k_part (by kernel_rfl) (d := (some 4)) (by kernel_rfl) (ty := 22) (x := (.tmp 3)) (by kernel_rfl) (b := w.heap.size) (off := 0) (by kernel_rfl) (all := (fps [a, b])) (cs := (fpC a)) (fun _ hs => hs.at 0 rfl) fps_part0 Tryd.underlying22 rfl (by kernel_rfl) ?_
 refine kp (d := some 6) (v := .pointer (some ⟨w.heap.size, 16, none⟩)) ?_
 refine k_part (by kernel_rfl) (d := (some 7)) (by kernel_rfl) (ty := 22) (x := (.tmp 6)) (by kernel_rfl) (b := w.heap.size) (off := 16) (by kernel_rfl) (all := (fps [a, b])) (cs := (fpC b)) (fun _ hs => hs.at 0 rfl) fps_part1 Tryd.underlying22 rfl (by kernel_rfl) ?_
 refine kc (d := some 5) (f := 12) (args := #[.agg (fpC a)]) (v := .agg (dgA (digs 8 ((zp a).val)))) (ofZ_c ha) (fun w1 hb1 => ⟨K0d.go hb1, ?_⟩)
 have K1 := K0d.go hb1
 refine kc (d := some 8) (f := 12) (args := #[.agg (fpC b)]) (v := .agg (dgA (digs 8 ((zp b).val)))) (ofZ_c hb) (fun w2 hb2 => ⟨K1.go hb2, ?_⟩)
 have K2 := K1.go hb2
 refine kp (d := some 9) (v := .agg (dgQ ((zp a).val) ((zp b).val))) ?_
 obtain ⟨T, old, hold, hT⟩ := K2.room _ (List.mem_cons_self ..)
 have KF := K2.put (cs := (dgQ ((zp a).val) ((zp b).val))) (by kernel_rfl) (by omega) (neC (by omega) ne0)
 refine k_store (by kernel_rfl) (d := none) (by kernel_rfl) (ty := 39) (x := (.tmp 2)) (y := (.tmp 9)) (by kernel_rfl) (g := w.heap.size + 1) (cells := (dgQ ((zp a).val) ((zp b).val))) (by kernel_rfl) (by kernel_rfl) hT (by kernel_rfl) (hold.trans (by kernel_rfl)) (all_dgQ _ _) ⟨KF, ?_⟩
 have hR := setRow_heap _ _ _ (dgQ ((zp a).val) ((zp b).val)) _ _ hT
 refine k_end ?_
 have KB := KF.nb
 go_simp
 go_wp2_with fail
 exact bodyPost_ret_by (results_cell_row rfl _ _ (w.heap.size + 1) _ (dgQ ((zp a).val) ((zp b).val)) _ _ rfl hR Tryd.underlying39 rfl (by kernel_rfl)) rfl ⟨rfl, KB⟩
set_option maxRecDepth 100000 in
set_option maxHeartbeats 1000000 in
theorem bytesQ_c {w : World} {x0 x1 : Zp} :
   Calls Tryd.prog 27 #[.agg (dgQ x0.val x1.val)] w fun e w' => e = .returned (.agg (fps [x0.val, x1.val])) ∧ Below w.heap.size w w' := by
 go_enter Tryd.func27, Tryd.ntmps27
 go_upto_region 1 with (fail)
 have K0 : Kept w [(w.heap.size, (dgQ x0.val x1.val))] [(w.heap.size + 1, 32)] ((w.alloc (.cells (dgQ x0.val x1.val) 39)).alloc (.cells #[.int .u8 0, .int .u8 0, .int .u8 0, .int .u8 0, .int .u8 0, .int .u8 0, .int .u8 0, .int .u8 0, .int .u8 0, .int .u8 0, .int .u8 0, .int .u8 0, .int .u8 0, .int .u8 0, .int .u8 0, .int .u8 0, .int .u8 0, .int .u8 0, .int .u8 0, .int .u8 0, .int .u8 0, .int .u8 0, .int .u8 0, .int .u8 0, .int .u8 0, .int .u8 0, .int .u8 0, .int .u8 0, .int .u8 0, .int .u8 0, .int .u8 0, .int .u8 0] 33)) := Kept.one (nb_alloc (nb_alloc (Below.refl _ _) _) _) (rowsC ⟨_, hp2_0 (w := w) (.cells (dgQ x0.val x1.val) 39) (.cells #[.int .u8 0, .int .u8 0, .int .u8 0, .int .u8 0, .int .u8 0, .int .u8 0, .int .u8 0, .int .u8 0, .int .u8 0, .int .u8 0, .int .u8 0, .int .u8 0, .int .u8 0, .int .u8 0, .int .u8 0, .int .u8 0, .int .u8 0, .int .u8 0, .int .u8 0, .int .u8 0, .int .u8 0, .int .u8 0, .int .u8 0, .int .u8 0, .int .u8 0, .int .u8 0, .int .u8 0, .int .u8 0, .int .u8 0, .int .u8 0, .int .u8 0, .int .u8 0] 33)⟩ rows0) rfl (hp2_1 (w := w) (.cells (dgQ x0.val x1.val) 39) (.cells #[.int .u8 0, .int .u8 0, .int .u8 0, .int .u8 0, .int .u8 0, .int .u8 0, .int .u8 0, .int .u8 0, .int .u8 0, .int .u8 0, .int .u8 0, .int .u8 0, .int .u8 0, .int .u8 0, .int .u8 0, .int .u8 0, .int .u8 0, .int .u8 0, .int .u8 0, .int .u8 0, .int .u8 0, .int .u8 0, .int .u8 0, .int .u8 0, .int .u8 0, .int .u8 0, .int .u8 0, .int .u8 0, .int .u8 0, .int .u8 0, .int .u8 0, .int .u8 0] 33))
 obtain ⟨W0, hW⟩ : ∃ W0 : World, W0 = ((w.alloc (.cells (dgQ x0.val x1.val) 39)).alloc (.cells #[.int .u8 0, .int .u8 0, .int .u8 0, .int .u8 0, .int .u8 0, .int .u8 0, .int .u8 0, .int .u8 0, .int .u8 0, .int .u8 0, .int .u8 0, .int .u8 0, .int .u8 0, .int .u8 0, .int .u8 0, .int .u8 0, .int .u8 0, .int .u8 0, .int .u8 0, .int .u8 0, .int .u8 0, .int .u8 0, .int .u8 0, .int .u8 0, .int .u8 0, .int .u8 0, .int .u8 0, .int .u8 0, .int .u8 0, .int .u8 0, .int .u8 0, .int .u8 0] 33)) := ⟨_, rfl⟩
 rw [← hW] at K0 ⊢
 clear hW
 refine wrA (opsAt Tryd.f27 1) ((true, 0) :: (true, 1) :: (true, 3) :: (true, 4) :: (false, 2) :: (false, 5) :: (true, 6) :: (false, 7) :: []) (Kept w [(w.heap.size, (dgQ x0.val x1.val))] [(w.heap.size + 1, 32)]) K0.drew ?_
 have K0d := K0.drew
 refine kp (d := some 3) (v := .pointer (some ⟨w.heap.size, 0, none⟩)) ?_
 refine k_part (by kernel_rfl) (d := (some 4)) (by kernel_rfl) (ty := 26) (x := (.tmp 3)) (by kernel_rfl) (b := w.heap.size) (off := 0) (by kernel_rfl) (all := (dgQ x0.val x1.val)) (cs := (dgA (digs 8 x0.val))) (fun _ hs => hs.at 0 rfl) dgQ_part0 Tryd.underlying26 rfl (by kernel_rfl) ?_
 refine kp (d := some 6) (v := .pointer (some ⟨w.heap.size, 8, none⟩)) ?_
 refine k_part (by kernel_rfl) (d := (some 7)) (by kernel_rfl) (ty := 26) (x := (.tmp 6)) (by kernel_rfl) (b := w.heap.size) (off := 8) (by kernel_rfl) (all := (dgQ x0.val x1.val)) (cs := (dgA (digs 8 x1.val))) (fun _ hs => hs.at 0 rfl) dgQ_part1 Tryd.underlying26 rfl (by kernel_rfl) ?_
 refine kc (d := some 5) (f := 45) (args := #[.agg (dgA (digs 8 x0.val))]) (v := .agg (fpC x0.val)) (bytesZ_c _) (fun w1 hb1 => ⟨K0d.go hb1, ?_⟩)
 have K1 := K0d.go hb1
 refine kc (d := some 8) (f := 45) (args := #[.agg (dgA (digs 8 x1.val))]) (v := .agg (fpC x1.val)) (bytesZ_c _) (fun w2 hb2 => ⟨K1.go hb2, ?_⟩)
 have K2 := K1.go hb2
 refine kp (d := some 9) (v := .agg (fps [x0.val, x1.val])) ?_
 obtain ⟨T, old, hold, hT⟩ := K2.room _ (List.mem_cons_self ..)
 have KF := K2.put (cs := (fps [x0.val, x1.val])) (by kernel_rfl) (by omega) (neC (by omega) ne0)
 refine k_store (by kernel_rfl) (d := none) (by kernel_rfl) (ty := 33) (x := (.tmp 2)) (y := (.tmp 9)) (by kernel_rfl) (g := w.heap.size + 1) (cells := (fps [x0.val, x1.val])) (by kernel_rfl) (by kernel_rfl) hT (by kernel_rfl) (hold.trans (by kernel_rfl)) (all_fps2 _ _) ⟨KF, ?_⟩
 have hR := setRow_heap _ _ _ (fps [x0.val, x1.val]) _ _ hT
 refine k_end ?_
 have KB := KF.nb
 go_simp
 go_wp2_with fail
 exact bodyPost_ret_by (results_cell_row rfl _ _ (w.heap.size + 1) _ (fps [x0.val, x1.val]) _ _ rfl hR Tryd.underlying33 rfl (by kernel_rfl)) rfl ⟨rfl, KB⟩
set_option maxRecDepth 100000 in
set_option maxHeartbeats 1000000 in
theorem addQ_c {w : World} {x0 x1 y0 y1 : Zp} :
   Calls Tryd.prog 58 #[.agg (dgQ x0.val x1.val), .agg (dgQ y0.val y1.val)] w fun e w' => e = .returned (.agg (dgQ ((x0 + y0).val) ((x1 + y1).val))) ∧ Below w.heap.size w w' := by
 go_enter Tryd.func58, Tryd.ntmps58
 go_upto_region 1 with (fail)
 have K0 : Kept w [(w.heap.size, (dgQ x0.val x1.val)), (w.heap.size + 1, (dgQ y0.val y1.val))] [(w.heap.size + 1 + 1, 16)] (((w.alloc (.cells (dgQ x0.val x1.val) 39)).alloc (.cells (dgQ y0.val y1.val) 39)).alloc (.cells #[.int .u64 0, .int .u64 0, .int .u64 0, .int .u64 0, .int .u64 0, .int .u64 0, .int .u64 0, .int .u64 0, .int .u64 0, .int .u64 0, .int .u64 0, .int .u64 0, .int .u64 0, .int .u64 0, .int .u64 0, .int .u64 0] 39)) := Kept.one (nb_alloc (nb_alloc (nb_alloc (Below.refl _ _) _) _) _) (rowsC ⟨_, hp3_0 (w := w) (.cells (dgQ x0.val x1.val) 39) (.cells (dgQ y0.val y1.val) 39) (.cells #[.int .u64 0, .int .u64 0, .int .u64 0, .int .u64 0, .int .u64 0, .int .u64 0, .int .u64 0, .int .u64 0, .int .u64 0, .int .u64 0, .int .u64 0, .int .u64 0, .int .u64 0, .int .u64 0, .int .u64 0, .int .u64 0] 39)⟩ (rowsC ⟨_, hp3_1 (w := w) (.cells (dgQ x0.val x1.val) 39) (.cells (dgQ y0.val y1.val) 39) (.cells #[.int .u64 0, .int .u64 0, .int .u64 0, .int .u64 0, .int .u64 0, .int .u64 0, .int .u64 0, .int .u64 0, .int .u64 0, .int .u64 0, .int .u64 0, .int .u64 0, .int .u64 0, .int .u64 0, .int .u64 0, .int .u64 0] 39)⟩ rows0)) rfl (hp3_2 (w := w) (.cells (dgQ x0.val x1.val) 39) (.cells (dgQ y0.val y1.val) 39) (.cells #[.int .u64 0, .int .u64 0, .int .u64 0, .int .u64 0, .int .u64 0, .int .u64 0, .int .u64 0, .int .u64 0, .int .u64 0, .int .u64 0, .int .u64 0, .int .u64 0, .int .u64 0, .int .u64 0, .int .u64 0, .int .u64 0] 39))
 obtain ⟨W0, hW⟩ : ∃ W0 : World, W0 = (((w.alloc (.cells (dgQ x0.val x1.val) 39)).alloc (.cells (dgQ y0.val y1.val) 39)).alloc (.cells #[.int .u64 0, .int .u64 0, .int .u64 0, .int .u64 0, .int .u64 0, .int .u64 0, .int .u64 0, .int .u64 0, .int .u64 0, .int .u64 0, .int .u64 0, .int .u64 0, .int .u64 0, .int .u64 0, .int .u64 0, .int .u64 0] 39)) := ⟨_, rfl⟩
 rw [← hW] at K0 ⊢
 clear hW
 refine wrA (opsAt Tryd.f58 1) ((true, 0) :: (true, 1) :: (true, 2) :: (true, 3) :: (true, 5) :: (true, 6) :: (true, 7) :: (true, 8) :: (false, 4) :: (false, 9) :: (true, 10) :: (false, 11) :: []) (Kept w [(w.heap.size, (dgQ x0.val x1.val)), (w.heap.size + 1, (dgQ y0.val y1.val))] [(w.heap.size + 1 + 1, 16)]) K0.drew ?_
 have K0d := K0.drew
 refine kp (d := some 5) (v := .pointer (some ⟨w.heap.size, 0, none⟩)) ?_
 refine k_part (by kernel_rfl) (d := (some 6)) (by kernel_rfl) (ty := 26) (x := (.tmp 5)) (by kernel_rfl) (b := w.heap.size) (off := 0) (by kernel_rfl) (all := (dgQ x0.val x1.val)) (cs := (dgA (digs 8 x0.val))) (fun _ hs => hs.at 0 rfl) dgQ_part0 Tryd.underlying26 rfl (by kernel_rfl) ?_
 refine kp (d := some 7) (v := .pointer (some ⟨w.heap.size + 1, 0, none⟩)) ?_
 refine k_part (by kernel_rfl) (d := (some 8)) (by kernel_rfl) (ty := 26) (x := (.tmp 7)) (by kernel_rfl) (b := w.heap.size + 1) (off := 0) (by kernel_rfl) (all := (dgQ y0.val y1.val)) (cs := (dgA (digs 8 y0.val))) (fun _ hs => hs.at 1 rfl) dgQ_part0 Tryd.underlying26 rfl (by kernel_rfl) ?_
 refine kp (d := some 10) (v := .pointer (some ⟨w.heap.size, 8, none⟩)) ?_
 refine k_part (by kernel_rfl) (d := (some 11)) (by kernel_rfl) (ty := 26) (x := (.tmp 10)) (by kernel_rfl) (b := w.heap.size) (off := 8) (by kernel_rfl) (all := (dgQ x0.val x1.val)) (cs := (dgA (digs 8 x1.val))) (fun _ hs => hs.at 0 rfl) dgQ_part1 Tryd.underlying26 rfl (by kernel_rfl) ?_
 refine kp (d := some 12) (v := .pointer (some ⟨w.heap.size + 1, 8, none⟩)) ?_
 refine k_part (by kernel_rfl) (d := (some 13)) (by kernel_rfl) (ty := 26) (x := (.tmp 12)) (by kernel_rfl) (b := w.heap.size + 1) (off := 8) (by kernel_rfl) (all := (dgQ y0.val y1.val)) (cs := (dgA (digs 8 y1.val))) (fun _ hs => hs.at 1 rfl) dgQ_part1 Tryd.underlying26 rfl (by kernel_rfl) ?_
 refine kc (d := some 9) (f := 61) (args := #[.agg (dgA (digs 8 x0.val)), .agg (dgA (digs 8 y0.val))]) (v := .agg (dgA (digs 8 ((x0 + y0).val)))) (addZ_c _ _) (fun w1 hb1 => ⟨K0d.go hb1, ?_⟩)
 have K1 := K0d.go hb1
 refine kc (d := some 14) (f := 61) (args := #[.agg (dgA (digs 8 x1.val)), .agg (dgA (digs 8 y1.val))]) (v := .agg (dgA (digs 8 ((x1 + y1).val)))) (addZ_c _ _) (fun w2 hb2 => ⟨K1.go hb2, ?_⟩)
 have K2 := K1.go hb2
 refine kp (d := some 15) (v := .agg (dgQ ((x0 + y0).val) ((x1 + y1).val))) ?_
 obtain ⟨T, old, hold, hT⟩ := K2.room _ (List.mem_cons_self ..)
 have KF := K2.put (cs := (dgQ ((x0 + y0).val) ((x1 + y1).val))) (by kernel_rfl) (by omega) (neC (by omega) (neC (by omega) ne0))
 refine k_store (by kernel_rfl) (d := none) (by kernel_rfl) (ty := 39) (x := (.tmp 4)) (y := (.tmp 15)) (by kernel_rfl) (g := w.heap.size + 1 + 1) (cells := (dgQ ((x0 + y0).val) ((x1 + y1).val))) (by kernel_rfl) (by kernel_rfl) hT (by kernel_rfl) (hold.trans (by kernel_rfl)) (all_dgQ _ _) ⟨KF, ?_⟩
 have hR := setRow_heap _ _ _ (dgQ ((x0 + y0).val) ((x1 + y1).val)) _ _ hT
 refine k_end ?_
 have KB := KF.nb
 go_simp
 go_wp2_with fail
 exact bodyPost_ret_by (results_cell_row rfl _ _ (w.heap.size + 1 + 1) _ (dgQ ((x0 + y0).val) ((x1 + y1).val)) _ _ rfl hR Tryd.underlying39 rfl (by kernel_rfl)) rfl ⟨rfl, KB⟩
set_option maxRecDepth 100000 in
set_option maxHeartbeats 1000000 in
theorem negQ_c {w : World} {x0 x1 : Zp} :
   Calls Tryd.prog 41 #[.agg (dgQ x0.val x1.val)] w fun e w' => e = .returned (.agg (dgQ ((-x0).val) ((-x1).val))) ∧ Below w.heap.size w w' := by
 go_enter Tryd.func41, Tryd.ntmps41
 go_upto_region 1 with (fail)
 have K0 : Kept w [(w.heap.size, (dgQ x0.val x1.val))] [(w.heap.size + 1, 16)] ((w.alloc (.cells (dgQ x0.val x1.val) 39)).alloc (.cells #[.int .u64 0, .int .u64 0, .int .u64 0, .int .u64 0, .int .u64 0, .int .u64 0, .int .u64 0, .int .u64 0, .int .u64 0, .int .u64 0, .int .u64 0, .int .u64 0, .int .u64 0, .int .u64 0, .int .u64 0, .int .u64 0] 39)) := Kept.one (nb_alloc (nb_alloc (Below.refl _ _) _) _) (rowsC ⟨_, hp2_0 (w := w) (.cells (dgQ x0.val x1.val) 39) (.cells #[.int .u64 0, .int .u64 0, .int .u64 0, .int .u64 0, .int .u64 0, .int .u64 0, .int .u64 0, .int .u64 0, .int .u64 0, .int .u64 0, .int .u64 0, .int .u64 0, .int .u64 0, .int .u64 0, .int .u64 0, .int .u64 0] 39)⟩ rows0) rfl (hp2_1 (w := w) (.cells (dgQ x0.val x1.val) 39) (.cells #[.int .u64 0, .int .u64 0, .int .u64 0, .int .u64 0, .int .u64 0, .int .u64 0, .int .u64 0, .int .u64 0, .int .u64 0, .int .u64 0, .int .u64 0, .int .u64 0, .int .u64 0, .int .u64 0, .int .u64 0, .int .u64 0] 39))
 obtain ⟨W0, hW⟩ : ∃ W0 : World, W0 = ((w.alloc (.cells (dgQ x0.val x1.val) 39)).alloc (.cells #[.int .u64 0, .int .u64 0, .int .u64 0, .int .u64 0, .int .u64 0, .int .u64 0, .int .u64 0, .int .u64 0, .int .u64 0, .int .u64 0, .int .u64 0, .int .u64 0, .int .u64 0, .int .u64 0, .int .u64 0, .int .u64 0] 39)) := ⟨_, rfl⟩
 rw [← hW] at K0 ⊢
 clear hW
 refine wrA (opsAt Tryd.f41 1) ((true, 0) :: (true, 1) :: (true, 3) :: (true, 4) :: (false, 2) :: (false, 5) :: (true, 6) :: (false, 7) :: []) (Kept w [(w.heap.size, (dgQ x0.val x1.val))] [(w.heap.size + 1, 16)]) K0.drew ?_
 have K0d := K0.drew
 refine kp (d := some 3) (v := .pointer (some ⟨w.heap.size, 0, none⟩)) ?_
 refine k_part (by kernel_rfl) (d := (some 4)) (by kernel_rfl) (ty := 26) (x := (.tmp 3)) (by kernel_rfl) (b := w.heap.size) (off := 0) (by kernel_rfl) (all := (dgQ x0.val x1.val)) (cs := (dgA (digs 8 x0.val))) (fun _ hs => hs.at 0 rfl) dgQ_part0 Tryd.underlying26 rfl (by kernel_rfl) ?_
 refine kp (d := some 6) (v := .pointer (some ⟨w.heap.size, 8, none⟩)) ?_
 refine k_part (by kernel_rfl) (d := (some 7)) (by kernel_rfl) (ty := 26) (x := (.tmp 6)) (by kernel_rfl) (b := w.heap.size) (off := 8) (by kernel_rfl) (all := (dgQ x0.val x1.val)) (cs := (dgA (digs 8 x1.val))) (fun _ hs => hs.at 0 rfl) dgQ_part1 Tryd.underlying26 rfl (by kernel_rfl) ?_
 refine kc (d := some 5) (f := 28) (args := #[.agg (dgA (digs 8 x0.val))]) (v := .agg (dgA (digs 8 ((-x0).val)))) (negZ_c _) (fun w1 hb1 => ⟨K0d.go hb1, ?_⟩)
 have K1 := K0d.go hb1
 refine kc (d := some 8) (f := 28) (args := #[.agg (dgA (digs 8 x1.val))]) (v := .agg (dgA (digs 8 ((-x1).val)))) (negZ_c _) (fun w2 hb2 => ⟨K1.go hb2, ?_⟩)
 have K2 := K1.go hb2
 refine kp (d := some 9) (v := .agg (dgQ ((-x0).val) ((-x1).val))) ?_
 obtain ⟨T, old, hold, hT⟩ := K2.room _ (List.mem_cons_self ..)
 have KF := K2.put (cs := (dgQ ((-x0).val) ((-x1).val))) (by kernel_rfl) (by omega) (neC (by omega) ne0)
 refine k_store (by kernel_rfl) (d := none) (by kernel_rfl) (ty := 39) (x := (.tmp 2)) (y := (.tmp 9)) (by kernel_rfl) (g := w.heap.size + 1) (cells := (dgQ ((-x0).val) ((-x1).val))) (by kernel_rfl) (by kernel_rfl) hT (by kernel_rfl) (hold.trans (by kernel_rfl)) (all_dgQ _ _) ⟨KF, ?_⟩
 have hR := setRow_heap _ _ _ (dgQ ((-x0).val) ((-x1).val)) _ _ hT
 refine k_end ?_
 have KB := KF.nb
 go_simp
 go_wp2_with fail
 exact bodyPost_ret_by (results_cell_row rfl _ _ (w.heap.size + 1) _ (dgQ ((-x0).val) ((-x1).val)) _ _ rfl hR Tryd.underlying39 rfl (by kernel_rfl)) rfl ⟨rfl, KB⟩
set_option maxRecDepth 100000 in
set_option maxHeartbeats 1000000 in
theorem subQ_c {w : World} {x0 x1 y0 y1 : Zp} :
   Calls Tryd.prog 57 #[.agg (dgQ x0.val x1.val), .agg (dgQ y0.val y1.val)] w fun e w' => e = .returned (.agg (dgQ ((x0 - y0).val) ((x1 - y1).val))) ∧ Below w.heap.size w w' := by
 go_enter Tryd.func57, Tryd.ntmps57
 go_upto_region 1 with (fail)
 have K0 : Kept w [(w.heap.size, (dgQ x0.val x1.val)), (w.heap.size + 1, (dgQ y0.val y1.val))] [(w.heap.size + 1 + 1, 16)] (((w.alloc (.cells (dgQ x0.val x1.val) 39)).alloc (.cells (dgQ y0.val y1.val) 39)).alloc (.cells #[.int .u64 0, .int .u64 0, .int .u64 0, .int .u64 0, .int .u64 0, .int .u64 0, .int .u64 0, .int .u64 0, .int .u64 0, .int .u64 0, .int .u64 0, .int .u64 0, .int .u64 0, .int .u64 0, .int .u64 0, .int .u64 0] 39)) := Kept.one (nb_alloc (nb_alloc (nb_alloc (Below.refl _ _) _) _) _) (rowsC ⟨_, hp3_0 (w := w) (.cells (dgQ x0.val x1.val) 39) (.cells (dgQ y0.val y1.val) 39) (.cells #[.int .u64 0, .int .u64 0, .int .u64 0, .int .u64 0, .int .u64 0, .int .u64 0, .int .u64 0, .int .u64 0, .int .u64 0, .int .u64 0, .int .u64 0, .int .u64 0, .int .u64 0, .int .u64 0, .int .u64 0, .int .u64 0] 39)⟩ (rowsC ⟨_, hp3_1 (w := w) (.cells (dgQ x0.val x1.val) 39) (.cells (dgQ y0.val y1.val) 39) (.cells #[.int .u64 0, .int .u64 0, .int .u64 0, .int .u64 0, .int .u64 0, .int .u64 0, .int .u64 0, .int .u64 0, .int .u64 0, .int .u64 0, .int .u64 0, .int .u64 0, .int .u64 0, .int .u64 0, .int .u64 0, .int .u64 0] 39)⟩ rows0)) rfl (hp3_2 (w := w) (.cells (dgQ x0.val x1.val) 39) (.cells (dgQ y0.val y1.val) 39) (.cells #[.int .u64 0, .int .u64 0, .int .u64 0, .int .u64 0, .int .u64 0, .int .u64 0, .int .u64 0, .int .u64 0, .int .u64 0, .int .u64 0, .int .u64 0, .int .u64 0, .int .u64 0, .int .u64 0, .int .u64 0, .int .u64 0] 39))
 obtain ⟨W0, hW⟩ : ∃ W0 : World, W0 = (((w.alloc (.cells (dgQ x0.val x1.val) 39)).alloc (.cells (dgQ y0.val y1.val) 39)).alloc (.cells #[.int .u64 0, .int .u64 0, .int .u64 0, .int .u64 0, .int .u64 0, .int .u64 0, .int .u64 0, .int .u64 0, .int .u64 0, .int .u64 0, .int .u64 0, .int .u64 0, .int .u64 0, .int .u64 0, .int .u64 0, .int .u64 0] 39)) := ⟨_, rfl⟩
 rw [← hW] at K0 ⊢
 clear hW
 refine wrA (opsAt Tryd.f57 1) ((true, 0) :: (true, 1) :: (false, 2) :: (false, 3) :: (false, 4) :: []) (Kept w [(w.heap.size, (dgQ x0.val x1.val)), (w.heap.size + 1, (dgQ y0.val y1.val))] [(w.heap.size + 1 + 1, 16)]) K0.drew ?_
 have K0d := K0.drew
 refine k_row (by kernel_rfl) (d := (some 5)) (by kernel_rfl) (ty := 39) (x := (.tmp 2)) (by kernel_rfl) (b := w.heap.size) (by kernel_rfl) (cs := (dgQ x0.val x1.val)) (fun _ hs => hs.at 0 rfl) Tryd.underlying39 rfl (by kernel_rfl) ?_
 refine k_row (by kernel_rfl) (d := (some 6)) (by kernel_rfl) (ty := 39) (x := (.tmp 3)) (by kernel_rfl) (b := w.heap.size + 1) (by kernel_rfl) (cs := (dgQ y0.val y1.val)) (fun _ hs => hs.at 1 rfl) Tryd.underlying39 rfl (by kernel_rfl) ?_
 refine kc (d := some 7) (f := 41) (args := #[.agg (dgQ y0.val y1.val)]) (v := .agg (dgQ ((-y0).val) ((-y1).val))) (negQ_c) (fun w1 hb1 => ⟨K0d.go hb1, ?_⟩)
 have K1 := K0d.go hb1
 refine kc (d := some 8) (f := 58) (args := #[.agg (dgQ x0.val x1.val), .agg (dgQ ((-y0).val) ((-y1).val))]) (v := .agg (dgQ ((x0 - y0).val) ((x1 - y1).val))) (addQ_c) (fun w2 hb2 => ⟨K1.go hb2, ?_⟩)
 have K2 := K1.go hb2
 obtain ⟨T, old, hold, hT⟩ := K2.room _ (List.mem_cons_self ..)
 have KF := K2.put (cs := (dgQ ((x0 - y0).val) ((x1 - y1).val))) (by kernel_rfl) (by omega) (neC (by omega) (neC (by omega) ne0))
 refine k_store (by kernel_rfl) (d := none) (by kernel_rfl) (ty := 39) (x := (.tmp 4)) (y := (.tmp 8)) (by kernel_rfl) (g := w.heap.size + 1 + 1) (cells := (dgQ ((x0 - y0).val) ((x1 - y1).val))) (by kernel_rfl) (by kernel_rfl) hT (by kernel_rfl) (hold.trans (by kernel_rfl)) (all_dgQ _ _) ⟨KF, ?_⟩
 have hR := setRow_heap _ _ _ (dgQ ((x0 - y0).val) ((x1 - y1).val)) _ _ hT
 refine k_end ?_
 have KB := KF.nb
 go_simp
 go_wp2_with fail
 exact bodyPost_ret_by (results_cell_row rfl _ _ (w.heap.size + 1 + 1) _ (dgQ ((x0 - y0).val) ((x1 - y1).val)) _ _ rfl hR Tryd.underlying39 rfl (by kernel_rfl)) rfl ⟨rfl, KB⟩
set_option maxRecDepth 100000 in
set_option maxHeartbeats 1000000 in
theorem mulQ_c {w : World} {x0 x1 y0 y1 : Zp} :
   Calls Tryd.prog 25 #[.agg (dgQ x0.val x1.val), .agg (dgQ y0.val y1.val)] w fun e w' => e = .returned (.agg (dgQ ((x0 * y0 - x1 * y1).val) ((x0 * y1 + x1 * y0).val))) ∧ Below w.heap.size w w' := by
 go_enter Tryd.func25, Tryd.ntmps25
 go_upto_region 1 with (fail)
 have K0 : Kept w [(w.heap.size, (dgQ x0.val x1.val)), (w.heap.size + 1, (dgQ y0.val y1.val))] [(w.heap.size + 1 + 1, 16)] (((w.alloc (.cells (dgQ x0.val x1.val) 39)).alloc (.cells (dgQ y0.val y1.val) 39)).alloc (.cells #[.int .u64 0, .int .u64 0, .int .u64 0, .int .u64 0, .int .u64 0, .int .u64 0, .int .u64 0, .int .u64 0, .int .u64 0, .int .u64 0, .int .u64 0, .int .u64 0, .int .u64 0, .int .u64 0, .int .u64 0, .int .u64 0] 39)) := Kept.one (nb_alloc (nb_alloc (nb_alloc (Below.refl _ _) _) _) _) (rowsC ⟨_, hp3_0 (w := w) (.cells (dgQ x0.val x1.val) 39) (.cells (dgQ y0.val y1.val) 39) (.cells #[.int .u64 0, .int .u64 0, .int .u64 0, .int .u64 0, .int .u64 0, .int .u64 0, .int .u64 0, .int .u64 0, .int .u64 0, .int .u64 0, .int .u64 0, .int .u64 0, .int .u64 0, .int .u64 0, .int .u64 0, .int .u64 0] 39)⟩ (rowsC ⟨_, hp3_1 (w := w) (.cells (dgQ x0.val x1.val) 39) (.cells (dgQ y0.val y1.val) 39) (.cells #[.int .u64 0, .int .u64 0, .int .u64 0, .int .u64 0, .int .u64 0, .int .u64 0, .int .u64 0, .int .u64 0, .int .u64 0, .int .u64 0, .int .u64 0, .int .u64 0, .int .u64 0, .int .u64 0, .int .u64 0, .int .u64 0] 39)⟩ rows0)) rfl (hp3_2 (w := w) (.cells (dgQ x0.val x1.val) 39) (.cells (dgQ y0.val y1.val) 39) (.cells #[.int .u64 0, .int .u64 0, .int .u64 0, .int .u64 0, .int .u64 0, .int .u64 0, .int .u64 0, .int .u64 0, .int .u64 0, .int .u64 0, .int .u64 0, .int .u64 0, .int .u64 0, .int .u64 0, .int .u64 0, .int .u64 0] 39))
 obtain ⟨W0, hW⟩ : ∃ W0 : World, W0 = (((w.alloc (.cells (dgQ x0.val x1.val) 39)).alloc (.cells (dgQ y0.val y1.val) 39)).alloc (.cells #[.int .u64 0, .int .u64 0, .int .u64 0, .int .u64 0, .int .u64 0, .int .u64 0, .int .u64 0, .int .u64 0, .int .u64 0, .int .u64 0, .int .u64 0, .int .u64 0, .int .u64 0, .int .u64 0, .int .u64 0, .int .u64 0] 39)) := ⟨_, rfl⟩
 rw [← hW] at K0 ⊢
 clear hW
 refine wrA (opsAt Tryd.f25 1) ((true, 0) :: (true, 1) :: (true, 2) :: (true, 3) :: (true, 5) :: (true, 6) :: (true, 7) :: (true, 8) :: (true, 11) :: (true, 12) :: (true, 13) :: (true, 14) :: (true, 16) :: (true, 17) :: (true, 18) :: (true, 19) :: (false, 4) :: (false, 9) :: (false, 10) :: (false, 15) :: (false, 20) :: (false, 21) :: (true, 22) :: (false, 23) :: []) (Kept w [(w.heap.size, (dgQ x0.val x1.val)), (w.heap.size + 1, (dgQ y0.val y1.val))] [(w.heap.size + 1 + 1, 16)]) K0.drew ?_
 have K0d := K0.drew
 refine kp (d := some 5) (v := .pointer (some ⟨w.heap.size, 0, none⟩)) ?_
 refine k_part (by kernel_rfl) (d := (some 6)) (by kernel_rfl) (ty := 26) (x := (.tmp 5)) (by kernel_rfl) (b := w.heap.size) (off := 0) (by kernel_rfl) (all := (dgQ x0.val x1.val)) (cs := (dgA (digs 8 x0.val))) (fun _ hs => hs.at 0 rfl) dgQ_part0 Tryd.underlying26 rfl (by kernel_rfl) ?_
 refine kp (d := some 7) (v := .pointer (some ⟨w.heap.size + 1, 0, none⟩)) ?_
 refine k_part (by kernel_rfl) (d := (some 8)) (by kernel_rfl) (ty := 26) (x := (.tmp 7)) (by kernel_rfl) (b := w.heap.size + 1) (off := 0) (by kernel_rfl) (all := (dgQ y0.val y1.val)) (cs := (dgA (digs 8 y0.val))) (fun _ hs => hs.at 1 rfl) dgQ_part0 Tryd.underlying26 rfl (by kernel_rfl) ?_
 refine kp (d := some 10) (v := .pointer (some ⟨w.heap.size, 8, none⟩)) ?_
 refine k_part (by kernel_rfl) (d := (some 11)) (by kernel_rfl) (ty := 26) (x := (.tmp 10)) (by kernel_rfl) (b := w.heap.size) (off := 8) (by kernel_rfl) (all := (dgQ x0.val x1.val)) (cs := (dgA (digs 8 x1.val))) (fun _ hs => hs.at 0 rfl) dgQ_part1 Tryd.underlying26 rfl (by kernel_rfl) ?_
 refine kp (d := some 12) (v := .pointer (some ⟨w.heap.size + 1, 8, none⟩)) ?_
 refine k_part (by kernel_rfl) (d := (some 13)) (by kernel_rfl) (ty := 26) (x := (.tmp 12)) (by kernel_rfl) (b := w.heap.size + 1) (off := 8) (by kernel_rfl) (all := (dgQ y0.val y1.val)) (cs := (dgA (digs 8 y1.val))) (fun _ hs => hs.at 1 rfl) dgQ_part1 Tryd.underlying26 rfl (by kernel_rfl) ?_
 refine kp (d := some 16) (v := .pointer (some ⟨w.heap.size, 0, none⟩)) ?_
 refine k_part (by kernel_rfl) (d := (some 17)) (by kernel_rfl) (ty := 26) (x := (.tmp 16)) (by kernel_rfl) (b := w.heap.size) (off := 0) (by kernel_rfl) (all := (dgQ x0.val x1.val)) (cs := (dgA (digs 8 x0.val))) (fun _ hs => hs.at 0 rfl) dgQ_part0 Tryd.underlying26 rfl (by kernel_rfl) ?_
 refine kp (d := some 18) (v := .pointer (some ⟨w.heap.size + 1, 8, none⟩)) ?_
 refine k_part (by kernel_rfl) (d := (some 19)) (by kernel_rfl) (ty := 26) (x := (.tmp 18)) (by kernel_rfl) (b := w.heap.size + 1) (off := 8) (by kernel_rfl) (all := (dgQ y0.val y1.val)) (cs := (dgA (digs 8 y1.val))) (fun _ hs => hs.at 1 rfl) dgQ_part1 Tryd.underlying26 rfl (by kernel_rfl) ?_
 refine kp (d := some 21) (v := .pointer (some ⟨w.heap.size, 8, none⟩)) ?_
 refine k_part (by kernel_rfl) (d := (some 22)) (by kernel_rfl) (ty := 26) (x := (.tmp 21)) (by kernel_rfl) (b := w.heap.size) (off := 8) (by kernel_rfl) (all := (dgQ x0.val x1.val)) (cs := (dgA (digs 8 x1.val))) (fun _ hs => hs.at 0 rfl) dgQ_part1 Tryd.underlying26 rfl (by kernel_rfl) ?_
 refine kp (d := some 23) (v := .pointer (some ⟨w.heap.size + 1, 0, none⟩)) ?_
 refine k_part (by kernel_rfl) (d := (some 24)) (by kernel_rfl) (ty := 26) (x := (.tmp 23)) (by kernel_rfl) (b := w.heap.size + 1) (off := 0) (by kernel_rfl) (all := (dgQ y0.val y1.val)) (cs := (dgA (digs 8 y0.val))) (fun _ hs => hs.at 1 rfl) dgQ_part0 Tryd.underlying26 rfl (by kernel_rfl) ?_
 refine kc (d := some 9) (f := 60) (args := #[.agg (dgA (digs 8 x0.val)), .agg (dgA (digs 8 y0.val))]) (v := .agg (dgA (digs 8 ((x0 * y0).val)))) (mulZ_c _ _) (fun w1 hb1 => ⟨K0d.go hb1, ?_⟩)
 have K1 := K0d.go hb1
 refine kc (d := some 14) (f := 60) (args := #[.agg (dgA (digs 8 x1.val)), .agg (dgA (digs 8 y1.val))]) (v := .agg (dgA (digs 8 ((x1 * y1).val)))) (mulZ_c _ _) (fun w2 hb2 => ⟨K1.go hb2, ?_⟩)
 have K2 := K1.go hb2
 refine kc (d := some 15) (f := 59) (args := #[.agg (dgA (digs 8 ((x0 * y0).val))), .agg (dgA (digs 8 ((x1 * y1).val)))]) (v := .agg (dgA (digs 8 ((x0 * y0 - x1 * y1).val)))) (subZ_c _ _) (fun w3 hb3 => ⟨K2.go hb3, ?_⟩)
 have K3 := K2.go hb3
 refine kc (d := some 20) (f := 60) (args := #[.agg (dgA (digs 8 x0.val)), .agg (dgA (digs 8 y1.val))]) (v := .agg (dgA (digs 8 ((x0 * y1).val)))) (mulZ_c _ _) (fun w4 hb4 => ⟨K3.go hb4, ?_⟩)
 have K4 := K3.go hb4
 refine kc (d := some 25) (f := 60) (args := #[.agg (dgA (digs 8 x1.val)), .agg (dgA (digs 8 y0.val))]) (v := .agg (dgA (digs 8 ((x1 * y0).val)))) (mulZ_c _ _) (fun w5 hb5 => ⟨K4.go hb5, ?_⟩)
 have K5 := K4.go hb5
 refine kc (d := some 26) (f := 61) (args := #[.agg (dgA (digs 8 ((x0 * y1).val))), .agg (dgA (digs 8 ((x1 * y0).val)))]) (v := .agg (dgA (digs 8 ((x0 * y1 + x1 * y0).val)))) (addZ_c _ _) (fun w6 hb6 => ⟨K5.go hb6, ?_⟩)
 have K6 := K5.go hb6
 refine kp (d := some 27) (v := .agg (dgQ ((x0 * y0 - x1 * y1).val) ((x0 * y1 + x1 * y0).val))) ?_
 obtain ⟨T, old, hold, hT⟩ := K6.room _ (List.mem_cons_self ..)
 have KF := K6.put (cs := (dgQ ((x0 * y0 - x1 * y1).val) ((x0 * y1 + x1 * y0).val))) (by kernel_rfl) (by omega) (neC (by omega) (neC (by omega) ne0))
 refine k_store (by kernel_rfl) (d := none) (by kernel_rfl) (ty := 39) (x := (.tmp 4)) (y := (.tmp 27)) (by kernel_rfl) (g := w.heap.size + 1 + 1) (cells := (dgQ ((x0 * y0 - x1 * y1).val) ((x0 * y1 + x1 * y0).val))) (by kernel_rfl) (by kernel_rfl) hT (by kernel_rfl) (hold.trans (by kernel_rfl)) (all_dgQ _ _) ⟨KF, ?_⟩
 have hR := setRow_heap _ _ _ (dgQ ((x0 * y0 - x1 * y1).val) ((x0 * y1 + x1 * y0).val)) _ _ hT
 refine k_end ?_
 have KB := KF.nb
 go_simp
 go_wp2_with fail
 exact bodyPost_ret_by (results_cell_row rfl _ _ (w.heap.size + 1 + 1) _ (dgQ ((x0 * y0 - x1 * y1).val) ((x0 * y1 + x1 * y0).val)) _ _ rfl hR Tryd.underlying39 rfl (by kernel_rfl)) rfl ⟨rfl, KB⟩
set_option maxRecDepth 100000 in
set_option maxHeartbeats 1000000 in
theorem both_c {w : World} {a b : Nat} :
   Calls Tryd.prog 64 #[.agg (fps [a, b])] w fun e w' => e = .returned (.agg (fps [a, b])) ∧ Below w.heap.size w w' := by
 go_enter Tryd.func64, Tryd.ntmps64
 go_upto_region 1 with (fail)
 have K0 : Kept w [(w.heap.size, (fps [a, b]))] [(w.heap.size + 1, 32)] ((w.alloc (.cells (fps [a, b]) 33)).alloc (.cells #[.int .u8 0, .int .u8 0, .int .u8 0, .int .u8 0, .int .u8 0, .int .u8 0, .int .u8 0, .int .u8 0, .int .u8 0, .int .u8 0, .int .u8 0, .int .u8 0, .int .u8 0, .int .u8 0, .int .u8 0, .int .u8 0, .int .u8 0, .int .u8 0, .int .u8 0, .int .u8 0, .int .u8 0, .int .u8 0, .int .u8 0, .int .u8 0, .int .u8 0, .int .u8 0, .int .u8 0, .int .u8 0, .int .u8 0, .int .u8 0, .int .u8 0, .int .u8 0] 83)) := Kept.one (nb_alloc (nb_alloc (Below.refl _ _) _) _) (rowsC ⟨_, hp2_0 (w := w) (.cells (fps [a, b]) 33) (.cells #[.int .u8 0, .int .u8 0, .int .u8 0, .int .u8 0, .int .u8 0, .int .u8 0, .int .u8 0, .int .u8 0, .int .u8 0, .int .u8 0, .int .u8 0, .int .u8 0, .int .u8 0, .int .u8 0, .int .u8 0, .int .u8 0, .int .u8 0, .int .u8 0, .int .u8 0, .int .u8 0, .int .u8 0, .int .u8 0, .int .u8 0, .int .u8 0, .int .u8 0, .int .u8 0, .int .u8 0, .int .u8 0, .int .u8 0, .int .u8 0, .int .u8 0, .int .u8 0] 83)⟩ rows0) rfl (hp2_1 (w := w) (.cells (fps [a, b]) 33) (.cells #[.int .u8 0, .int .u8 0, .int .u8 0, .int .u8 0, .int .u8 0, .int .u8 0, .int .u8 0, .int .u8 0, .int .u8 0, .int .u8 0, .int .u8 0, .int .u8 0, .int .u8 0, .int .u8 0, .int .u8 0, .int .u8 0, .int .u8 0, .int .u8 0, .int .u8 0, .int .u8 0, .int .u8 0, .int .u8 0, .int .u8 0, .int .u8 0, .int .u8 0, .int .u8 0, .int .u8 0, .int .u8 0, .int .u8 0, .int .u8 0, .int .u8 0, .int .u8 0] 83))
 obtain ⟨W0, hW⟩ : ∃ W0 : World, W0 = ((w.alloc (.cells (fps [a, b]) 33)).alloc (.cells #[.int .u8 0, .int .u8 0, .int .u8 0, .int .u8 0, .int .u8 0, .int .u8 0, .int .u8 0, .int .u8 0, .int .u8 0, .int .u8 0, .int .u8 0, .int .u8 0, .int .u8 0, .int .u8 0, .int .u8 0, .int .u8 0, .int .u8 0, .int .u8 0, .int .u8 0, .int .u8 0, .int .u8 0, .int .u8 0, .int .u8 0, .int .u8 0, .int .u8 0, .int .u8 0, .int .u8 0, .int .u8 0, .int .u8 0, .int .u8 0, .int .u8 0, .int .u8 0] 83)) := ⟨_, rfl⟩
 rw [← hW] at K0 ⊢
 clear hW
 refine wsA (opsAt Tryd.f64 1) ((true, 0) :: (true, 1) :: (true, 2) :: (true, 3) :: (true, 4) :: (false, 5) :: []) (Kept w [(w.heap.size, (fps [a, b]))] [(w.heap.size + 1, 32)]) K0 ?_
 refine kp (d := some 3) (v := .pointer (some ⟨w.heap.size, 0, none⟩)) ?_
 refine k_part (by kernel_rfl) (d := (some 4)) (by kernel_rfl) (ty := 22) (x := (.tmp 3)) (by kernel_rfl) (b := w.heap.size) (off := 0) (by kernel_rfl) (all := (fps [a, b])) (cs := (fpC a)) (fun _ hs => hs.at 0 rfl) fps_part0 Tryd.underlying22 rfl (by kernel_rfl) ?_
 refine kp (d := some 5) (v := .pointer (some ⟨w.heap.size, 16, none⟩)) ?_
 refine k_part (by kernel_rfl) (d := (some 6)) (by kernel_rfl) (ty := 22) (x := (.tmp 5)) (by kernel_rfl) (b := w.heap.size) (off := 16) (by kernel_rfl) (all := (fps [a, b])) (cs := (fpC b)) (fun _ hs => hs.at 0 rfl) fps_part1 Tryd.underlying22 rfl (by kernel_rfl) ?_
 refine kp (d := some 7) (v := .agg (fps [a, b])) ?_
 obtain ⟨T, old, hold, hT⟩ := K0.room _ (List.mem_cons_self ..)
 have KF := K0.put (cs := (fps [a, b])) (by kernel_rfl) (by omega) (neC (by omega) ne0)
 refine k_store (by kernel_rfl) (d := none) (by kernel_rfl) (ty := 83) (x := (.tmp 2)) (y := (.tmp 7)) (by kernel_rfl) (g := w.heap.size + 1) (cells := (fps [a, b])) (by kernel_rfl) (by kernel_rfl) hT (by kernel_rfl) (hold.trans (by kernel_rfl)) (all_fps2 _ _) ⟨KF, ?_⟩
 have hR := setRow_heap _ _ _ (fps [a, b]) _ _ hT
 refine k_end ?_
 have KB := KF.nb
 go_simp
 go_wp2_with fail
 exact bodyPost_ret_by (results_cell_row rfl _ _ (w.heap.size + 1) _ (fps [a, b]) _ _ rfl hR Tryd.underlying83 rfl (by kernel_rfl)) rfl ⟨rfl, KB⟩
set_option maxRecDepth 100000 in
set_option maxHeartbeats 1000000 in
theorem lows_c {w : World} {a b : Nat} (hm : ModW w) (ha : LowB a) (hb : LowB b) :
   Calls Tryd.prog 62 #[.agg (fps [a, b])] w fun e w' => e = .returned (.agg (fps [a % pp, b % pp])) ∧ Below w.heap.size w w' := by
 go_enter Tryd.func62, Tryd.ntmps62
 go_upto_region 1 with (fail)
 have K0 : Kept w [(w.heap.size, (fps [a, b]))] [(w.heap.size + 1, 32)] ((w.alloc (.cells (fps [a, b]) 83)).alloc (.cells #[.int .u8 0, .int .u8 0, .int .u8 0, .int .u8 0, .int .u8 0, .int .u8 0, .int .u8 0, .int .u8 0, .int .u8 0, .int .u8 0, .int .u8 0, .int .u8 0, .int .u8 0, .int .u8 0, .int .u8 0, .int .u8 0, .int .u8 0, .int .u8 0, .int .u8 0, .int .u8 0, .int .u8 0, .int .u8 0, .int .u8 0, .int .u8 0, .int .u8 0, .int .u8 0, .int .u8 0, .int .u8 0, .int .u8 0, .int .u8 0, .int .u8 0, .int .u8 0] 33)) := Kept.one (nb_alloc (nb_alloc (Below.refl _ _) _) _) (rowsC ⟨_, hp2_0 (w := w) (.cells (fps [a, b]) 83) (.cells #[.int .u8 0, .int .u8 0, .int .u8 0, .int .u8 0, .int .u8 0, .int .u8 0, .int .u8 0, .int .u8 0, .int .u8 0, .int .u8 0, .int .u8 0, .int .u8 0, .int .u8 0, .int .u8 0, .int .u8 0, .int .u8 0, .int .u8 0, .int .u8 0, .int .u8 0, .int .u8 0, .int .u8 0, .int .u8 0, .int .u8 0, .int .u8 0, .int .u8 0, .int .u8 0, .int .u8 0, .int .u8 0, .int .u8 0, .int .u8 0, .int .u8 0, .int .u8 0] 33)⟩ rows0) rfl (hp2_1 (w := w) (.cells (fps [a, b]) 83) (.cells #[.int .u8 0, .int .u8 0, .int .u8 0, .int .u8 0, .int .u8 0, .int .u8 0, .int .u8 0, .int .u8 0, .int .u8 0, .int .u8 0, .int .u8 0, .int .u8 0, .int .u8 0, .int .u8 0, .int .u8 0, .int .u8 0, .int .u8 0, .int .u8 0, .int .u8 0, .int .u8 0, .int .u8 0, .int .u8 0, .int .u8 0, .int .u8 0, .int .u8 0, .int .u8 0, .int .u8 0, .int .u8 0, .int .u8 0, .int .u8 0, .int .u8 0, .int .u8 0] 33))
 obtain ⟨W0, hW⟩ : ∃ W0 : World, W0 = ((w.alloc (.cells (fps [a, b]) 83)).alloc (.cells #[.int .u8 0, .int .u8 0, .int .u8 0, .int .u8 0, .int .u8 0, .int .u8 0, .int .u8 0, .int .u8 0, .int .u8 0, .int .u8 0, .int .u8 0, .int .u8 0, .int .u8 0, .int .u8 0, .int .u8 0, .int .u8 0, .int .u8 0, .int .u8 0, .int .u8 0, .int .u8 0, .int .u8 0, .int .u8 0, .int .u8 0, .int .u8 0, .int .u8 0, .int .u8 0, .int .u8 0, .int .u8 0, .int .u8 0, .int .u8 0, .int .u8 0, .int .u8 0] 33)) := ⟨_, rfl⟩
 rw [← hW] at K0 ⊢
 clear hW
 refine wrA (opsAt Tryd.f62 1) ((true, 0) :: (true, 1) :: (true, 3) :: (true, 4) :: (false, 2) :: (false, 5) :: (true, 6) :: (false, 7) :: []) (Kept w [(w.heap.size, (fps [a, b]))] [(w.heap.size + 1, 32)]) K0.drew ?_
 have K0d := K0.drew
 refine kp (d := some 3) (v := .pointer (some ⟨w.heap.size, 0, none⟩)) ?_
 refine k_part (by kernel_rfl) (d := (some 4)) (by kernel_rfl) (ty := 73) (x := (.tmp 3)) (by kernel_rfl) (b := w.heap.size) (off := 0) (by kernel_rfl) (all := (fps [a, b])) (cs := (fpC a)) (fun _ hs => hs.at 0 rfl) fps_part0 Tryd.underlying73 rfl (by kernel_rfl) ?_
 refine kp (d := some 6) (v := .pointer (some ⟨w.heap.size, 16, none⟩)) ?_
 refine k_part (by kernel_rfl) (d := (some 7)) (by kernel_rfl) (ty := 73) (x := (.tmp 6)) (by kernel_rfl) (b := w.heap.size) (off := 16) (by kernel_rfl) (all := (fps [a, b])) (cs := (fpC b)) (fun _ hs => hs.at 0 rfl) fps_part1 Tryd.underlying73 rfl (by kernel_rfl) ?_
 refine kc (d := some 5) (f := 82) (args := #[.agg (fpC a)]) (v := .agg (fpC ((a % pp)))) (implLow (hm.nb K0d.nb) ha) (fun w1 hb1 => ⟨K0d.go hb1, ?_⟩)
 have K1 := K0d.go hb1
 refine kc (d := some 8) (f := 82) (args := #[.agg (fpC b)]) (v := .agg (fpC ((b % pp)))) (implLow (hm.nb K1.nb) hb) (fun w2 hb2 => ⟨K1.go hb2, ?_⟩)
 have K2 := K1.go hb2
 refine kp (d := some 9) (v := .agg (fps [(a % pp), (b % pp)])) ?_
 obtain ⟨T, old, hold, hT⟩ := K2.room _ (List.mem_cons_self ..)
 have KF := K2.put (cs := (fps [(a % pp), (b % pp)])) (by kernel_rfl) (by omega) (neC (by omega) ne0)
 refine k_store (by kernel_rfl) (d := none) (by kernel_rfl) (ty := 33) (x := (.tmp 2)) (y := (.tmp 9)) (by kernel_rfl) (g := w.heap.size + 1) (cells := (fps [(a % pp), (b % pp)])) (by kernel_rfl) (by kernel_rfl) hT (by kernel_rfl) (hold.trans (by kernel_rfl)) (all_fps2 _ _) ⟨KF, ?_⟩
 have hR := setRow_heap _ _ _ (fps [(a % pp), (b % pp)]) _ _ hT
 refine k_end ?_
 have KB := KF.nb
 go_simp
 go_wp2_with fail
 exact bodyPost_ret_by (results_cell_row rfl _ _ (w.heap.size + 1) _ (fps [(a % pp), (b % pp)]) _ _ rfl hR Tryd.underlying33 rfl (by kernel_rfl)) rfl ⟨rfl, KB⟩
set_option maxRecDepth 100000 in
set_option maxHeartbeats 1000000 in
theorem isQ_c {w : World} {a b : Nat} {x0 x1 : Zp} (ha : a < 256 ^ 16) (hb : b < 256 ^ 16) :
   Calls Tryd.prog 30 #[.agg (fps [a, b]), .agg (dgQ x0.val x1.val)] w fun e w' => e = .returned (.bool (decide (a = x0.val) && decide (b = x1.val))) ∧ Below w.heap.size w w' := by
 go_enter Tryd.func30, Tryd.ntmps30
 go_upto_region 1 with (fail)
 have K0 : Kept w [(w.heap.size, (fps [a, b])), (w.heap.size + 1, (dgQ x0.val x1.val))] [] ((w.alloc (.cells (fps [a, b]) 33)).alloc (.cells (dgQ x0.val x1.val) 39)) := Kept.zero (nb_alloc (nb_alloc (Below.refl _ _) _) _) (rowsC ⟨_, hp2_0 (w := w) (.cells (fps [a, b]) 33) (.cells (dgQ x0.val x1.val) 39)⟩ (rowsC ⟨_, hp2_1 (w := w) (.cells (fps [a, b]) 33) (.cells (dgQ x0.val x1.val) 39)⟩ rows0))
 obtain ⟨W0, hW⟩ : ∃ W0 : World, W0 = ((w.alloc (.cells (fps [a, b]) 33)).alloc (.cells (dgQ x0.val x1.val) 39)) := ⟨_, rfl⟩
 rw [← hW] at K0 ⊢
 clear hW
 refine wrA (opsAt Tryd.f30 1) ((true, 0) :: (true, 1) :: (false, 2) :: (true, 3) :: (true, 4) :: []) (Kept w [(w.heap.size, (fps [a, b])), (w.heap.size + 1, (dgQ x0.val x1.val))] []) K0.drew ?_
 have K0d := K0.drew
 refine k_row (by kernel_rfl) (d := (some 5)) (by kernel_rfl) (ty := 33) (x := (.tmp 2)) (by kernel_rfl) (b := w.heap.size) (by kernel_rfl) (cs := (fps [a, b])) (fun _ hs => hs.at 0 rfl) Tryd.underlying33 rfl (by kernel_rfl) ?_
 refine k_row (by kernel_rfl) (d := (some 6)) (by kernel_rfl) (ty := 39) (x := (.tmp 3)) (by kernel_rfl) (b := w.heap.size + 1) (by kernel_rfl) (cs := (dgQ x0.val x1.val)) (fun _ hs => hs.at 1 rfl) Tryd.underlying39 rfl (by kernel_rfl) ?_
 refine kc (d := some 7) (f := 27) (args := #[.agg (dgQ x0.val x1.val)]) (v := .agg (fps [x0.val, x1.val])) (bytesQ_c) (fun w1 hb1 => ⟨K0d.go hb1, ?_⟩)
 have K1 := K0d.go hb1
 refine k_eql (by kernel_rfl) (d := (some 8)) (by kernel_rfl) (ty := 33) (ty' := 33) (x := (.tmp 5)) (y := (.tmp 7)) (by kernel_rfl) (xs := (fps [a, b])) (ys := (fps [x0.val, x1.val])) (b := (decide (a = x0.val) && decide (b = x1.val))) (by kernel_rfl) (by kernel_rfl) (by kernel_rfl) (fun w' => eql_fps Tryd.underlying33 Tryd.underlying22 (by kernel_rfl) (by kernel_rfl) Tryd.underlying5 ha hb (lt16 _) (lt16 _) w') ?_
 refine kp (d := some 4) (v := .bool (decide (a = x0.val) && decide (b = x1.val))) ?_
 refine k_end ?_
 have KB := K1.nb
 go_simp
 go_wp2_with fail
 exact bodyPost_ret_by (by kernel_rfl) (by kernel_rfl) ⟨rfl, KB⟩
theorem isQ_true {w : World} {a b : Nat} {x0 x1 : Zp} (ha : a = x0.val) (hb : b = x1.val) :
   Calls Tryd.prog 30 #[.agg (fps [a, b]), .agg (dgQ x0.val x1.val)] w fun e w' => e = .returned (.bool true) ∧ Below w.heap.size w w' := by
 subst ha hb
 have := isQ_c (w := w) (x0 := x0) (x1 := x1) (lt16 x0) (lt16 x1)
 rwa [decide_eq_true rfl, decide_eq_true rfl] at this
end Go.Proofs.YtfkfljohhabldaaDoor
namespace Go.FourQ
open Go.RowKit
theorem all2L {a b : Nat} (ha : LowB a) (hb : LowB b) : ∀ v ∈ [a, b], LowB v := fun v hv => by
 simp only [List.mem_cons, List.not_mem_nil, or_false] at hv
 rcases hv with rfl | rfl
 · exact ha
 · exact hb
theorem FpsZ.pair {w : World} {b : Nat} {x y : Zp} (h : FpsZ w b [x, y]) : AtQ w b 0 x y := ⟨h.atK (k := 0) rfl rfl, h.atK (k := 1) rfl rfl⟩
theorem FpsZ.two {w : World} {b u v : Nat} (h : Fps w b [u, v]) (hu : LowB u) (hv : LowB v) : FpsZ w b [zp u, zp v] := FpsZ.ofFps h (all2L hu hv)
theorem zero_fps2 : fps [0, 0] = #[.int .u8 0, .int .u8 0, .int .u8 0, .int .u8 0, .int .u8 0, .int .u8 0, .int .u8 0, .int .u8 0, .int .u8 0, .int .u8 0, .int .u8 0, .int .u8 0, .int .u8 0, .int .u8 0, .int .u8 0, .int .u8 0, .int .u8 0, .int .u8 0, .int .u8 0, .int .u8 0, .int .u8 0, .int .u8 0, .int .u8 0, .int .u8 0, .int .u8 0, .int .u8 0, .int .u8 0, .int .u8 0, .int .u8 0, .int .u8 0, .int .u8 0, .int .u8 0] := by rfl
end Go.FourQ
namespace Go.Proofs.YtfkfljohhabldaaDoor
open Go.RowKit Go.FourQ
theorem lowsZ_c {w : World} {u v : Nat} {x y : Zp} (hm : ModW w) (hu : LowB u) (hv : LowB v) (hx : zp u = x) (hy : zp v = y) :
   Calls Tryd.prog 62 #[.agg (fps [u, v])] w fun e w' => e = .returned (.agg (fps [x.val, y.val])) ∧ Below w.heap.size w w' := by
 subst hx hy
 exact lows_c hm hu hv
end Go.Proofs.YtfkfljohhabldaaDoor
namespace Go.FourQ
theorem neg_one_pow (j : Nat) : (-(1 : Zp)).pow (2 * j + 1) = -1 := by
 have h2 : (-(1 : Zp)).pow 2 = 1 := by decide +kernel
 rw [zpow_add, ← zpow_mul, h2, zone_pow, zpow_one, zone_mul]
theorem zneg_pow (a : Zp) (j : Nat) : (-a).pow (2 * j + 1) = -(a.pow (2 * j + 1)) := by
 have : -a = -1 * a := by rw [zneg_mul, zone_mul]
 rw [this, zmul_pow, neg_one_pow, zneg_mul, zone_mul]
/-- -1 is no square: a sum of two squares is 0 just where both are. -/
theorem sum_sq {x y : Zp} (h : x * x + y * y = 0) : x = 0 ∧ y = 0 := by
 have hx : x * x = -(y * y) := by
   have := zpR.eq_neg (a := y * y) (b := x * x) (by show y * y + x * x = 0; rw [zadd_comm]; exact h)
   exact this
 by_cases hy : y = 0
 · subst hy
   rw [zmul_zero, zneg_zero] at hx
   exact ⟨(zmul_eq_zero hx).elim id id, rfl⟩
 · exfalso
   have hx0 : x ≠ 0 := fun e => by
     subst e
     rw [zmul_zero] at hx
     have : y * y = 0 := by rw [← zneg_neg (y * y), ← hx, zneg_zero]
     exact zmul_ne hy hy this
   have e := congrArg (fun t : Zp => t.pow (2 * 42535295865117307932921825928971026431 + 1)) hx
   replace e : (x * x).pow (2 * 42535295865117307932921825928971026431 + 1) = (-(y * y)).pow (2 * 42535295865117307932921825928971026431 + 1) := e
   have sq : ∀ t : Zp, t * t = t.pow 2 := fun t => by rw [show 2 = 1 + 1 from rfl, zpow_add, zpow_one]
   rw [zneg_pow, sq, sq, zpow_mul, zpow_mul, show 2 * (2 * 42535295865117307932921825928971026431 + 1) = pp - 1 by decide +kernel, zfermat hx0, zfermat hy] at e
   exact absurd e (by decide +kernel)
theorem inv_pair {x y : Zp} (h : x * x + y * y ≠ 0) :
   x * (x * (x * x + y * y).inv) - y * (y * -(x * x + y * y).inv) = 1 ∧ x * (y * -(x * x + y * y).inv) + y * (x * (x * x + y * y).inv) = 0 := by
 have hi := zmul_inv h
 generalize (x * x + y * y).inv = t at *
 constructor
 · rw [← hi]
   exact ring_eq zpR (fun i => [x, y, t].getD i 0) (.sub (.mul (.v 0) (.mul (.v 0) (.v 2))) (.mul (.v 1) (.mul (.v 1) (.neg (.v 2))))) (.mul (.add (.mul (.v 0) (.v 0)) (.mul (.v 1) (.v 1))) (.v 2)) (by kernel_rfl)
 · exact ring_eq zpR (fun i => [x, y, t].getD i 0) (.add (.mul (.v 0) (.mul (.v 1) (.neg (.v 2)))) (.mul (.v 1) (.mul (.v 0) (.v 2)))) (.n 0) (by kernel_rfl)
end Go.FourQ
namespace Go.FourQ
theorem qz_assoc_0 (a0 a1 b0 b1 c0 c1 : Zp) : ((((a0 * b0) - (a1 * b1)) * c0) - (((a0 * b1) + (a1 * b0)) * c1)) = ((a0 * ((b0 * c0) - (b1 * c1))) - (a1 * ((b0 * c1) + (b1 * c0)))) := ring_eq zpR (fun i => [a0, a1, b0, b1, c0, c1].getD i 0) (.sub (.mul (.sub (.mul (.v 0) (.v 2)) (.mul (.v 1) (.v 3))) (.v 4)) (.mul (.add (.mul (.v 0) (.v 3)) (.mul (.v 1) (.v 2))) (.v 5))) (.sub (.mul (.v 0) (.sub (.mul (.v 2) (.v 4)) (.mul (.v 3) (.v 5)))) (.mul (.v 1) (.add (.mul (.v 2) (.v 5)) (.mul (.v 3) (.v 4))))) (by kernel_rfl)
theorem qz_assoc_1 (a0 a1 b0 b1 c0 c1 : Zp) : ((((a0 * b0) - (a1 * b1)) * c1) + (((a0 * b1) + (a1 * b0)) * c0)) = ((a0 * ((b0 * c1) + (b1 * c0))) + (a1 * ((b0 * c0) - (b1 * c1)))) := ring_eq zpR (fun i => [a0, a1, b0, b1, c0, c1].getD i 0) (.add (.mul (.sub (.mul (.v 0) (.v 2)) (.mul (.v 1) (.v 3))) (.v 5)) (.mul (.add (.mul (.v 0) (.v 3)) (.mul (.v 1) (.v 2))) (.v 4))) (.add (.mul (.v 0) (.add (.mul (.v 2) (.v 5)) (.mul (.v 3) (.v 4)))) (.mul (.v 1) (.sub (.mul (.v 2) (.v 4)) (.mul (.v 3) (.v 5))))) (by kernel_rfl)
theorem qz_comm_0 (a0 a1 b0 b1 : Zp) : ((a0 * b0) - (a1 * b1)) = ((b0 * a0) - (b1 * a1)) := ring_eq zpR (fun i => [a0, a1, b0, b1].getD i 0) (.sub (.mul (.v 0) (.v 2)) (.mul (.v 1) (.v 3))) (.sub (.mul (.v 2) (.v 0)) (.mul (.v 3) (.v 1))) (by kernel_rfl)
theorem qz_comm_1 (a0 a1 b0 b1 : Zp) : ((a0 * b1) + (a1 * b0)) = ((b0 * a1) + (b1 * a0)) := ring_eq zpR (fun i => [a0, a1, b0, b1].getD i 0) (.add (.mul (.v 0) (.v 3)) (.mul (.v 1) (.v 2))) (.add (.mul (.v 2) (.v 1)) (.mul (.v 3) (.v 0))) (by kernel_rfl)
theorem qz_dist_0 (a0 a1 b0 b1 c0 c1 : Zp) : ((a0 * (b0 + c0)) - (a1 * (b1 + c1))) = (((a0 * b0) - (a1 * b1)) + ((a0 * c0) - (a1 * c1))) := ring_eq zpR (fun i => [a0, a1, b0, b1, c0, c1].getD i 0) (.sub (.mul (.v 0) (.add (.v 2) (.v 4))) (.mul (.v 1) (.add (.v 3) (.v 5)))) (.add (.sub (.mul (.v 0) (.v 2)) (.mul (.v 1) (.v 3))) (.sub (.mul (.v 0) (.v 4)) (.mul (.v 1) (.v 5)))) (by kernel_rfl)
theorem qz_dist_1 (a0 a1 b0 b1 c0 c1 : Zp) : ((a0 * (b1 + c1)) + (a1 * (b0 + c0))) = (((a0 * b1) + (a1 * b0)) + ((a0 * c1) + (a1 * c0))) := ring_eq zpR (fun i => [a0, a1, b0, b1, c0, c1].getD i 0) (.add (.mul (.v 0) (.add (.v 3) (.v 5))) (.mul (.v 1) (.add (.v 2) (.v 4)))) (.add (.add (.mul (.v 0) (.v 3)) (.mul (.v 1) (.v 2))) (.add (.mul (.v 0) (.v 5)) (.mul (.v 1) (.v 4)))) (by kernel_rfl)
theorem qz_norm (a0 a1 b0 b1 : Zp) : ((((a0 * b0) - (a1 * b1)) * ((a0 * b0) - (a1 * b1))) + (((a0 * b1) + (a1 * b0)) * ((a0 * b1) + (a1 * b0)))) = (((a0 * a0) + (a1 * a1)) * ((b0 * b0) + (b1 * b1))) := ring_eq zpR (fun i => [a0, a1, b0, b1].getD i 0) (.add (.mul (.sub (.mul (.v 0) (.v 2)) (.mul (.v 1) (.v 3))) (.sub (.mul (.v 0) (.v 2)) (.mul (.v 1) (.v 3)))) (.mul (.add (.mul (.v 0) (.v 3)) (.mul (.v 1) (.v 2))) (.add (.mul (.v 0) (.v 3)) (.mul (.v 1) (.v 2))))) (.mul (.add (.mul (.v 0) (.v 0)) (.mul (.v 1) (.v 1))) (.add (.mul (.v 2) (.v 2)) (.mul (.v 3) (.v 3)))) (by kernel_rfl)
structure Zq where
 re : Zp
 im : Zp
theorem Zq.ext {a b : Zq} (h : a.re = b.re) (g : a.im = b.im) : a = b := by
 obtain ⟨x, y⟩ := a
 obtain ⟨u, v⟩ := b
 obtain rfl : x = u := h
 obtain rfl : y = v := g
 rfl
instance : DecidableEq Zq := fun a b => if h : a.re = b.re ∧ a.im = b.im then isTrue (Zq.ext h.1 h.2) else isFalse fun e => h ⟨congrArg Zq.re e, congrArg Zq.im e⟩
instance : Add Zq := ⟨fun a b => ⟨a.re + b.re, a.im + b.im⟩⟩
instance : Mul Zq := ⟨fun a b => ⟨a.re * b.re - a.im * b.im, a.re * b.im + a.im * b.re⟩⟩
instance : Neg Zq := ⟨fun a => ⟨-a.re, -a.im⟩⟩
instance : Sub Zq := ⟨fun a b => a + -b⟩
namespace Zq
protected def zero : Zq := ⟨0, 0⟩
protected def one : Zq := ⟨1, 0⟩
end Zq
instance : OfNat Zq 0 := ⟨Zq.zero⟩
instance : OfNat Zq 1 := ⟨Zq.one⟩
/-- The square field, as a ring. -/
def zqR : CR Zq := {
 zero := 0
 one := 1
 add := fun a b => a + b
 mul := fun a b => a * b
 neg := fun a => -a
 add_comm := fun a b => Zq.ext (zadd_comm _ _) (zadd_comm _ _)
 add_assoc := fun a b c => Zq.ext (zadd_assoc _ _ _) (zadd_assoc _ _ _)
 add_zero := fun a => Zq.ext (zadd_zero _) (zadd_zero _)
 add_neg := fun a => Zq.ext (zadd_neg _) (zadd_neg _)
 mul_comm := fun a b => Zq.ext (qz_comm_0 _ _ _ _) (qz_comm_1 _ _ _ _)
 mul_assoc := fun a b c => Zq.ext (qz_assoc_0 _ _ _ _ _ _) (qz_assoc_1 _ _ _ _ _ _)
 mul_one := fun a => Zq.ext
   (by show a.re * 1 + -(a.im * 0) = a.re; rw [zmul_one, zmul_zero, zneg_zero, zadd_zero])
   (by show a.re * 0 + a.im * 1 = a.im; rw [zmul_one, zmul_zero, zzero_add])
 mul_add := fun a b c => Zq.ext (qz_dist_0 _ _ _ _ _ _) (qz_dist_1 _ _ _ _ _ _) }
theorem qadd_comm (a b : Zq) : a + b = b + a := zqR.add_comm a b
theorem qadd_assoc (a b c : Zq) : a + b + c = a + (b + c) := zqR.add_assoc a b c
theorem qadd_zero (a : Zq) : a + 0 = a := zqR.add_zero a
theorem qzero_add (a : Zq) : 0 + a = a := zqR.zero_add a
theorem qadd_neg (a : Zq) : a + -a = 0 := zqR.add_neg a
theorem qmul_comm (a b : Zq) : a * b = b * a := zqR.mul_comm a b
theorem qmul_assoc (a b c : Zq) : a * b * c = a * (b * c) := zqR.mul_assoc a b c
theorem qmul_one (a : Zq) : a * 1 = a := zqR.mul_one a
theorem qone_mul (a : Zq) : 1 * a = a := zqR.one_mul a
theorem qadd_mul (a b c : Zq) : (a + b) * c = a * c + b * c := zqR.add_mul a b c
theorem qmul_zero (a : Zq) : a * 0 = 0 := zqR.mul_zero a
theorem qzero_mul (a : Zq) : 0 * a = 0 := zqR.zero_mul a
theorem qneg_mul (a b : Zq) : -a * b = -(a * b) := zqR.neg_mul a b
theorem qmul_neg (a b : Zq) : a * -b = -(a * b) := zqR.mul_neg a b
theorem qneg_neg (a : Zq) : - -a = a := zqR.neg_neg a
theorem qneg_zero : -(0 : Zq) = 0 := zqR.neg_zero
theorem qeq_of_sub {a b : Zq} (h : a - b = 0) : a = b := zqR.eq_of_sub h
theorem qsub_self (a : Zq) : a - a = 0 := qadd_neg a
theorem qone_ne_zero : (1 : Zq) ≠ 0 := fun h => one_ne_zero (congrArg Zq.re h)
/-- The norm. -/
def Zq.norm (a : Zq) : Zp := a.re * a.re + a.im * a.im
theorem norm_mul (a b : Zq) : (a * b).norm = a.norm * b.norm := qz_norm _ _ _ _
theorem norm_zero {a : Zq} (h : a.norm = 0) : a = 0 := Zq.ext (sum_sq h).1 (sum_sq h).2
theorem norm_ne {a : Zq} (h : a ≠ 0) : a.norm ≠ 0 := fun e => h (norm_zero e)
/-- The inverse; of 0 it is 0. -/
def Zq.inv (a : Zq) : Zq := ⟨a.re * a.norm.inv, a.im * -a.norm.inv⟩
theorem qmul_inv {a : Zq} (h : a ≠ 0) : a * a.inv = 1 := Zq.ext (inv_pair (norm_ne h)).1 (inv_pair (norm_ne h)).2
theorem qmul_cancel {a b c : Zq} (h : a ≠ 0) (e : a * b = a * c) : b = c := by
 have := congrArg (fun t => a.inv * t) e
 simp only [← qmul_assoc, qmul_comm a.inv a, qmul_inv h, qone_mul] at this
 exact this
theorem qmul_ne {a b : Zq} (ha : a ≠ 0) (hb : b ≠ 0) : a * b ≠ 0 := fun e => hb (qmul_cancel ha (e.trans (qmul_zero a).symm))
theorem qmul_eq_zero {a b : Zq} (h : a * b = 0) : a = 0 ∨ b = 0 := by
 by_cases ha : a = 0
 · exact .inl ha
 · exact .inr (qmul_cancel ha (h.trans (qmul_zero a).symm))
theorem q_mul_of {a c : Zq} (h : a ≠ 0) : a * (c * a.inv) = c := by
 rw [qmul_comm c, ← qmul_assoc, qmul_inv h, qone_mul]
/-- An element whose norm is no square has no root. -/
theorem q_nonsq {a : Zq} {E : Nat} (hE : 2 * E = pp - 1) (h0 : 0 < E) (h : a.norm.pow E = -1) (s : Zq) : s * s ≠ a := fun e => by
 subst e
 rw [norm_mul] at h
 by_cases hs : s.norm = 0
 · rw [hs, zmul_zero, zero_pow h0] at h
   exact absurd h (by decide +kernel)
 · rw [show ∀ t : Zp, t * t = t.pow 2 from fun t => by rw [show 2 = 1 + 1 from rfl, zpow_add, zpow_one], zpow_mul, hE, zfermat hs] at h
   exact absurd h (by decide +kernel)
/-- Powers, reckoned. -/
theorem zp_pwm (f n e : Nat) (h : e < 2 ^ f) : (zp n).pow e = zp (pwm pp f n e) := by
 rw [pwm_eq pp f n e h, ← zp_pow, zp_mod]
end Go.FourQ
namespace Go.Proofs.YtfkfljohhabldaaDoor
open Go.RowKit Go.FourQ
section
variable {w : World} {x y : Zq}
theorem mulQ_q : Calls Tryd.prog 25 #[.agg (dgQ x.re.val x.im.val), .agg (dgQ y.re.val y.im.val)] w fun e w' => e = .returned (.agg (dgQ (x * y).re.val (x * y).im.val)) ∧ Below w.heap.size w w' := mulQ_c
theorem addQ_q : Calls Tryd.prog 58 #[.agg (dgQ x.re.val x.im.val), .agg (dgQ y.re.val y.im.val)] w fun e w' => e = .returned (.agg (dgQ (x + y).re.val (x + y).im.val)) ∧ Below w.heap.size w w' := addQ_c
theorem subQ_q : Calls Tryd.prog 57 #[.agg (dgQ x.re.val x.im.val), .agg (dgQ y.re.val y.im.val)] w fun e w' => e = .returned (.agg (dgQ (x - y).re.val (x - y).im.val)) ∧ Below w.heap.size w w' := subQ_c
theorem ofQ_q : Calls Tryd.prog 19 #[.agg (fps [x.re.val, x.im.val])] w fun e w' => e = .returned (.agg (dgQ x.re.val x.im.val)) ∧ Below w.heap.size w w' := by
 have := ofQ_c (w := w) (lt16 x.re) (lt16 x.im)
 rwa [zp_val, zp_val] at this
theorem ofQ_b {a b : Nat} (ha : a < 256 ^ 16) (hb : b < 256 ^ 16) (hx : x = ⟨zp a, zp b⟩) : Calls Tryd.prog 19 #[.agg (fps [a, b])] w fun e w' => e = .returned (.agg (dgQ x.re.val x.im.val)) ∧ Below w.heap.size w w' := by
 subst hx; exact ofQ_c ha hb
end
theorem val8 (x : Zp) : x.val < 65536 ^ 8 := Nat.lt_trans x.lt (by decide +kernel)
theorem eqQ (x y : Zq) (w : World) : (binOp .eql 39 (.agg (dgQ x.re.val x.im.val)) (.agg (dgQ y.re.val y.im.val))).run Tryd.prog w = .ok (.bool (decide (x = y))) w := by
 rw [eql_dgQ (P := Tryd.prog) Tryd.underlying39 Tryd.underlying26 (by kernel_rfl) (by kernel_rfl) Tryd.underlying24 (val8 _) (val8 _) (val8 _) (val8 _) w]
 congr 2
 rw [Bool.eq_iff_iff, Bool.and_eq_true, decide_eq_true_eq, decide_eq_true_eq, decide_eq_true_eq]
 exact ⟨fun h => Zq.ext (Zp.ext h.1) (Zp.ext h.2), fun h => by rw [h]; exact ⟨rfl, rfl⟩⟩
theorem eqQ_t {x y : Zq} (h : x = y) (w : World) : (binOp .eql 39 (.agg (dgQ x.re.val x.im.val)) (.agg (dgQ y.re.val y.im.val))).run Tryd.prog w = .ok (.bool true) w := by rw [eqQ, decide_eq_true h]
theorem eqQ_f {x y : Zq} (h : x ≠ y) (w : World) : (binOp .eql 39 (.agg (dgQ x.re.val x.im.val)) (.agg (dgQ y.re.val y.im.val))).run Tryd.prog w = .ok (.bool false) w := by rw [eqQ, decide_eq_false h]
end Go.Proofs.YtfkfljohhabldaaDoor
namespace Go.FourQ
open Go.RowKit
/-- The digits that have been written after k rounds. -/
def nbF (lo hi k : Nat) (i : Nat) : Nat := if i < 4 then (if i < k then lo / 65536 ^ i % 65536 else 0) else (if i - 4 < k then hi / 65536 ^ (i - 4) % 65536 else 0)
theorem nb_zero (lo hi : Nat) : dF (nbF lo hi 0) = digs 8 0 := dF_ext (f := nbF lo hi 0) (g := fun _ => 0) (fun i hi => by unfold nbF; split <;> rfl)
theorem nb_step (lo hi k : Nat) (h : k < 4) : ((dF (nbF lo hi k)).set k (lo / 65536 ^ k % 65536)).set (4 + k) (hi / 65536 ^ k % 65536) = dF (nbF lo hi (k + 1)) := by
 refine List.ext_getElem? fun i => ?_
 by_cases hi8 : i < 8
 · rw [dF_get _ hi8]
   by_cases e1 : i = 4 + k
   · subst e1
     rw [List.getElem?_set_self (by rw [List.length_set, dF_length]; omega)]
     unfold nbF
     rw [if_neg (by omega), if_pos (by omega), show 4 + k - 4 = k by omega]
   · rw [List.getElem?_set_ne (Ne.symm e1)]
     by_cases e2 : i = k
     · subst e2
       rw [List.getElem?_set_self (by rw [dF_length]; omega)]
       unfold nbF
       rw [if_pos h, if_pos (by omega)]
     · rw [List.getElem?_set_ne (Ne.symm e2), dF_get _ hi8]
       unfold nbF
       congr 1
       by_cases h4 : i < 4
       · rw [if_pos h4, if_pos h4]
         by_cases h5 : i < k
         · rw [if_pos h5, if_pos (by omega)]
         · rw [if_neg h5, if_neg (by omega)]
       · rw [if_neg h4, if_neg h4]
         by_cases h5 : i - 4 < k
         · rw [if_pos h5, if_pos (by omega)]
         · rw [if_neg h5, if_neg (by omega)]
 · rw [List.getElem?_eq_none (by rw [List.length_set, List.length_set, dF_length]; omega), List.getElem?_eq_none (by rw [dF_length]; omega)]
theorem nb_full {lo hi : Nat} (hl : lo < 18446744073709551616) : dF (nbF lo hi 4) = digs 8 (lo + 18446744073709551616 * hi) := by
 rw [digs_dF]
 refine dF_ext fun i hi8 => ?_
 unfold nbF dg
 rcases (by omega : i = 0 ∨ i = 1 ∨ i = 2 ∨ i = 3 ∨ i = 4 ∨ i = 5 ∨ i = 6 ∨ i = 7) with rfl | rfl | rfl | rfl | rfl | rfl | rfl | rfl <;> simp only [Nat.reducePow, Nat.reduceLT, Nat.reduceSub, if_true, if_false] <;> omega
theorem and_dig (n k : Nat) (hn : n < 18446744073709551616) : bits .and .u64 ((n : Int) / 2 ^ (16 * k)) 65535 = ((n / 65536 ^ k % 65536 : Nat) : Int) := by
 have e : ((n : Int) / 2 ^ (16 * k)) = ((n / 65536 ^ k : Nat) : Int) := by
   have h : (65536 : Nat) ^ k = 2 ^ (16 * k) := by rw [show (65536 : Nat) = 2 ^ 16 from rfl, ← Nat.pow_mul]
   rw [h]
   norm_cast
 have hl : n / 65536 ^ k < 18446744073709551616 := Nat.lt_of_le_of_lt (Nat.div_le_self _ _) hn
 rw [e]
 have h := (bits_nat .u64 64 (by decide) (fun x h0 h1 => by rw [IntKind.wrap_u64]; omega) (n / 65536 ^ k) 65535 hl (by decide)).1
 rw [show n / 65536 ^ k &&& 65535 = n / 65536 ^ k % 65536 from Nat.and_two_pow_sub_one_eq_mod _ 16] at h
 exact h
end Go.FourQ
namespace Go.Proofs.YtfkfljohhabldaaDoor
open Go.RowKit Go.FourQ
set_option maxRecDepth 100000 in
set_option maxHeartbeats 4000000 in
theorem number_c (w : World) (hi lo : Nat) (hl : lo < 18446744073709551616) (hh : hi < 18446744073709551616) :
   Calls Tryd.prog 67 #[.int .u64 (hi : Int), .int .u64 (lo : Int)] w fun e w' => e = .returned (.agg (dgA (digs 8 (lo + 18446744073709551616 * hi)))) ∧ Below w.heap.size w w' := by
 have HF := Lib.hid (nb_full (hi := hi) hl)
 have HL := Lib.hid hl; have HH := Lib.hid hh
 clear hl hh
 go_enter Tryd.func67, Tryd.ntmps67
 go_wp2_with fail
 go_loopw [6] (fun i wr => ∃ k : Nat, k ≤ 4 ∧ i = .int .i64 k ∧ Ds wr w.heap.size (digs 8 0) ∧ Ds wr (w.heap.size + 1) (dF (nbF lo hi k)) ∧ Below w.heap.size w wr ∧ w.heap.size + 1 < wr.heap.size) (fun i _ => 4 - (intOf i).toNat)
 case atStart =>
   refine ⟨0, by decide, rfl, ?_, ?_, ?_, by simp⟩
   · exact (Ds.new _ (digs 8 0) _ _ _ rfl rfl).alloc _
   · rw [nb_zero]; exact Ds.new _ (digs 8 0) _ _ _ (by simp) rfl
   · exact ((Below.refl _ _).alloc (Nat.le_refl _) _).alloc (by simp) _
 case round =>
   obtain ⟨k, hk, rfl, hz, hd, hbel, hsz⟩ := hrel
   by_cases hlt : k < 4
   · have hst := nb_step lo hi k hlt
     have HST := Lib.hid hst
     have HD := Lib.hid hd; have HZ := Lib.hid hz
     clear hst hd hz
     have A1 := and_dig lo k HL.out
     have A2 := and_dig hi k HH.out
     obtain ⟨d1, hd1⟩ : ∃ d, lo / 65536 ^ k % 65536 = d := ⟨_, rfl⟩
     obtain ⟨d2, hd2⟩ : ∃ d, hi / 65536 ^ k % 65536 = d := ⟨_, rfl⟩
     rw [hd1] at A1
     rw [hd2] at A2
     have HD1 := Lib.hid hd1; have HD2 := Lib.hid hd2
     clear hd1 hd2
     obtain ⟨v1, c1⟩ : ∃ v, wr.cell? ⟨w.heap.size + 1, k, none⟩ = some v := ⟨_, HD.out.cell (dF_get (nbF lo hi k) (k := k) (by omega))⟩
     have f1 := HD.out.free k
     have u1 := HD.out.set k d1
     have U2 := Lib.hid (u1.set (4 + k) d2)
     obtain ⟨v2, c2⟩ : ∃ v, (wr.setCell ⟨w.heap.size + 1, k, none⟩ (.int .u64 (d1 : Int))).cell? ⟨w.heap.size + 1, 4 + k, none⟩ = some v := ⟨_, u1.cell (by rw [List.getElem?_set_ne (by omega)]; exact dF_get (nbF lo hi k) (k := 4 + k) (by omega))⟩
     have f2 := u1.free (4 + k)
     clear u1
     have hkI : (k : Int) < 4 := by omega
     have hkI2 : (k : Int) < 8 := by omega
     have hkI3 : (4 : Int) + (k : Int) < 8 := by omega
     go_wp2_with fail
     refine ⟨⟨k + 1, by omega, by go_num, ?_, ?_, ?_, by simpa using hsz⟩, by simp [intOf]; omega⟩
     · exact (HZ.out.setOther _ _ (by omega)).setOther _ _ (by omega)
     · have := U2.out
       rw [← HD1.out, ← HD2.out, HST.out, HD1.out, HD2.out] at this
       exact this
     · exact (hbel.setCell (p := ⟨w.heap.size + 1, k, none⟩) (by simp) _).setCell (p := ⟨w.heap.size + 1, 4 + k, none⟩) (by simp) _
   · have hk4 : k = 4 := by omega
     subst hk4
     rw [HF.out] at hd
     obtain ⟨T, hT⟩ := hd
     have HT := Lib.hid hT
     obtain ⟨T1, hT1⟩ := hz
     have HT1 := Lib.hid hT1
     clear hT1 hT
     go_wp2_with (first | (refine wpList_load_row rfl 26 _ rfl (w.heap.size + 1) rfl T _ _ _ HT.out Tryd.underlying26 rfl (by kernel_rfl) ?_) | (refine wpList_store_row rfl 26 _ _ rfl _ _ rfl rfl _ _ HT1.out (by kernel_rfl) (by rw [size_dgA, size_dgA, digs_length, digs_length]) (all_dgA _) ?_))
     exact bodyPost_ret_by (results_cell_row rfl _ _ (w.heap.size) _ _ _ _ rfl (setRow_heap _ _ _ _ _ _ HT1.out) Tryd.underlying26 rfl (by kernel_rfl)) rfl ⟨rfl, below_setRow hbel (by omega)⟩
end Go.Proofs.YtfkfljohhabldaaDoor
namespace Go.FourQ
/-- The constant d. -/
def dd : Zq := ⟨zp 4205857648805777768770, zp 125317048443780598345676279555970305165⟩
/-- A root of -1. -/
def ii : Zq := ⟨0, 1⟩
theorem ii_sq : ii * ii = -1 := by decide +kernel
theorem dd_norm : dd.norm = zp (4205857648805777768770 * 4205857648805777768770 + 125317048443780598345676279555970305165 * 125317048443780598345676279555970305165) := by decide +kernel
theorem dd_nonsq (s : Zq) : s * s ≠ dd := q_nonsq (E := 85070591730234615865843651857942052863) (by decide +kernel) (by decide) (by rw [dd_norm, zp_pwm 126 _ _ (by decide +kernel)]; decide +kernel) s
theorem two_ne {a : Zq} (h : a + a = 0) : a = 0 := by
 have h1 : a.re + a.re = 0 := congrArg Zq.re h
 have h2 : a.im + a.im = 0 := congrArg Zq.im h
 have key : ∀ t : Zp, t + t = 0 → t = 0 := fun t ht => by rw [← two_half t, ← zmul_comm half, ← zmul_add, ht, zmul_zero]
 exact Zq.ext (key _ h1) (key _ h2)
/-- These coordinates are a point's. -/
def OnC (x y : Zq) : Prop := y * y - x * x = 1 + dd * (x * x * (y * y))
section
variable (x1 y1 x2 y2 x3 y3 : Zq)
def cv : Nat → Zq := fun i => [x1, y1, x2, y2, x3, y3, dd].getD i 0
/-- The curve's equation at the variables i, j, as an expression. -/
def eqx (i j : Nat) : Ex := .sub (.sub (.mul (.v j) (.v j)) (.mul (.v i) (.v i))) (.add (.n 1) (.mul (.v 6) (.mul (.mul (.v i) (.v i)) (.mul (.v j) (.v j)))))
end
theorem eqx_zero (ρ : Nat → Zq) (i j : Nat) (hd : ρ 6 = dd) (h : OnC (ρ i) (ρ j)) : (eqx i j).den zqR ρ = 0 := by
 show ρ j * ρ j - ρ i * ρ i - (zqR.int 1 + ρ 6 * (ρ i * ρ i * (ρ j * ρ j))) = 0
 rw [hd, show zqR.int 1 = 1 from zqR.int_one]
 have h' : ρ j * ρ j - ρ i * ρ i = 1 + dd * (ρ i * ρ i * (ρ j * ρ j)) := h
 rw [h', qsub_self]
/-- An expression that lies in the ideal of three equations. -/
theorem ideal3 (ρ : Nat → Zq) (l r q1 q2 q3 e1 e2 e3 : Ex) (h1 : e1.den zqR ρ = 0) (h2 : e2.den zqR ρ = 0) (h3 : e3.den zqR ρ = 0)
   (h : (Ex.sub (.sub l r) (.add (.mul q1 e1) (.add (.mul q2 e2) (.mul q3 e3)))).norm = []) : l.den zqR ρ = r.den zqR ρ := by
 have e := ring_eq zqR ρ (.sub l r) (.add (.mul q1 e1) (.add (.mul q2 e2) (.mul q3 e3))) h
 refine zqR.eq_of_sub ?_
 refine Eq.trans (b := (Ex.sub l r).den zqR ρ) rfl (e.trans ?_)
 show q1.den zqR ρ * e1.den zqR ρ + (q2.den zqR ρ * e2.den zqR ρ + q3.den zqR ρ * e3.den zqR ρ) = 0
 rw [h1, h2, h3, qmul_zero, qmul_zero, qmul_zero, qadd_zero, qadd_zero]
/-- The step of completeness. -/
theorem compl_step {x1 y1 x2 y2 t j : Zq} (hj : j * j = -1) (ht : t = dd * (x1 * x2 * (y1 * y2))) (h1 : t * t = 1) (c1 : OnC x1 y1) (c2 : OnC x2 y2) :
   (j * x1 + t * y1) * (j * x1 + t * y1) = dd * ((x1 * y1 * (j * x2 + y2)) * (x1 * y1 * (j * x2 + y2))) := by
 have k1 : (j * x1 + t * y1) * (j * x1 + t * y1) = j * j * (x1 * x1) + t * t * (y1 * y1) + (j * (x1 * y1) * t + j * (x1 * y1) * t) :=
   ring_eq zqR (fun i => [x1, y1, t, j].getD i 0) (.mul (.add (.mul (.v 3) (.v 0)) (.mul (.v 2) (.v 1))) (.add (.mul (.v 3) (.v 0)) (.mul (.v 2) (.v 1)))) (.add (.add (.mul (.mul (.v 3) (.v 3)) (.mul (.v 0) (.v 0))) (.mul (.mul (.v 2) (.v 2)) (.mul (.v 1) (.v 1)))) (.add (.mul (.mul (.v 3) (.mul (.v 0) (.v 1))) (.v 2)) (.mul (.mul (.v 3) (.mul (.v 0) (.v 1))) (.v 2)))) (by kernel_rfl)
 have k2 : dd * ((x1 * y1 * (j * x2 + y2)) * (x1 * y1 * (j * x2 + y2))) = dd * (x1 * x1 * (y1 * y1)) * (j * j * (x2 * x2) + y2 * y2) + (j * (x1 * y1) * (dd * (x1 * x2 * (y1 * y2))) + j * (x1 * y1) * (dd * (x1 * x2 * (y1 * y2)))) :=
   ring_eq zqR (fun i => [x1, y1, x2, y2, j, dd].getD i 0) (.mul (.v 5) (.mul (.mul (.mul (.v 0) (.v 1)) (.add (.mul (.v 4) (.v 2)) (.v 3))) (.mul (.mul (.v 0) (.v 1)) (.add (.mul (.v 4) (.v 2)) (.v 3))))) (.add (.mul (.mul (.v 5) (.mul (.mul (.v 0) (.v 0)) (.mul (.v 1) (.v 1)))) (.add (.mul (.mul (.v 4) (.v 4)) (.mul (.v 2) (.v 2))) (.mul (.v 3) (.v 3)))) (.add (.mul (.mul (.v 4) (.mul (.v 0) (.v 1))) (.mul (.v 5) (.mul (.mul (.v 0) (.v 2)) (.mul (.v 1) (.v 3))))) (.mul (.mul (.v 4) (.mul (.v 0) (.v 1))) (.mul (.v 5) (.mul (.mul (.v 0) (.v 2)) (.mul (.v 1) (.v 3))))))) (by kernel_rfl)
 have k3 : -1 * (x2 * x2) + y2 * y2 = 1 + dd * (x2 * x2 * (y2 * y2)) := by
   rw [← c2, qneg_mul, qone_mul, qadd_comm]; rfl
 have k4 : dd * (x1 * x1 * (y1 * y1)) * (1 + dd * (x2 * x2 * (y2 * y2))) = dd * (x1 * x1 * (y1 * y1)) + dd * (x1 * x2 * (y1 * y2)) * (dd * (x1 * x2 * (y1 * y2))) :=
   ring_eq zqR (fun i => [x1, y1, x2, y2, dd].getD i 0) (.mul (.mul (.v 4) (.mul (.mul (.v 0) (.v 0)) (.mul (.v 1) (.v 1)))) (.add (.n 1) (.mul (.v 4) (.mul (.mul (.v 2) (.v 2)) (.mul (.v 3) (.v 3)))))) (.add (.mul (.v 4) (.mul (.mul (.v 0) (.v 0)) (.mul (.v 1) (.v 1)))) (.mul (.mul (.v 4) (.mul (.mul (.v 0) (.v 2)) (.mul (.v 1) (.v 3)))) (.mul (.v 4) (.mul (.mul (.v 0) (.v 2)) (.mul (.v 1) (.v 3)))))) (by kernel_rfl)
 have k5 : -1 * (x1 * x1) + 1 * (y1 * y1) = dd * (x1 * x1 * (y1 * y1)) + 1 := by
   rw [qadd_comm (dd * _), ← c1, qneg_mul, qone_mul, qone_mul, qadd_comm]; rfl
 rw [k1, k2, hj, h1, k3, k4, ← ht, h1, k5]
theorem compl_ne {x1 y1 x2 y2 t : Zq} (ht : t = dd * (x1 * x2 * (y1 * y2))) (h1 : t * t = 1) (c1 : OnC x1 y1) (c2 : OnC x2 y2) : False := by
 have ht0 : t ≠ 0 := fun e => by rw [e, qmul_zero] at h1; exact qone_ne_zero h1.symm
 have hn : x1 * x2 * (y1 * y2) ≠ 0 := fun e => ht0 (by rw [ht, e, qmul_zero])
 have hx1 : x1 ≠ 0 := fun e => hn (by rw [e, qzero_mul, qzero_mul])
 have hy1 : y1 ≠ 0 := fun e => hn (by rw [e, qzero_mul, qmul_zero])
 have hy2 : y2 ≠ 0 := fun e => hn (by rw [e, qmul_zero, qmul_zero])
 have go : ∀ j : Zq, j * j = -1 → j * x2 + y2 ≠ 0 → False := fun j hj hne => by
   have e := compl_step hj ht h1 c1 c2
   have hm : x1 * y1 * (j * x2 + y2) ≠ 0 := qmul_ne (qmul_ne hx1 hy1) hne
   generalize x1 * y1 * (j * x2 + y2) = m at e hm
   generalize j * x1 + t * y1 = u at e
   refine dd_nonsq (u * m.inv) ?_
   have hi := qmul_inv hm
   have k : u * m.inv * (u * m.inv) = u * u * (m.inv * m.inv) := zqR.mul_mul_mul_comm u m.inv u m.inv
   have k' : dd * (m * m) * (m.inv * m.inv) = dd * ((m * m.inv) * (m * m.inv)) := by
     rw [qmul_assoc]; congr 1; exact zqR.mul_mul_mul_comm m m m.inv m.inv
   rw [k, e, k', hi, qmul_one, qmul_one]
 by_cases ha : ii * x2 + y2 = 0
 · by_cases hb : -ii * x2 + y2 = 0
   · refine hy2 (two_ne ?_)
     have : (ii * x2 + y2) + (-ii * x2 + y2) = y2 + y2 := by
       rw [qneg_mul, qadd_comm (-(ii * x2)), qadd_assoc, qadd_comm, qadd_assoc, qadd_assoc, qadd_comm (-(ii * x2)), qadd_neg, qadd_zero]
     rw [← this, ha, hb, qadd_zero]
   · exact go (-ii) (by rw [qneg_mul, qmul_neg, qneg_neg, ii_sq]) hb
 · exact go ii ii_sq ha
/-- The sum is complete. -/
theorem compl {x1 y1 x2 y2 : Zq} (c1 : OnC x1 y1) (c2 : OnC x2 y2) : 1 + dd * (x1 * x2 * (y1 * y2)) ≠ 0 ∧ 1 - dd * (x1 * x2 * (y1 * y2)) ≠ 0 := by
 constructor
 · intro e
   have ht : dd * (x1 * x2 * (y1 * y2)) = -1 := zqR.eq_neg e
   exact compl_ne rfl (by rw [ht, qneg_mul, qmul_neg, qneg_neg, qmul_one]) c1 c2
 · intro e
   have ht : dd * (x1 * x2 * (y1 * y2)) = 1 := (qeq_of_sub e).symm
   exact compl_ne rfl (by rw [ht, qmul_one]) c1 c2
/-- A point. -/
structure Pt where
 x : Zq
 y : Zq
 on : OnC x y
theorem Pt.ext {p q : Pt} (h : p.x = q.x) (g : p.y = q.y) : p = q := by
 obtain ⟨a, b, _⟩ := p
 obtain ⟨c, e, _⟩ := q
 obtain rfl : a = c := h
 obtain rfl : b = e := g
 rfl
instance : DecidableEq Pt := fun a b => if h : a.x = b.x ∧ a.y = b.y then isTrue (Pt.ext h.1 h.2) else isFalse fun e => h ⟨congrArg Pt.x e, congrArg Pt.y e⟩
/-- Numerators and divisors of a sum. -/
def nX (x1 y1 x2 y2 : Zq) : Zq := x1 * y2 + y1 * x2
def nY (x1 y1 x2 y2 : Zq) : Zq := y1 * y2 + x1 * x2
def nP (x1 y1 x2 y2 : Zq) : Zq := 1 + dd * (x1 * x2 * (y1 * y2))
def nM (x1 y1 x2 y2 : Zq) : Zq := 1 - dd * (x1 * x2 * (y1 * y2))
theorem sum_on {x1 y1 x2 y2 : Zq} (c1 : OnC x1 y1) (c2 : OnC x2 y2) : OnC (nX x1 y1 x2 y2 * (nP x1 y1 x2 y2).inv) (nY x1 y1 x2 y2 * (nM x1 y1 x2 y2).inv) := by
 obtain ⟨hp, hm⟩ := compl c1 c2
 have key : nY x1 y1 x2 y2 * nY x1 y1 x2 y2 * (nP x1 y1 x2 y2 * nP x1 y1 x2 y2) - nX x1 y1 x2 y2 * nX x1 y1 x2 y2 * (nM x1 y1 x2 y2 * nM x1 y1 x2 y2) = nP x1 y1 x2 y2 * nP x1 y1 x2 y2 * (nM x1 y1 x2 y2 * nM x1 y1 x2 y2) + dd * (nX x1 y1 x2 y2 * nX x1 y1 x2 y2 * (nY x1 y1 x2 y2 * nY x1 y1 x2 y2)) :=
   ideal3 (cv x1 y1 x2 y2 0 0) (.sub (.mul (.mul (.add (.mul (.v 1) (.v 3)) (.mul (.v 0) (.v 2))) (.add (.mul (.v 1) (.v 3)) (.mul (.v 0) (.v 2)))) (.mul (.add (.n 1) (.mul (.v 6) (.mul (.mul (.v 0) (.v 2)) (.mul (.v 1) (.v 3))))) (.add (.n 1) (.mul (.v 6) (.mul (.mul (.v 0) (.v 2)) (.mul (.v 1) (.v 3))))))) (.mul (.mul (.add (.mul (.v 0) (.v 3)) (.mul (.v 1) (.v 2))) (.add (.mul (.v 0) (.v 3)) (.mul (.v 1) (.v 2)))) (.mul (.sub (.n 1) (.mul (.v 6) (.mul (.mul (.v 0) (.v 2)) (.mul (.v 1) (.v 3))))) (.sub (.n 1) (.mul (.v 6) (.mul (.mul (.v 0) (.v 2)) (.mul (.v 1) (.v 3)))))))) (.add (.mul (.mul (.add (.n 1) (.mul (.v 6) (.mul (.mul (.v 0) (.v 2)) (.mul (.v 1) (.v 3))))) (.add (.n 1) (.mul (.v 6) (.mul (.mul (.v 0) (.v 2)) (.mul (.v 1) (.v 3)))))) (.mul (.sub (.n 1) (.mul (.v 6) (.mul (.mul (.v 0) (.v 2)) (.mul (.v 1) (.v 3))))) (.sub (.n 1) (.mul (.v 6) (.mul (.mul (.v 0) (.v 2)) (.mul (.v 1) (.v 3))))))) (.mul (.v 6) (.mul (.mul (.add (.mul (.v 0) (.v 3)) (.mul (.v 1) (.v 2))) (.add (.mul (.v 0) (.v 3)) (.mul (.v 1) (.v 2)))) (.mul (.add (.mul (.v 1) (.v 3)) (.mul (.v 0) (.v 2))) (.add (.mul (.v 1) (.v 3)) (.mul (.v 0) (.v 2)))))))
     (.add (.add (.add (.add (.add (.add (.add (.add (.add (.add (.add (.add (.add (.add (.mul (.mul (.mul (.mul (.mul (.mul (.mul (.mul (.mul (.mul (.mul (.mul (.mul (.mul (.v 0) (.v 0)) (.v 1)) (.v 1)) (.v 2)) (.v 2)) (.v 2)) (.v 2)) (.v 3)) (.v 3)) (.v 3)) (.v 3)) (.v 6)) (.v 6)) (.v 6)) (.neg (.mul (.mul (.mul (.mul (.mul (.mul (.mul (.mul (.mul (.mul (.mul (.v 0) (.v 0)) (.v 2)) (.v 2)) (.v 2)) (.v 2)) (.v 3)) (.v 3)) (.v 3)) (.v 3)) (.v 6)) (.v 6)))) (.neg (.mul (.mul (.mul (.mul (.mul (.mul (.mul (.mul (.v 0) (.v 0)) (.v 2)) (.v 2)) (.v 2)) (.v 2)) (.v 3)) (.v 3)) (.v 6)))) (.mul (.mul (.mul (.mul (.mul (.mul (.mul (.mul (.v 0) (.v 0)) (.v 2)) (.v 2)) (.v 3)) (.v 3)) (.v 3)) (.v 3)) (.v 6))) (.mul (.mul (.mul (.mul (.mul (.mul (.mul (.mul (.mul (.mul (.mul (.v 1) (.v 1)) (.v 2)) (.v 2)) (.v 2)) (.v 2)) (.v 3)) (.v 3)) (.v 3)) (.v 3)) (.v 6)) (.v 6))) (.mul (.mul (.mul (.mul (.mul (.mul (.mul (.mul (.v 1) (.v 1)) (.v 2)) (.v 2)) (.v 2)) (.v 2)) (.v 3)) (.v 3)) (.v 6))) (.neg (.mul (.mul (.mul (.mul (.mul (.mul (.mul (.mul (.v 1) (.v 1)) (.v 2)) (.v 2)) (.v 3)) (.v 3)) (.v 3)) (.v 3)) (.v 6)))) (.neg (.mul (.mul (.mul (.mul (.mul (.mul (.mul (.mul (.mul (.v 2) (.v 2)) (.v 2)) (.v 2)) (.v 3)) (.v 3)) (.v 3)) (.v 3)) (.v 6)) (.v 6)))) (.mul (.n (-2)) (.mul (.mul (.mul (.mul (.mul (.mul (.mul (.mul (.v 2) (.v 2)) (.v 2)) (.v 2)) (.v 3)) (.v 3)) (.v 3)) (.v 3)) (.v 6)))) (.mul (.n (-2)) (.mul (.mul (.mul (.mul (.mul (.v 2) (.v 2)) (.v 2)) (.v 2)) (.v 3)) (.v 3)))) (.mul (.mul (.mul (.v 2) (.v 2)) (.v 2)) (.v 2))) (.mul (.n 2) (.mul (.mul (.mul (.mul (.mul (.v 2) (.v 2)) (.v 3)) (.v 3)) (.v 3)) (.v 3)))) (.mul (.n (-2)) (.mul (.mul (.mul (.mul (.v 2) (.v 2)) (.v 3)) (.v 3)) (.v 6)))) (.mul (.n (-4)) (.mul (.mul (.mul (.v 2) (.v 2)) (.v 3)) (.v 3)))) (.mul (.mul (.mul (.v 3) (.v 3)) (.v 3)) (.v 3))) (.add (.add (.add (.add (.add (.add (.add (.add (.add (.add (.add (.add (.add (.add (.mul (.mul (.mul (.mul (.mul (.mul (.mul (.mul (.v 0) (.v 0)) (.v 0)) (.v 0)) (.v 2)) (.v 2)) (.v 3)) (.v 3)) (.v 6)) (.mul (.n 2) (.mul (.mul (.mul (.mul (.mul (.mul (.v 0) (.v 0)) (.v 2)) (.v 2)) (.v 3)) (.v 3)) (.v 6)))) (.mul (.n 2) (.mul (.mul (.mul (.mul (.mul (.v 0) (.v 0)) (.v 2)) (.v 2)) (.v 3)) (.v 3)))) (.neg (.mul (.mul (.mul (.v 0) (.v 0)) (.v 2)) (.v 2)))) (.mul (.mul (.mul (.v 0) (.v 0)) (.v 3)) (.v 3))) (.mul (.mul (.mul (.mul (.mul (.mul (.mul (.mul (.v 1) (.v 1)) (.v 1)) (.v 1)) (.v 2)) (.v 2)) (.v 3)) (.v 3)) (.v 6))) (.mul (.n (-2)) (.mul (.mul (.mul (.mul (.mul (.mul (.v 1) (.v 1)) (.v 2)) (.v 2)) (.v 3)) (.v 3)) (.v 6)))) (.mul (.n (-2)) (.mul (.mul (.mul (.mul (.mul (.v 1) (.v 1)) (.v 2)) (.v 2)) (.v 3)) (.v 3)))) (.mul (.mul (.mul (.v 1) (.v 1)) (.v 2)) (.v 2))) (.neg (.mul (.mul (.mul (.v 1) (.v 1)) (.v 3)) (.v 3)))) (.mul (.mul (.mul (.mul (.v 2) (.v 2)) (.v 3)) (.v 3)) (.v 6))) (.mul (.n 2) (.mul (.mul (.mul (.v 2) (.v 2)) (.v 3)) (.v 3)))) (.neg (.mul (.v 2) (.v 2)))) (.mul (.v 3) (.v 3))) (.n 1)) (.n 0) (eqx 0 1) (eqx 2 3) (.n 0) (eqx_zero _ 0 1 rfl c1) (eqx_zero _ 2 3 rfl c2) rfl (by kernel_rfl)
 have hp' : nP x1 y1 x2 y2 ≠ 0 := hp
 have hm' : nM x1 y1 x2 y2 ≠ 0 := hm
 have ip := qmul_inv hp'
 have im := qmul_inv hm'
 generalize nX x1 y1 x2 y2 = X at *
 generalize nY x1 y1 x2 y2 = Y at *
 generalize nP x1 y1 x2 y2 = P at *
 generalize nM x1 y1 x2 y2 = M at *
 have hpp : P * P * (M * M) ≠ 0 := qmul_ne (qmul_ne hp' hp') (qmul_ne hm' hm')
 refine qmul_cancel hpp ?_
 generalize P.inv = p at *
 generalize M.inv = m at *
 have g1 : P * P * (M * M) * (Y * m * (Y * m) - X * p * (X * p)) = Y * Y * (P * P) * (M * m * (M * m)) - X * X * (M * M) * (P * p * (P * p)) :=
   ring_eq zqR (fun i => [X, Y, P, M, p, m].getD i 0) (.mul (.mul (.mul (.v 2) (.v 2)) (.mul (.v 3) (.v 3))) (.sub (.mul (.mul (.v 1) (.v 5)) (.mul (.v 1) (.v 5))) (.mul (.mul (.v 0) (.v 4)) (.mul (.v 0) (.v 4))))) (.sub (.mul (.mul (.mul (.v 1) (.v 1)) (.mul (.v 2) (.v 2))) (.mul (.mul (.v 3) (.v 5)) (.mul (.v 3) (.v 5)))) (.mul (.mul (.mul (.v 0) (.v 0)) (.mul (.v 3) (.v 3))) (.mul (.mul (.v 2) (.v 4)) (.mul (.v 2) (.v 4))))) (by kernel_rfl)
 have g2 : P * P * (M * M) * (1 + dd * (X * p * (X * p) * (Y * m * (Y * m)))) = P * P * (M * M) + dd * (X * X * (Y * Y)) * (P * p * (P * p) * (M * m * (M * m))) :=
   ring_eq zqR (fun i => [X, Y, P, M, p, m, dd].getD i 0) (.mul (.mul (.mul (.v 2) (.v 2)) (.mul (.v 3) (.v 3))) (.add (.n 1) (.mul (.v 6) (.mul (.mul (.mul (.v 0) (.v 4)) (.mul (.v 0) (.v 4))) (.mul (.mul (.v 1) (.v 5)) (.mul (.v 1) (.v 5))))))) (.add (.mul (.mul (.v 2) (.v 2)) (.mul (.v 3) (.v 3))) (.mul (.mul (.v 6) (.mul (.mul (.v 0) (.v 0)) (.mul (.v 1) (.v 1)))) (.mul (.mul (.mul (.v 2) (.v 4)) (.mul (.v 2) (.v 4))) (.mul (.mul (.v 3) (.v 5)) (.mul (.v 3) (.v 5)))))) (by kernel_rfl)
 rw [g1, g2, ip, im, qmul_one, qmul_one, qmul_one, qmul_one, qmul_one, key]
instance : Add Pt := ⟨fun p q => ⟨_, _, sum_on p.on q.on⟩⟩
theorem add_x (p q : Pt) : (p + q).x = nX p.x p.y q.x q.y * (nP p.x p.y q.x q.y).inv := rfl
theorem add_y (p q : Pt) : (p + q).y = nY p.x p.y q.x q.y * (nM p.x p.y q.x q.y).inv := rfl
theorem nP_ne (p q : Pt) : nP p.x p.y q.x q.y ≠ 0 := (compl p.on q.on).1
theorem nM_ne (p q : Pt) : nM p.x p.y q.x q.y ≠ 0 := (compl p.on q.on).2
theorem mul_add_x (p q : Pt) : nP p.x p.y q.x q.y * (p + q).x = nX p.x p.y q.x q.y := q_mul_of (nP_ne p q)
theorem mul_add_y (p q : Pt) : nM p.x p.y q.x q.y * (p + q).y = nY p.x p.y q.x q.y := q_mul_of (nM_ne p q)
/-- A sum is told by its coordinates' products with the divisors. -/
theorem add_ext {p q r : Pt} (hx : nP p.x p.y q.x q.y * r.x = nX p.x p.y q.x q.y) (hy : nM p.x p.y q.x q.y * r.y = nY p.x p.y q.x q.y) : p + q = r :=
 Pt.ext (qmul_cancel (nP_ne p q) ((mul_add_x p q).trans hx.symm)) (qmul_cancel (nM_ne p q) ((mul_add_y p q).trans hy.symm))
theorem pt_comm (p q : Pt) : p + q = q + p := by
 refine Pt.ext ?_ ?_
 · rw [add_x, add_x]
   unfold nX nP
   rw [qmul_comm p.x q.y, qmul_comm p.y q.x, qadd_comm, qmul_comm p.x q.x, qmul_comm p.y q.y]
 · rw [add_y, add_y]
   unfold nY nM
   rw [qmul_comm p.x q.x, qmul_comm p.y q.y]
theorem on_zero : OnC 0 1 := by
 show (1 : Zq) * 1 - 0 * 0 = 1 + dd * (0 * 0 * (1 * 1))
 rw [qzero_mul, qzero_mul, qmul_zero, qmul_one]
 show (1 : Zq) + -0 = _
 rw [qneg_zero]
/-- The point that adds nothing. -/
def Pt.zero : Pt := ⟨0, 1, on_zero⟩
theorem pt_add_zero (p : Pt) : p + Pt.zero = p := by
 refine add_ext ?_ ?_
 · show (1 + dd * (p.x * 0 * (p.y * 1))) * p.x = p.x * 1 + p.y * 0
   rw [qmul_zero, qmul_zero, qzero_mul, qmul_zero, qadd_zero, qmul_one, qone_mul, qadd_zero]
 · show (1 + -(dd * (p.x * 0 * (p.y * 1)))) * p.y = p.y * 1 + p.x * 0
   rw [qmul_zero, qzero_mul, qmul_zero, qneg_zero, qadd_zero, qmul_one, qone_mul, qadd_zero]
theorem pt_zero_add (p : Pt) : Pt.zero + p = p := by rw [pt_comm, pt_add_zero]
theorem on_neg {x y : Zq} (h : OnC x y) : OnC (-x) y := by
 unfold OnC at *
 rw [qneg_mul, qmul_neg, qneg_neg, h]
/-- The opposite. -/
def Pt.neg (p : Pt) : Pt := ⟨-p.x, p.y, on_neg p.on⟩
theorem pt_add_neg (p : Pt) : p + p.neg = Pt.zero := by
 refine add_ext ?_ ?_
 · show _ * (0 : Zq) = p.x * p.y + p.y * -p.x
   rw [qmul_zero, qmul_neg, qmul_comm p.y, qadd_neg]
 · show (1 + -(dd * (p.x * -p.x * (p.y * p.y)))) * 1 = p.y * p.y + p.x * -p.x
   rw [qmul_one, qmul_neg, qneg_mul, qmul_neg, qneg_neg]
   exact p.on.symm
def ax_l : Ex := (.mul (.add (.mul (.mul (.add (.mul (.v 0) (.v 3)) (.mul (.v 1) (.v 2))) (.sub (.n 1) (.mul (.v 6) (.mul (.mul (.v 0) (.v 2)) (.mul (.v 1) (.v 3)))))) (.v 5)) (.mul (.mul (.add (.mul (.v 1) (.v 3)) (.mul (.v 0) (.v 2))) (.add (.n 1) (.mul (.v 6) (.mul (.mul (.v 0) (.v 2)) (.mul (.v 1) (.v 3)))))) (.v 4))) (.add (.mul (.add (.n 1) (.mul (.v 6) (.mul (.mul (.v 2) (.v 4)) (.mul (.v 3) (.v 5))))) (.sub (.n 1) (.mul (.v 6) (.mul (.mul (.v 2) (.v 4)) (.mul (.v 3) (.v 5)))))) (.mul (.v 6) (.mul (.mul (.v 0) (.add (.mul (.v 2) (.v 5)) (.mul (.v 3) (.v 4)))) (.mul (.v 1) (.add (.mul (.v 3) (.v 5)) (.mul (.v 2) (.v 4))))))))
def ax_r : Ex := (.mul (.add (.mul (.v 0) (.mul (.add (.mul (.v 3) (.v 5)) (.mul (.v 2) (.v 4))) (.add (.n 1) (.mul (.v 6) (.mul (.mul (.v 2) (.v 4)) (.mul (.v 3) (.v 5))))))) (.mul (.v 1) (.mul (.add (.mul (.v 2) (.v 5)) (.mul (.v 3) (.v 4))) (.sub (.n 1) (.mul (.v 6) (.mul (.mul (.v 2) (.v 4)) (.mul (.v 3) (.v 5)))))))) (.add (.mul (.add (.n 1) (.mul (.v 6) (.mul (.mul (.v 0) (.v 2)) (.mul (.v 1) (.v 3))))) (.sub (.n 1) (.mul (.v 6) (.mul (.mul (.v 0) (.v 2)) (.mul (.v 1) (.v 3)))))) (.mul (.v 6) (.mul (.mul (.add (.mul (.v 0) (.v 3)) (.mul (.v 1) (.v 2))) (.v 4)) (.mul (.add (.mul (.v 1) (.v 3)) (.mul (.v 0) (.v 2))) (.v 5))))))
def ax_1 : Ex := (.add (.add (.add (.add (.add (.add (.add (.add (.add (.add (.add (.add (.add (.add (.add (.neg (.mul (.mul (.mul (.mul (.mul (.mul (.mul (.mul (.mul (.mul (.mul (.mul (.v 0) (.v 2)) (.v 2)) (.v 2)) (.v 2)) (.v 3)) (.v 3)) (.v 3)) (.v 4)) (.v 4)) (.v 5)) (.v 6)) (.v 6))) (.neg (.mul (.mul (.mul (.mul (.mul (.mul (.mul (.mul (.mul (.v 0) (.v 2)) (.v 2)) (.v 2)) (.v 2)) (.v 3)) (.v 4)) (.v 4)) (.v 5)) (.v 6)))) (.neg (.mul (.mul (.mul (.mul (.mul (.mul (.mul (.mul (.mul (.mul (.mul (.mul (.v 0) (.v 2)) (.v 2)) (.v 2)) (.v 3)) (.v 3)) (.v 3)) (.v 3)) (.v 4)) (.v 5)) (.v 5)) (.v 6)) (.v 6)))) (.neg (.mul (.mul (.mul (.mul (.mul (.mul (.mul (.mul (.mul (.v 0) (.v 2)) (.v 2)) (.v 2)) (.v 3)) (.v 3)) (.v 4)) (.v 4)) (.v 4)) (.v 6)))) (.neg (.mul (.mul (.mul (.mul (.mul (.mul (.mul (.v 0) (.v 2)) (.v 2)) (.v 2)) (.v 3)) (.v 3)) (.v 4)) (.v 6)))) (.mul (.mul (.mul (.mul (.mul (.mul (.mul (.mul (.mul (.v 0) (.v 2)) (.v 2)) (.v 3)) (.v 3)) (.v 3)) (.v 5)) (.v 5)) (.v 5)) (.v 6))) (.neg (.mul (.mul (.mul (.mul (.mul (.mul (.mul (.v 0) (.v 2)) (.v 2)) (.v 3)) (.v 3)) (.v 3)) (.v 5)) (.v 6)))) (.mul (.mul (.mul (.mul (.mul (.mul (.mul (.mul (.mul (.v 0) (.v 2)) (.v 3)) (.v 3)) (.v 3)) (.v 3)) (.v 4)) (.v 5)) (.v 5)) (.v 6))) (.mul (.mul (.mul (.mul (.mul (.mul (.mul (.mul (.mul (.mul (.mul (.mul (.v 1) (.v 2)) (.v 2)) (.v 2)) (.v 2)) (.v 3)) (.v 3)) (.v 3)) (.v 4)) (.v 5)) (.v 5)) (.v 6)) (.v 6))) (.mul (.mul (.mul (.mul (.mul (.mul (.mul (.mul (.mul (.v 1) (.v 2)) (.v 2)) (.v 2)) (.v 2)) (.v 3)) (.v 4)) (.v 5)) (.v 5)) (.v 6))) (.mul (.mul (.mul (.mul (.mul (.mul (.mul (.mul (.mul (.mul (.mul (.mul (.v 1) (.v 2)) (.v 2)) (.v 2)) (.v 3)) (.v 3)) (.v 3)) (.v 3)) (.v 4)) (.v 4)) (.v 5)) (.v 6)) (.v 6))) (.mul (.mul (.mul (.mul (.mul (.mul (.mul (.mul (.mul (.v 1) (.v 2)) (.v 2)) (.v 2)) (.v 3)) (.v 3)) (.v 5)) (.v 5)) (.v 5)) (.v 6))) (.neg (.mul (.mul (.mul (.mul (.mul (.mul (.mul (.v 1) (.v 2)) (.v 2)) (.v 2)) (.v 3)) (.v 3)) (.v 5)) (.v 6)))) (.neg (.mul (.mul (.mul (.mul (.mul (.mul (.mul (.mul (.mul (.v 1) (.v 2)) (.v 2)) (.v 3)) (.v 3)) (.v 3)) (.v 4)) (.v 4)) (.v 4)) (.v 6)))) (.neg (.mul (.mul (.mul (.mul (.mul (.mul (.mul (.v 1) (.v 2)) (.v 2)) (.v 3)) (.v 3)) (.v 3)) (.v 4)) (.v 6)))) (.neg (.mul (.mul (.mul (.mul (.mul (.mul (.mul (.mul (.mul (.v 1) (.v 2)) (.v 3)) (.v 3)) (.v 3)) (.v 3)) (.v 4)) (.v 4)) (.v 5)) (.v 6))))
def ax_2 : Ex := (.add (.add (.add (.add (.add (.add (.add (.add (.add (.add (.add (.add (.add (.add (.add (.add (.add (.add (.add (.add (.add (.add (.add (.add (.add (.add (.add (.add (.add (.add (.add (.add (.add (.add (.add (.add (.add (.add (.add (.add (.add (.add (.add (.add (.add (.add (.add (.add (.add (.add (.add (.add (.add (.add (.add (.add (.add (.add (.add (.add (.add (.add (.add (.mul (.mul (.mul (.mul (.mul (.mul (.mul (.mul (.mul (.v 0) (.v 0)) (.v 0)) (.v 2)) (.v 2)) (.v 3)) (.v 4)) (.v 4)) (.v 5)) (.v 6)) (.mul (.mul (.mul (.mul (.mul (.mul (.mul (.mul (.mul (.v 0) (.v 0)) (.v 0)) (.v 2)) (.v 3)) (.v 3)) (.v 4)) (.v 5)) (.v 5)) (.v 6))) (.mul (.mul (.mul (.mul (.mul (.mul (.mul (.mul (.mul (.v 0) (.v 0)) (.v 0)) (.v 2)) (.v 4)) (.v 4)) (.v 4)) (.v 5)) (.v 5)) (.v 6))) (.mul (.mul (.mul (.mul (.mul (.mul (.v 0) (.v 0)) (.v 0)) (.v 2)) (.v 4)) (.v 4)) (.v 4))) (.neg (.mul (.mul (.mul (.mul (.mul (.mul (.v 0) (.v 0)) (.v 0)) (.v 2)) (.v 4)) (.v 5)) (.v 5)))) (.mul (.mul (.mul (.mul (.v 0) (.v 0)) (.v 0)) (.v 2)) (.v 4))) (.mul (.mul (.mul (.mul (.mul (.mul (.mul (.mul (.mul (.v 0) (.v 0)) (.v 0)) (.v 3)) (.v 4)) (.v 4)) (.v 5)) (.v 5)) (.v 5)) (.v 6))) (.mul (.mul (.mul (.mul (.mul (.mul (.v 0) (.v 0)) (.v 0)) (.v 3)) (.v 4)) (.v 4)) (.v 5))) (.neg (.mul (.mul (.mul (.mul (.mul (.mul (.v 0) (.v 0)) (.v 0)) (.v 3)) (.v 5)) (.v 5)) (.v 5)))) (.mul (.mul (.mul (.mul (.v 0) (.v 0)) (.v 0)) (.v 3)) (.v 5))) (.mul (.mul (.mul (.mul (.mul (.mul (.mul (.mul (.mul (.mul (.mul (.mul (.v 0) (.v 0)) (.v 1)) (.v 2)) (.v 2)) (.v 3)) (.v 4)) (.v 4)) (.v 4)) (.v 5)) (.v 5)) (.v 6)) (.v 6))) (.neg (.mul (.mul (.mul (.mul (.mul (.mul (.mul (.mul (.mul (.v 0) (.v 0)) (.v 1)) (.v 2)) (.v 2)) (.v 3)) (.v 4)) (.v 5)) (.v 5)) (.v 6)))) (.neg (.mul (.mul (.mul (.mul (.mul (.mul (.mul (.mul (.mul (.mul (.mul (.mul (.v 0) (.v 0)) (.v 1)) (.v 2)) (.v 3)) (.v 3)) (.v 4)) (.v 4)) (.v 5)) (.v 5)) (.v 5)) (.v 6)) (.v 6)))) (.neg (.mul (.mul (.mul (.mul (.mul (.mul (.mul (.mul (.mul (.v 0) (.v 0)) (.v 1)) (.v 2)) (.v 3)) (.v 3)) (.v 4)) (.v 4)) (.v 5)) (.v 6)))) (.mul (.mul (.mul (.mul (.mul (.mul (.mul (.mul (.mul (.v 0) (.v 0)) (.v 1)) (.v 2)) (.v 4)) (.v 4)) (.v 5)) (.v 5)) (.v 5)) (.v 6))) (.mul (.mul (.mul (.mul (.mul (.mul (.v 0) (.v 0)) (.v 1)) (.v 2)) (.v 4)) (.v 4)) (.v 5))) (.neg (.mul (.mul (.mul (.mul (.mul (.mul (.v 0) (.v 0)) (.v 1)) (.v 2)) (.v 5)) (.v 5)) (.v 5)))) (.mul (.mul (.mul (.mul (.v 0) (.v 0)) (.v 1)) (.v 2)) (.v 5))) (.mul (.mul (.mul (.mul (.mul (.mul (.mul (.mul (.mul (.v 0) (.v 0)) (.v 1)) (.v 3)) (.v 4)) (.v 4)) (.v 4)) (.v 5)) (.v 5)) (.v 6))) (.mul (.mul (.mul (.mul (.mul (.mul (.v 0) (.v 0)) (.v 1)) (.v 3)) (.v 4)) (.v 4)) (.v 4))) (.neg (.mul (.mul (.mul (.mul (.mul (.mul (.v 0) (.v 0)) (.v 1)) (.v 3)) (.v 4)) (.v 5)) (.v 5)))) (.mul (.mul (.mul (.mul (.v 0) (.v 0)) (.v 1)) (.v 3)) (.v 4))) (.neg (.mul (.mul (.mul (.mul (.mul (.mul (.mul (.mul (.mul (.mul (.mul (.mul (.v 0) (.v 1)) (.v 1)) (.v 2)) (.v 2)) (.v 3)) (.v 4)) (.v 4)) (.v 5)) (.v 5)) (.v 5)) (.v 6)) (.v 6)))) (.neg (.mul (.mul (.mul (.mul (.mul (.mul (.mul (.mul (.mul (.v 0) (.v 1)) (.v 1)) (.v 2)) (.v 2)) (.v 3)) (.v 4)) (.v 4)) (.v 5)) (.v 6)))) (.mul (.mul (.mul (.mul (.mul (.mul (.mul (.mul (.mul (.mul (.mul (.mul (.v 0) (.v 1)) (.v 1)) (.v 2)) (.v 3)) (.v 3)) (.v 4)) (.v 4)) (.v 4)) (.v 5)) (.v 5)) (.v 6)) (.v 6))) (.neg (.mul (.mul (.mul (.mul (.mul (.mul (.mul (.mul (.mul (.v 0) (.v 1)) (.v 1)) (.v 2)) (.v 3)) (.v 3)) (.v 4)) (.v 5)) (.v 5)) (.v 6)))) (.neg (.mul (.mul (.mul (.mul (.mul (.mul (.mul (.mul (.mul (.v 0) (.v 1)) (.v 1)) (.v 2)) (.v 4)) (.v 4)) (.v 4)) (.v 5)) (.v 5)) (.v 6)))) (.neg (.mul (.mul (.mul (.mul (.mul (.mul (.v 0) (.v 1)) (.v 1)) (.v 2)) (.v 4)) (.v 4)) (.v 4)))) (.mul (.mul (.mul (.mul (.mul (.mul (.v 0) (.v 1)) (.v 1)) (.v 2)) (.v 4)) (.v 5)) (.v 5))) (.neg (.mul (.mul (.mul (.mul (.v 0) (.v 1)) (.v 1)) (.v 2)) (.v 4)))) (.neg (.mul (.mul (.mul (.mul (.mul (.mul (.mul (.mul (.mul (.v 0) (.v 1)) (.v 1)) (.v 3)) (.v 4)) (.v 4)) (.v 5)) (.v 5)) (.v 5)) (.v 6)))) (.neg (.mul (.mul (.mul (.mul (.mul (.mul (.v 0) (.v 1)) (.v 1)) (.v 3)) (.v 4)) (.v 4)) (.v 5)))) (.mul (.mul (.mul (.mul (.mul (.mul (.v 0) (.v 1)) (.v 1)) (.v 3)) (.v 5)) (.v 5)) (.v 5))) (.neg (.mul (.mul (.mul (.mul (.v 0) (.v 1)) (.v 1)) (.v 3)) (.v 5)))) (.mul (.mul (.mul (.mul (.mul (.mul (.mul (.v 0) (.v 2)) (.v 2)) (.v 3)) (.v 4)) (.v 4)) (.v 5)) (.v 6))) (.mul (.mul (.mul (.mul (.mul (.mul (.mul (.v 0) (.v 2)) (.v 3)) (.v 3)) (.v 4)) (.v 5)) (.v 5)) (.v 6))) (.mul (.mul (.mul (.mul (.mul (.mul (.mul (.v 0) (.v 2)) (.v 4)) (.v 4)) (.v 4)) (.v 5)) (.v 5)) (.v 6))) (.mul (.mul (.mul (.mul (.v 0) (.v 2)) (.v 4)) (.v 4)) (.v 4))) (.neg (.mul (.mul (.mul (.mul (.v 0) (.v 2)) (.v 4)) (.v 5)) (.v 5)))) (.mul (.mul (.v 0) (.v 2)) (.v 4))) (.mul (.mul (.mul (.mul (.mul (.mul (.mul (.v 0) (.v 3)) (.v 4)) (.v 4)) (.v 5)) (.v 5)) (.v 5)) (.v 6))) (.mul (.mul (.mul (.mul (.v 0) (.v 3)) (.v 4)) (.v 4)) (.v 5))) (.neg (.mul (.mul (.mul (.mul (.v 0) (.v 3)) (.v 5)) (.v 5)) (.v 5)))) (.mul (.mul (.v 0) (.v 3)) (.v 5))) (.mul (.mul (.mul (.mul (.mul (.mul (.mul (.mul (.mul (.v 1) (.v 1)) (.v 1)) (.v 2)) (.v 2)) (.v 3)) (.v 4)) (.v 5)) (.v 5)) (.v 6))) (.mul (.mul (.mul (.mul (.mul (.mul (.mul (.mul (.mul (.v 1) (.v 1)) (.v 1)) (.v 2)) (.v 3)) (.v 3)) (.v 4)) (.v 4)) (.v 5)) (.v 6))) (.neg (.mul (.mul (.mul (.mul (.mul (.mul (.mul (.mul (.mul (.v 1) (.v 1)) (.v 1)) (.v 2)) (.v 4)) (.v 4)) (.v 5)) (.v 5)) (.v 5)) (.v 6)))) (.neg (.mul (.mul (.mul (.mul (.mul (.mul (.v 1) (.v 1)) (.v 1)) (.v 2)) (.v 4)) (.v 4)) (.v 5)))) (.mul (.mul (.mul (.mul (.mul (.mul (.v 1) (.v 1)) (.v 1)) (.v 2)) (.v 5)) (.v 5)) (.v 5))) (.neg (.mul (.mul (.mul (.mul (.v 1) (.v 1)) (.v 1)) (.v 2)) (.v 5)))) (.neg (.mul (.mul (.mul (.mul (.mul (.mul (.mul (.mul (.mul (.v 1) (.v 1)) (.v 1)) (.v 3)) (.v 4)) (.v 4)) (.v 4)) (.v 5)) (.v 5)) (.v 6)))) (.neg (.mul (.mul (.mul (.mul (.mul (.mul (.v 1) (.v 1)) (.v 1)) (.v 3)) (.v 4)) (.v 4)) (.v 4)))) (.mul (.mul (.mul (.mul (.mul (.mul (.v 1) (.v 1)) (.v 1)) (.v 3)) (.v 4)) (.v 5)) (.v 5))) (.neg (.mul (.mul (.mul (.mul (.v 1) (.v 1)) (.v 1)) (.v 3)) (.v 4)))) (.neg (.mul (.mul (.mul (.mul (.mul (.mul (.mul (.v 1) (.v 2)) (.v 2)) (.v 3)) (.v 4)) (.v 5)) (.v 5)) (.v 6)))) (.neg (.mul (.mul (.mul (.mul (.mul (.mul (.mul (.v 1) (.v 2)) (.v 3)) (.v 3)) (.v 4)) (.v 4)) (.v 5)) (.v 6)))) (.mul (.mul (.mul (.mul (.mul (.mul (.mul (.v 1) (.v 2)) (.v 4)) (.v 4)) (.v 5)) (.v 5)) (.v 5)) (.v 6))) (.mul (.mul (.mul (.mul (.v 1) (.v 2)) (.v 4)) (.v 4)) (.v 5))) (.neg (.mul (.mul (.mul (.mul (.v 1) (.v 2)) (.v 5)) (.v 5)) (.v 5)))) (.mul (.mul (.v 1) (.v 2)) (.v 5))) (.mul (.mul (.mul (.mul (.mul (.mul (.mul (.v 1) (.v 3)) (.v 4)) (.v 4)) (.v 4)) (.v 5)) (.v 5)) (.v 6))) (.mul (.mul (.mul (.mul (.v 1) (.v 3)) (.v 4)) (.v 4)) (.v 4))) (.neg (.mul (.mul (.mul (.mul (.v 1) (.v 3)) (.v 4)) (.v 5)) (.v 5)))) (.mul (.mul (.v 1) (.v 3)) (.v 4)))
def ax_3 : Ex := (.add (.add (.add (.add (.add (.add (.add (.add (.add (.add (.add (.add (.add (.add (.add (.add (.add (.add (.add (.add (.add (.add (.add (.add (.add (.add (.add (.add (.add (.add (.add (.add (.add (.add (.add (.add (.add (.add (.add (.neg (.mul (.mul (.mul (.mul (.mul (.mul (.v 0) (.v 0)) (.v 0)) (.v 2)) (.v 2)) (.v 2)) (.v 4))) (.neg (.mul (.mul (.mul (.mul (.mul (.mul (.v 0) (.v 0)) (.v 0)) (.v 2)) (.v 2)) (.v 3)) (.v 5)))) (.mul (.mul (.mul (.mul (.mul (.mul (.v 0) (.v 0)) (.v 0)) (.v 2)) (.v 3)) (.v 3)) (.v 4))) (.neg (.mul (.mul (.mul (.mul (.v 0) (.v 0)) (.v 0)) (.v 2)) (.v 4)))) (.mul (.mul (.mul (.mul (.mul (.mul (.v 0) (.v 0)) (.v 0)) (.v 3)) (.v 3)) (.v 3)) (.v 5))) (.neg (.mul (.mul (.mul (.mul (.v 0) (.v 0)) (.v 0)) (.v 3)) (.v 5)))) (.neg (.mul (.mul (.mul (.mul (.mul (.mul (.v 0) (.v 0)) (.v 1)) (.v 2)) (.v 2)) (.v 2)) (.v 5)))) (.neg (.mul (.mul (.mul (.mul (.mul (.mul (.mul (.v 0) (.v 0)) (.v 1)) (.v 2)) (.v 2)) (.v 3)) (.v 4)) (.v 6)))) (.neg (.mul (.mul (.mul (.mul (.mul (.mul (.v 0) (.v 0)) (.v 1)) (.v 2)) (.v 2)) (.v 3)) (.v 4)))) (.mul (.mul (.mul (.mul (.mul (.mul (.mul (.v 0) (.v 0)) (.v 1)) (.v 2)) (.v 3)) (.v 3)) (.v 5)) (.v 6))) (.mul (.mul (.mul (.mul (.mul (.mul (.v 0) (.v 0)) (.v 1)) (.v 2)) (.v 3)) (.v 3)) (.v 5))) (.neg (.mul (.mul (.mul (.mul (.v 0) (.v 0)) (.v 1)) (.v 2)) (.v 5)))) (.mul (.mul (.mul (.mul (.mul (.mul (.v 0) (.v 0)) (.v 1)) (.v 3)) (.v 3)) (.v 3)) (.v 4))) (.neg (.mul (.mul (.mul (.mul (.v 0) (.v 0)) (.v 1)) (.v 3)) (.v 4)))) (.mul (.mul (.mul (.mul (.mul (.mul (.v 0) (.v 1)) (.v 1)) (.v 2)) (.v 2)) (.v 2)) (.v 4))) (.mul (.mul (.mul (.mul (.mul (.mul (.mul (.v 0) (.v 1)) (.v 1)) (.v 2)) (.v 2)) (.v 3)) (.v 5)) (.v 6))) (.mul (.mul (.mul (.mul (.mul (.mul (.v 0) (.v 1)) (.v 1)) (.v 2)) (.v 2)) (.v 3)) (.v 5))) (.neg (.mul (.mul (.mul (.mul (.mul (.mul (.mul (.v 0) (.v 1)) (.v 1)) (.v 2)) (.v 3)) (.v 3)) (.v 4)) (.v 6)))) (.neg (.mul (.mul (.mul (.mul (.mul (.mul (.v 0) (.v 1)) (.v 1)) (.v 2)) (.v 3)) (.v 3)) (.v 4)))) (.mul (.mul (.mul (.mul (.v 0) (.v 1)) (.v 1)) (.v 2)) (.v 4))) (.neg (.mul (.mul (.mul (.mul (.mul (.mul (.v 0) (.v 1)) (.v 1)) (.v 3)) (.v 3)) (.v 3)) (.v 5)))) (.mul (.mul (.mul (.mul (.v 0) (.v 1)) (.v 1)) (.v 3)) (.v 5))) (.neg (.mul (.mul (.mul (.mul (.v 0) (.v 2)) (.v 2)) (.v 2)) (.v 4)))) (.neg (.mul (.mul (.mul (.mul (.v 0) (.v 2)) (.v 2)) (.v 3)) (.v 5)))) (.mul (.mul (.mul (.mul (.v 0) (.v 2)) (.v 3)) (.v 3)) (.v 4))) (.neg (.mul (.mul (.v 0) (.v 2)) (.v 4)))) (.mul (.mul (.mul (.mul (.v 0) (.v 3)) (.v 3)) (.v 3)) (.v 5))) (.neg (.mul (.mul (.v 0) (.v 3)) (.v 5)))) (.mul (.mul (.mul (.mul (.mul (.mul (.v 1) (.v 1)) (.v 1)) (.v 2)) (.v 2)) (.v 2)) (.v 5))) (.mul (.mul (.mul (.mul (.mul (.mul (.v 1) (.v 1)) (.v 1)) (.v 2)) (.v 2)) (.v 3)) (.v 4))) (.neg (.mul (.mul (.mul (.mul (.mul (.mul (.v 1) (.v 1)) (.v 1)) (.v 2)) (.v 3)) (.v 3)) (.v 5)))) (.mul (.mul (.mul (.mul (.v 1) (.v 1)) (.v 1)) (.v 2)) (.v 5))) (.neg (.mul (.mul (.mul (.mul (.mul (.mul (.v 1) (.v 1)) (.v 1)) (.v 3)) (.v 3)) (.v 3)) (.v 4)))) (.mul (.mul (.mul (.mul (.v 1) (.v 1)) (.v 1)) (.v 3)) (.v 4))) (.neg (.mul (.mul (.mul (.mul (.v 1) (.v 2)) (.v 2)) (.v 2)) (.v 5)))) (.neg (.mul (.mul (.mul (.mul (.v 1) (.v 2)) (.v 2)) (.v 3)) (.v 4)))) (.mul (.mul (.mul (.mul (.v 1) (.v 2)) (.v 3)) (.v 3)) (.v 5))) (.neg (.mul (.mul (.v 1) (.v 2)) (.v 5)))) (.mul (.mul (.mul (.mul (.v 1) (.v 3)) (.v 3)) (.v 3)) (.v 4))) (.neg (.mul (.mul (.v 1) (.v 3)) (.v 4))))
theorem ax_norm : (Ex.sub (.sub ax_l ax_r) (.add (.mul ax_1 (eqx 0 1)) (.add (.mul ax_2 (eqx 2 3)) (.mul ax_3 (eqx 4 5))))).norm = [] := by kernel_rfl
def ay_l : Ex := (.mul (.add (.mul (.mul (.add (.mul (.v 1) (.v 3)) (.mul (.v 0) (.v 2))) (.add (.n 1) (.mul (.v 6) (.mul (.mul (.v 0) (.v 2)) (.mul (.v 1) (.v 3)))))) (.v 5)) (.mul (.mul (.add (.mul (.v 0) (.v 3)) (.mul (.v 1) (.v 2))) (.sub (.n 1) (.mul (.v 6) (.mul (.mul (.v 0) (.v 2)) (.mul (.v 1) (.v 3)))))) (.v 4))) (.sub (.mul (.add (.n 1) (.mul (.v 6) (.mul (.mul (.v 2) (.v 4)) (.mul (.v 3) (.v 5))))) (.sub (.n 1) (.mul (.v 6) (.mul (.mul (.v 2) (.v 4)) (.mul (.v 3) (.v 5)))))) (.mul (.v 6) (.mul (.mul (.v 0) (.add (.mul (.v 2) (.v 5)) (.mul (.v 3) (.v 4)))) (.mul (.v 1) (.add (.mul (.v 3) (.v 5)) (.mul (.v 2) (.v 4))))))))
def ay_r : Ex := (.mul (.add (.mul (.v 1) (.mul (.add (.mul (.v 3) (.v 5)) (.mul (.v 2) (.v 4))) (.add (.n 1) (.mul (.v 6) (.mul (.mul (.v 2) (.v 4)) (.mul (.v 3) (.v 5))))))) (.mul (.v 0) (.mul (.add (.mul (.v 2) (.v 5)) (.mul (.v 3) (.v 4))) (.sub (.n 1) (.mul (.v 6) (.mul (.mul (.v 2) (.v 4)) (.mul (.v 3) (.v 5)))))))) (.sub (.mul (.add (.n 1) (.mul (.v 6) (.mul (.mul (.v 0) (.v 2)) (.mul (.v 1) (.v 3))))) (.sub (.n 1) (.mul (.v 6) (.mul (.mul (.v 0) (.v 2)) (.mul (.v 1) (.v 3)))))) (.mul (.v 6) (.mul (.mul (.add (.mul (.v 0) (.v 3)) (.mul (.v 1) (.v 2))) (.v 4)) (.mul (.add (.mul (.v 1) (.v 3)) (.mul (.v 0) (.v 2))) (.v 5))))))
def ay_1 : Ex := (.add (.add (.add (.add (.add (.add (.add (.add (.add (.add (.add (.add (.add (.add (.add (.mul (.mul (.mul (.mul (.mul (.mul (.mul (.mul (.mul (.mul (.mul (.mul (.v 0) (.v 2)) (.v 2)) (.v 2)) (.v 2)) (.v 3)) (.v 3)) (.v 3)) (.v 4)) (.v 5)) (.v 5)) (.v 6)) (.v 6)) (.mul (.mul (.mul (.mul (.mul (.mul (.mul (.mul (.mul (.v 0) (.v 2)) (.v 2)) (.v 2)) (.v 2)) (.v 3)) (.v 4)) (.v 5)) (.v 5)) (.v 6))) (.mul (.mul (.mul (.mul (.mul (.mul (.mul (.mul (.mul (.mul (.mul (.mul (.v 0) (.v 2)) (.v 2)) (.v 2)) (.v 3)) (.v 3)) (.v 3)) (.v 3)) (.v 4)) (.v 4)) (.v 5)) (.v 6)) (.v 6))) (.mul (.mul (.mul (.mul (.mul (.mul (.mul (.mul (.mul (.v 0) (.v 2)) (.v 2)) (.v 2)) (.v 3)) (.v 3)) (.v 5)) (.v 5)) (.v 5)) (.v 6))) (.neg (.mul (.mul (.mul (.mul (.mul (.mul (.mul (.v 0) (.v 2)) (.v 2)) (.v 2)) (.v 3)) (.v 3)) (.v 5)) (.v 6)))) (.neg (.mul (.mul (.mul (.mul (.mul (.mul (.mul (.mul (.mul (.v 0) (.v 2)) (.v 2)) (.v 3)) (.v 3)) (.v 3)) (.v 4)) (.v 4)) (.v 4)) (.v 6)))) (.neg (.mul (.mul (.mul (.mul (.mul (.mul (.mul (.v 0) (.v 2)) (.v 2)) (.v 3)) (.v 3)) (.v 3)) (.v 4)) (.v 6)))) (.neg (.mul (.mul (.mul (.mul (.mul (.mul (.mul (.mul (.mul (.v 0) (.v 2)) (.v 3)) (.v 3)) (.v 3)) (.v 3)) (.v 4)) (.v 4)) (.v 5)) (.v 6)))) (.neg (.mul (.mul (.mul (.mul (.mul (.mul (.mul (.mul (.mul (.mul (.mul (.mul (.v 1) (.v 2)) (.v 2)) (.v 2)) (.v 2)) (.v 3)) (.v 3)) (.v 3)) (.v 4)) (.v 4)) (.v 5)) (.v 6)) (.v 6)))) (.neg (.mul (.mul (.mul (.mul (.mul (.mul (.mul (.mul (.mul (.v 1) (.v 2)) (.v 2)) (.v 2)) (.v 2)) (.v 3)) (.v 4)) (.v 4)) (.v 5)) (.v 6)))) (.neg (.mul (.mul (.mul (.mul (.mul (.mul (.mul (.mul (.mul (.mul (.mul (.mul (.v 1) (.v 2)) (.v 2)) (.v 2)) (.v 3)) (.v 3)) (.v 3)) (.v 3)) (.v 4)) (.v 5)) (.v 5)) (.v 6)) (.v 6)))) (.neg (.mul (.mul (.mul (.mul (.mul (.mul (.mul (.mul (.mul (.v 1) (.v 2)) (.v 2)) (.v 2)) (.v 3)) (.v 3)) (.v 4)) (.v 4)) (.v 4)) (.v 6)))) (.neg (.mul (.mul (.mul (.mul (.mul (.mul (.mul (.v 1) (.v 2)) (.v 2)) (.v 2)) (.v 3)) (.v 3)) (.v 4)) (.v 6)))) (.mul (.mul (.mul (.mul (.mul (.mul (.mul (.mul (.mul (.v 1) (.v 2)) (.v 2)) (.v 3)) (.v 3)) (.v 3)) (.v 5)) (.v 5)) (.v 5)) (.v 6))) (.neg (.mul (.mul (.mul (.mul (.mul (.mul (.mul (.v 1) (.v 2)) (.v 2)) (.v 3)) (.v 3)) (.v 3)) (.v 5)) (.v 6)))) (.mul (.mul (.mul (.mul (.mul (.mul (.mul (.mul (.mul (.v 1) (.v 2)) (.v 3)) (.v 3)) (.v 3)) (.v 3)) (.v 4)) (.v 5)) (.v 5)) (.v 6)))
def ay_2 : Ex := (.add (.add (.add (.add (.add (.add (.add (.add (.add (.add (.add (.add (.add (.add (.add (.add (.add (.add (.add (.add (.add (.add (.add (.add (.add (.add (.add (.add (.add (.add (.add (.add (.add (.add (.add (.add (.add (.add (.add (.add (.add (.add (.add (.add (.add (.add (.add (.add (.add (.add (.add (.add (.add (.add (.add (.add (.add (.add (.add (.add (.add (.add (.add (.neg (.mul (.mul (.mul (.mul (.mul (.mul (.mul (.mul (.mul (.v 0) (.v 0)) (.v 0)) (.v 2)) (.v 2)) (.v 3)) (.v 4)) (.v 5)) (.v 5)) (.v 6))) (.neg (.mul (.mul (.mul (.mul (.mul (.mul (.mul (.mul (.mul (.v 0) (.v 0)) (.v 0)) (.v 2)) (.v 3)) (.v 3)) (.v 4)) (.v 4)) (.v 5)) (.v 6)))) (.mul (.mul (.mul (.mul (.mul (.mul (.mul (.mul (.mul (.v 0) (.v 0)) (.v 0)) (.v 2)) (.v 4)) (.v 4)) (.v 5)) (.v 5)) (.v 5)) (.v 6))) (.mul (.mul (.mul (.mul (.mul (.mul (.v 0) (.v 0)) (.v 0)) (.v 2)) (.v 4)) (.v 4)) (.v 5))) (.neg (.mul (.mul (.mul (.mul (.mul (.mul (.v 0) (.v 0)) (.v 0)) (.v 2)) (.v 5)) (.v 5)) (.v 5)))) (.mul (.mul (.mul (.mul (.v 0) (.v 0)) (.v 0)) (.v 2)) (.v 5))) (.mul (.mul (.mul (.mul (.mul (.mul (.mul (.mul (.mul (.v 0) (.v 0)) (.v 0)) (.v 3)) (.v 4)) (.v 4)) (.v 4)) (.v 5)) (.v 5)) (.v 6))) (.mul (.mul (.mul (.mul (.mul (.mul (.v 0) (.v 0)) (.v 0)) (.v 3)) (.v 4)) (.v 4)) (.v 4))) (.neg (.mul (.mul (.mul (.mul (.mul (.mul (.v 0) (.v 0)) (.v 0)) (.v 3)) (.v 4)) (.v 5)) (.v 5)))) (.mul (.mul (.mul (.mul (.v 0) (.v 0)) (.v 0)) (.v 3)) (.v 4))) (.mul (.mul (.mul (.mul (.mul (.mul (.mul (.mul (.mul (.mul (.mul (.mul (.v 0) (.v 0)) (.v 1)) (.v 2)) (.v 2)) (.v 3)) (.v 4)) (.v 4)) (.v 5)) (.v 5)) (.v 5)) (.v 6)) (.v 6))) (.mul (.mul (.mul (.mul (.mul (.mul (.mul (.mul (.mul (.v 0) (.v 0)) (.v 1)) (.v 2)) (.v 2)) (.v 3)) (.v 4)) (.v 4)) (.v 5)) (.v 6))) (.neg (.mul (.mul (.mul (.mul (.mul (.mul (.mul (.mul (.mul (.mul (.mul (.mul (.v 0) (.v 0)) (.v 1)) (.v 2)) (.v 3)) (.v 3)) (.v 4)) (.v 4)) (.v 4)) (.v 5)) (.v 5)) (.v 6)) (.v 6)))) (.mul (.mul (.mul (.mul (.mul (.mul (.mul (.mul (.mul (.v 0) (.v 0)) (.v 1)) (.v 2)) (.v 3)) (.v 3)) (.v 4)) (.v 5)) (.v 5)) (.v 6))) (.mul (.mul (.mul (.mul (.mul (.mul (.mul (.mul (.mul (.v 0) (.v 0)) (.v 1)) (.v 2)) (.v 4)) (.v 4)) (.v 4)) (.v 5)) (.v 5)) (.v 6))) (.mul (.mul (.mul (.mul (.mul (.mul (.v 0) (.v 0)) (.v 1)) (.v 2)) (.v 4)) (.v 4)) (.v 4))) (.neg (.mul (.mul (.mul (.mul (.mul (.mul (.v 0) (.v 0)) (.v 1)) (.v 2)) (.v 4)) (.v 5)) (.v 5)))) (.mul (.mul (.mul (.mul (.v 0) (.v 0)) (.v 1)) (.v 2)) (.v 4))) (.mul (.mul (.mul (.mul (.mul (.mul (.mul (.mul (.mul (.v 0) (.v 0)) (.v 1)) (.v 3)) (.v 4)) (.v 4)) (.v 5)) (.v 5)) (.v 5)) (.v 6))) (.mul (.mul (.mul (.mul (.mul (.mul (.v 0) (.v 0)) (.v 1)) (.v 3)) (.v 4)) (.v 4)) (.v 5))) (.neg (.mul (.mul (.mul (.mul (.mul (.mul (.v 0) (.v 0)) (.v 1)) (.v 3)) (.v 5)) (.v 5)) (.v 5)))) (.mul (.mul (.mul (.mul (.v 0) (.v 0)) (.v 1)) (.v 3)) (.v 5))) (.neg (.mul (.mul (.mul (.mul (.mul (.mul (.mul (.mul (.mul (.mul (.mul (.mul (.v 0) (.v 1)) (.v 1)) (.v 2)) (.v 2)) (.v 3)) (.v 4)) (.v 4)) (.v 4)) (.v 5)) (.v 5)) (.v 6)) (.v 6)))) (.mul (.mul (.mul (.mul (.mul (.mul (.mul (.mul (.mul (.v 0) (.v 1)) (.v 1)) (.v 2)) (.v 2)) (.v 3)) (.v 4)) (.v 5)) (.v 5)) (.v 6))) (.mul (.mul (.mul (.mul (.mul (.mul (.mul (.mul (.mul (.mul (.mul (.mul (.v 0) (.v 1)) (.v 1)) (.v 2)) (.v 3)) (.v 3)) (.v 4)) (.v 4)) (.v 5)) (.v 5)) (.v 5)) (.v 6)) (.v 6))) (.mul (.mul (.mul (.mul (.mul (.mul (.mul (.mul (.mul (.v 0) (.v 1)) (.v 1)) (.v 2)) (.v 3)) (.v 3)) (.v 4)) (.v 4)) (.v 5)) (.v 6))) (.neg (.mul (.mul (.mul (.mul (.mul (.mul (.mul (.mul (.mul (.v 0) (.v 1)) (.v 1)) (.v 2)) (.v 4)) (.v 4)) (.v 5)) (.v 5)) (.v 5)) (.v 6)))) (.neg (.mul (.mul (.mul (.mul (.mul (.mul (.v 0) (.v 1)) (.v 1)) (.v 2)) (.v 4)) (.v 4)) (.v 5)))) (.mul (.mul (.mul (.mul (.mul (.mul (.v 0) (.v 1)) (.v 1)) (.v 2)) (.v 5)) (.v 5)) (.v 5))) (.neg (.mul (.mul (.mul (.mul (.v 0) (.v 1)) (.v 1)) (.v 2)) (.v 5)))) (.neg (.mul (.mul (.mul (.mul (.mul (.mul (.mul (.mul (.mul (.v 0) (.v 1)) (.v 1)) (.v 3)) (.v 4)) (.v 4)) (.v 4)) (.v 5)) (.v 5)) (.v 6)))) (.neg (.mul (.mul (.mul (.mul (.mul (.mul (.v 0) (.v 1)) (.v 1)) (.v 3)) (.v 4)) (.v 4)) (.v 4)))) (.mul (.mul (.mul (.mul (.mul (.mul (.v 0) (.v 1)) (.v 1)) (.v 3)) (.v 4)) (.v 5)) (.v 5))) (.neg (.mul (.mul (.mul (.mul (.v 0) (.v 1)) (.v 1)) (.v 3)) (.v 4)))) (.neg (.mul (.mul (.mul (.mul (.mul (.mul (.mul (.v 0) (.v 2)) (.v 2)) (.v 3)) (.v 4)) (.v 5)) (.v 5)) (.v 6)))) (.neg (.mul (.mul (.mul (.mul (.mul (.mul (.mul (.v 0) (.v 2)) (.v 3)) (.v 3)) (.v 4)) (.v 4)) (.v 5)) (.v 6)))) (.mul (.mul (.mul (.mul (.mul (.mul (.mul (.v 0) (.v 2)) (.v 4)) (.v 4)) (.v 5)) (.v 5)) (.v 5)) (.v 6))) (.mul (.mul (.mul (.mul (.v 0) (.v 2)) (.v 4)) (.v 4)) (.v 5))) (.neg (.mul (.mul (.mul (.mul (.v 0) (.v 2)) (.v 5)) (.v 5)) (.v 5)))) (.mul (.mul (.v 0) (.v 2)) (.v 5))) (.mul (.mul (.mul (.mul (.mul (.mul (.mul (.v 0) (.v 3)) (.v 4)) (.v 4)) (.v 4)) (.v 5)) (.v 5)) (.v 6))) (.mul (.mul (.mul (.mul (.v 0) (.v 3)) (.v 4)) (.v 4)) (.v 4))) (.neg (.mul (.mul (.mul (.mul (.v 0) (.v 3)) (.v 4)) (.v 5)) (.v 5)))) (.mul (.mul (.v 0) (.v 3)) (.v 4))) (.neg (.mul (.mul (.mul (.mul (.mul (.mul (.mul (.mul (.mul (.v 1) (.v 1)) (.v 1)) (.v 2)) (.v 2)) (.v 3)) (.v 4)) (.v 4)) (.v 5)) (.v 6)))) (.neg (.mul (.mul (.mul (.mul (.mul (.mul (.mul (.mul (.mul (.v 1) (.v 1)) (.v 1)) (.v 2)) (.v 3)) (.v 3)) (.v 4)) (.v 5)) (.v 5)) (.v 6)))) (.neg (.mul (.mul (.mul (.mul (.mul (.mul (.mul (.mul (.mul (.v 1) (.v 1)) (.v 1)) (.v 2)) (.v 4)) (.v 4)) (.v 4)) (.v 5)) (.v 5)) (.v 6)))) (.neg (.mul (.mul (.mul (.mul (.mul (.mul (.v 1) (.v 1)) (.v 1)) (.v 2)) (.v 4)) (.v 4)) (.v 4)))) (.mul (.mul (.mul (.mul (.mul (.mul (.v 1) (.v 1)) (.v 1)) (.v 2)) (.v 4)) (.v 5)) (.v 5))) (.neg (.mul (.mul (.mul (.mul (.v 1) (.v 1)) (.v 1)) (.v 2)) (.v 4)))) (.neg (.mul (.mul (.mul (.mul (.mul (.mul (.mul (.mul (.mul (.v 1) (.v 1)) (.v 1)) (.v 3)) (.v 4)) (.v 4)) (.v 5)) (.v 5)) (.v 5)) (.v 6)))) (.neg (.mul (.mul (.mul (.mul (.mul (.mul (.v 1) (.v 1)) (.v 1)) (.v 3)) (.v 4)) (.v 4)) (.v 5)))) (.mul (.mul (.mul (.mul (.mul (.mul (.v 1) (.v 1)) (.v 1)) (.v 3)) (.v 5)) (.v 5)) (.v 5))) (.neg (.mul (.mul (.mul (.mul (.v 1) (.v 1)) (.v 1)) (.v 3)) (.v 5)))) (.mul (.mul (.mul (.mul (.mul (.mul (.mul (.v 1) (.v 2)) (.v 2)) (.v 3)) (.v 4)) (.v 4)) (.v 5)) (.v 6))) (.mul (.mul (.mul (.mul (.mul (.mul (.mul (.v 1) (.v 2)) (.v 3)) (.v 3)) (.v 4)) (.v 5)) (.v 5)) (.v 6))) (.mul (.mul (.mul (.mul (.mul (.mul (.mul (.v 1) (.v 2)) (.v 4)) (.v 4)) (.v 4)) (.v 5)) (.v 5)) (.v 6))) (.mul (.mul (.mul (.mul (.v 1) (.v 2)) (.v 4)) (.v 4)) (.v 4))) (.neg (.mul (.mul (.mul (.mul (.v 1) (.v 2)) (.v 4)) (.v 5)) (.v 5)))) (.mul (.mul (.v 1) (.v 2)) (.v 4))) (.mul (.mul (.mul (.mul (.mul (.mul (.mul (.v 1) (.v 3)) (.v 4)) (.v 4)) (.v 5)) (.v 5)) (.v 5)) (.v 6))) (.mul (.mul (.mul (.mul (.v 1) (.v 3)) (.v 4)) (.v 4)) (.v 5))) (.neg (.mul (.mul (.mul (.mul (.v 1) (.v 3)) (.v 5)) (.v 5)) (.v 5)))) (.mul (.mul (.v 1) (.v 3)) (.v 5)))
def ay_3 : Ex := (.add (.add (.add (.add (.add (.add (.add (.add (.add (.add (.add (.add (.add (.add (.add (.add (.add (.add (.add (.add (.add (.add (.add (.add (.add (.add (.add (.add (.add (.add (.add (.add (.add (.add (.add (.add (.add (.add (.add (.neg (.mul (.mul (.mul (.mul (.mul (.mul (.v 0) (.v 0)) (.v 0)) (.v 2)) (.v 2)) (.v 2)) (.v 5))) (.neg (.mul (.mul (.mul (.mul (.mul (.mul (.v 0) (.v 0)) (.v 0)) (.v 2)) (.v 2)) (.v 3)) (.v 4)))) (.mul (.mul (.mul (.mul (.mul (.mul (.v 0) (.v 0)) (.v 0)) (.v 2)) (.v 3)) (.v 3)) (.v 5))) (.neg (.mul (.mul (.mul (.mul (.v 0) (.v 0)) (.v 0)) (.v 2)) (.v 5)))) (.mul (.mul (.mul (.mul (.mul (.mul (.v 0) (.v 0)) (.v 0)) (.v 3)) (.v 3)) (.v 3)) (.v 4))) (.neg (.mul (.mul (.mul (.mul (.v 0) (.v 0)) (.v 0)) (.v 3)) (.v 4)))) (.neg (.mul (.mul (.mul (.mul (.mul (.mul (.v 0) (.v 0)) (.v 1)) (.v 2)) (.v 2)) (.v 2)) (.v 4)))) (.neg (.mul (.mul (.mul (.mul (.mul (.mul (.mul (.v 0) (.v 0)) (.v 1)) (.v 2)) (.v 2)) (.v 3)) (.v 5)) (.v 6)))) (.neg (.mul (.mul (.mul (.mul (.mul (.mul (.v 0) (.v 0)) (.v 1)) (.v 2)) (.v 2)) (.v 3)) (.v 5)))) (.mul (.mul (.mul (.mul (.mul (.mul (.mul (.v 0) (.v 0)) (.v 1)) (.v 2)) (.v 3)) (.v 3)) (.v 4)) (.v 6))) (.mul (.mul (.mul (.mul (.mul (.mul (.v 0) (.v 0)) (.v 1)) (.v 2)) (.v 3)) (.v 3)) (.v 4))) (.neg (.mul (.mul (.mul (.mul (.v 0) (.v 0)) (.v 1)) (.v 2)) (.v 4)))) (.mul (.mul (.mul (.mul (.mul (.mul (.v 0) (.v 0)) (.v 1)) (.v 3)) (.v 3)) (.v 3)) (.v 5))) (.neg (.mul (.mul (.mul (.mul (.v 0) (.v 0)) (.v 1)) (.v 3)) (.v 5)))) (.mul (.mul (.mul (.mul (.mul (.mul (.v 0) (.v 1)) (.v 1)) (.v 2)) (.v 2)) (.v 2)) (.v 5))) (.mul (.mul (.mul (.mul (.mul (.mul (.mul (.v 0) (.v 1)) (.v 1)) (.v 2)) (.v 2)) (.v 3)) (.v 4)) (.v 6))) (.mul (.mul (.mul (.mul (.mul (.mul (.v 0) (.v 1)) (.v 1)) (.v 2)) (.v 2)) (.v 3)) (.v 4))) (.neg (.mul (.mul (.mul (.mul (.mul (.mul (.mul (.v 0) (.v 1)) (.v 1)) (.v 2)) (.v 3)) (.v 3)) (.v 5)) (.v 6)))) (.neg (.mul (.mul (.mul (.mul (.mul (.mul (.v 0) (.v 1)) (.v 1)) (.v 2)) (.v 3)) (.v 3)) (.v 5)))) (.mul (.mul (.mul (.mul (.v 0) (.v 1)) (.v 1)) (.v 2)) (.v 5))) (.neg (.mul (.mul (.mul (.mul (.mul (.mul (.v 0) (.v 1)) (.v 1)) (.v 3)) (.v 3)) (.v 3)) (.v 4)))) (.mul (.mul (.mul (.mul (.v 0) (.v 1)) (.v 1)) (.v 3)) (.v 4))) (.neg (.mul (.mul (.mul (.mul (.v 0) (.v 2)) (.v 2)) (.v 2)) (.v 5)))) (.neg (.mul (.mul (.mul (.mul (.v 0) (.v 2)) (.v 2)) (.v 3)) (.v 4)))) (.mul (.mul (.mul (.mul (.v 0) (.v 2)) (.v 3)) (.v 3)) (.v 5))) (.neg (.mul (.mul (.v 0) (.v 2)) (.v 5)))) (.mul (.mul (.mul (.mul (.v 0) (.v 3)) (.v 3)) (.v 3)) (.v 4))) (.neg (.mul (.mul (.v 0) (.v 3)) (.v 4)))) (.mul (.mul (.mul (.mul (.mul (.mul (.v 1) (.v 1)) (.v 1)) (.v 2)) (.v 2)) (.v 2)) (.v 4))) (.mul (.mul (.mul (.mul (.mul (.mul (.v 1) (.v 1)) (.v 1)) (.v 2)) (.v 2)) (.v 3)) (.v 5))) (.neg (.mul (.mul (.mul (.mul (.mul (.mul (.v 1) (.v 1)) (.v 1)) (.v 2)) (.v 3)) (.v 3)) (.v 4)))) (.mul (.mul (.mul (.mul (.v 1) (.v 1)) (.v 1)) (.v 2)) (.v 4))) (.neg (.mul (.mul (.mul (.mul (.mul (.mul (.v 1) (.v 1)) (.v 1)) (.v 3)) (.v 3)) (.v 3)) (.v 5)))) (.mul (.mul (.mul (.mul (.v 1) (.v 1)) (.v 1)) (.v 3)) (.v 5))) (.neg (.mul (.mul (.mul (.mul (.v 1) (.v 2)) (.v 2)) (.v 2)) (.v 4)))) (.neg (.mul (.mul (.mul (.mul (.v 1) (.v 2)) (.v 2)) (.v 3)) (.v 5)))) (.mul (.mul (.mul (.mul (.v 1) (.v 2)) (.v 3)) (.v 3)) (.v 4))) (.neg (.mul (.mul (.v 1) (.v 2)) (.v 4)))) (.mul (.mul (.mul (.mul (.v 1) (.v 3)) (.v 3)) (.v 3)) (.v 5))) (.neg (.mul (.mul (.v 1) (.v 3)) (.v 5))))
theorem ay_norm : (Ex.sub (.sub ay_l ay_r) (.add (.mul ay_1 (eqx 0 1)) (.add (.mul ay_2 (eqx 2 3)) (.mul ay_3 (eqx 4 5))))).norm = [] := by kernel_rfl
theorem as_1 (P M a b x3 y3 : Zq) : ((P * M) * ((a * y3) + (b * x3))) = ((((P * a) * M) * y3) + (((M * b) * P) * x3)) := ring_eq zqR (fun i => [P, M, a, b, x3, y3].getD i 0) (.mul (.mul (.v 0) (.v 1)) (.add (.mul (.v 2) (.v 5)) (.mul (.v 3) (.v 4)))) (.add (.mul (.mul (.mul (.v 0) (.v 2)) (.v 1)) (.v 5)) (.mul (.mul (.mul (.v 1) (.v 3)) (.v 0)) (.v 4))) (by kernel_rfl)
theorem as_2 (C D c e px py d : Zq) : ((C * D) * (1 + (d * ((px * c) * (py * e))))) = ((C * D) + (d * ((px * (C * c)) * (py * (D * e))))) := ring_eq zqR (fun i => [C, D, c, e, px, py, d].getD i 0) (.mul (.mul (.v 0) (.v 1)) (.add (.n 1) (.mul (.v 6) (.mul (.mul (.v 4) (.v 2)) (.mul (.v 5) (.v 3)))))) (.add (.mul (.v 0) (.v 1)) (.mul (.v 6) (.mul (.mul (.v 4) (.mul (.v 0) (.v 2))) (.mul (.v 5) (.mul (.v 1) (.v 3)))))) (by kernel_rfl)
theorem as_3 (C D c e px py : Zq) : ((C * D) * ((px * e) + (py * c))) = ((px * ((D * e) * C)) + (py * ((C * c) * D))) := ring_eq zqR (fun i => [C, D, c, e, px, py].getD i 0) (.mul (.mul (.v 0) (.v 1)) (.add (.mul (.v 4) (.v 3)) (.mul (.v 5) (.v 2)))) (.add (.mul (.v 4) (.mul (.mul (.v 1) (.v 3)) (.v 0))) (.mul (.v 5) (.mul (.mul (.v 0) (.v 2)) (.v 1)))) (by kernel_rfl)
theorem as_4 (P M a b x3 y3 d : Zq) : ((P * M) * (1 + (d * ((a * x3) * (b * y3))))) = ((P * M) + (d * (((P * a) * x3) * ((M * b) * y3)))) := ring_eq zqR (fun i => [P, M, a, b, x3, y3, d].getD i 0) (.mul (.mul (.v 0) (.v 1)) (.add (.n 1) (.mul (.v 6) (.mul (.mul (.v 2) (.v 4)) (.mul (.v 3) (.v 5)))))) (.add (.mul (.v 0) (.v 1)) (.mul (.v 6) (.mul (.mul (.mul (.v 0) (.v 2)) (.v 4)) (.mul (.mul (.v 1) (.v 3)) (.v 5))))) (by kernel_rfl)
theorem as_5 (P M a b x3 y3 : Zq) : ((P * M) * ((b * y3) + (a * x3))) = ((((M * b) * P) * y3) + (((P * a) * M) * x3)) := ring_eq zqR (fun i => [P, M, a, b, x3, y3].getD i 0) (.mul (.mul (.v 0) (.v 1)) (.add (.mul (.v 3) (.v 5)) (.mul (.v 2) (.v 4)))) (.add (.mul (.mul (.mul (.v 1) (.v 3)) (.v 0)) (.v 5)) (.mul (.mul (.mul (.v 0) (.v 2)) (.v 1)) (.v 4))) (by kernel_rfl)
theorem as_6 (C D c e px py d : Zq) : ((C * D) * (1 - (d * ((px * c) * (py * e))))) = ((C * D) - (d * ((px * (C * c)) * (py * (D * e))))) := ring_eq zqR (fun i => [C, D, c, e, px, py, d].getD i 0) (.mul (.mul (.v 0) (.v 1)) (.sub (.n 1) (.mul (.v 6) (.mul (.mul (.v 4) (.v 2)) (.mul (.v 5) (.v 3)))))) (.sub (.mul (.v 0) (.v 1)) (.mul (.v 6) (.mul (.mul (.v 4) (.mul (.v 0) (.v 2))) (.mul (.v 5) (.mul (.v 1) (.v 3)))))) (by kernel_rfl)
theorem as_7 (C D c e px py : Zq) : ((C * D) * ((py * e) + (px * c))) = ((py * ((D * e) * C)) + (px * ((C * c) * D))) := ring_eq zqR (fun i => [C, D, c, e, px, py].getD i 0) (.mul (.mul (.v 0) (.v 1)) (.add (.mul (.v 5) (.v 3)) (.mul (.v 4) (.v 2)))) (.add (.mul (.v 5) (.mul (.mul (.v 1) (.v 3)) (.v 0))) (.mul (.v 4) (.mul (.mul (.v 0) (.v 2)) (.v 1)))) (by kernel_rfl)
theorem as_8 (P M a b x3 y3 d : Zq) : ((P * M) * (1 - (d * ((a * x3) * (b * y3))))) = ((P * M) - (d * (((P * a) * x3) * ((M * b) * y3)))) := ring_eq zqR (fun i => [P, M, a, b, x3, y3, d].getD i 0) (.mul (.mul (.v 0) (.v 1)) (.sub (.n 1) (.mul (.v 6) (.mul (.mul (.v 2) (.v 4)) (.mul (.v 3) (.v 5)))))) (.sub (.mul (.v 0) (.v 1)) (.mul (.v 6) (.mul (.mul (.mul (.v 0) (.v 2)) (.v 4)) (.mul (.mul (.v 1) (.v 3)) (.v 5))))) (by kernel_rfl)
theorem as_9 (K H L S : Zq) : ((K * H) * (L * S)) = ((K * L) * (H * S)) := ring_eq zqR (fun i => [K, H, L, S].getD i 0) (.mul (.mul (.v 0) (.v 1)) (.mul (.v 2) (.v 3))) (.mul (.mul (.v 0) (.v 2)) (.mul (.v 1) (.v 3))) (by kernel_rfl)
theorem as_10 (M S l : Zq) : ((M * S) * l) = ((M * l) * S) := ring_eq zqR (fun i => [M, S, l].getD i 0) (.mul (.mul (.v 0) (.v 1)) (.v 2)) (.mul (.mul (.v 0) (.v 2)) (.v 1)) (by kernel_rfl)
theorem as_11 (M S l : Zq) : ((M * S) * l) = ((S * l) * M) := ring_eq zqR (fun i => [M, S, l].getD i 0) (.mul (.mul (.v 0) (.v 1)) (.v 2)) (.mul (.mul (.v 1) (.v 2)) (.v 0)) (by kernel_rfl)
theorem cross {K H L S R T Lx Sx Rx Tx : Zq} (hK : K ≠ 0) (hH : H ≠ 0) (hL : K * L = Lx) (hS : H * S = Sx) (hR : H * R = Rx) (hT : K * T = Tx) (h : Lx * Sx = Rx * Tx) : L * S = R * T := by
 refine qmul_cancel (a := K * H) (qmul_ne hK hH) ?_
 rw [as_9 K H L S, qmul_comm R T, as_9 K H T R, hL, hS, hR, hT, h, qmul_comm]
theorem quot_eq {M S l r L R : Zq} (hM : M ≠ 0) (hS : S ≠ 0) (hl : M * l = L) (hr : S * r = R) (h : L * S = R * M) : l = r := by
 refine qmul_cancel (a := M * S) (qmul_ne hM hS) ?_
 rw [as_10 M S l, as_11 M S r, hl, hr, h]
theorem pt_assoc (p q r : Pt) : p + q + r = p + (q + r) := by
 have hP := nP_ne p q; have hM := nM_ne p q; have hC := nP_ne q r; have hD := nM_ne q r
 have x12 := mul_add_x p q; have y12 := mul_add_y p q; have x23 := mul_add_x q r; have y23 := mul_add_y q r
 have kx : ax_l.den zqR (cv p.x p.y q.x q.y r.x r.y) = ax_r.den zqR (cv p.x p.y q.x q.y r.x r.y) := ideal3 _ ax_l ax_r ax_1 ax_2 ax_3 _ _ _ (eqx_zero _ 0 1 rfl p.on) (eqx_zero _ 2 3 rfl q.on) (eqx_zero _ 4 5 rfl r.on) ax_norm
 have ky : ay_l.den zqR (cv p.x p.y q.x q.y r.x r.y) = ay_r.den zqR (cv p.x p.y q.x q.y r.x r.y) := ideal3 _ ay_l ay_r ay_1 ay_2 ay_3 _ _ _ (eqx_zero _ 0 1 rfl p.on) (eqx_zero _ 2 3 rfl q.on) (eqx_zero _ 4 5 rfl r.on) ay_norm
 replace kx : (nX p.x p.y q.x q.y * nM p.x p.y q.x q.y * r.y + nY p.x p.y q.x q.y * nP p.x p.y q.x q.y * r.x) * (nP q.x q.y r.x r.y * nM q.x q.y r.x r.y + dd * (p.x * nX q.x q.y r.x r.y * (p.y * nY q.x q.y r.x r.y))) = (p.x * (nY q.x q.y r.x r.y * nP q.x q.y r.x r.y) + p.y * (nX q.x q.y r.x r.y * nM q.x q.y r.x r.y)) * (nP p.x p.y q.x q.y * nM p.x p.y q.x q.y + dd * (nX p.x p.y q.x q.y * r.x * (nY p.x p.y q.x q.y * r.y))) := kx
 replace ky : (nY p.x p.y q.x q.y * nP p.x p.y q.x q.y * r.y + nX p.x p.y q.x q.y * nM p.x p.y q.x q.y * r.x) * (nP q.x q.y r.x r.y * nM q.x q.y r.x r.y - dd * (p.x * nX q.x q.y r.x r.y * (p.y * nY q.x q.y r.x r.y))) = (p.y * (nY q.x q.y r.x r.y * nP q.x q.y r.x r.y) + p.x * (nX q.x q.y r.x r.y * nM q.x q.y r.x r.y)) * (nP p.x p.y q.x q.y * nM p.x p.y q.x q.y - dd * (nX p.x p.y q.x q.y * r.x * (nY p.x p.y q.x q.y * r.y))) := ky
 have hK := qmul_ne hP hM; have hH := qmul_ne hC hD
 refine Pt.ext (quot_eq (nP_ne (p + q) r) (nP_ne p (q + r)) (mul_add_x (p + q) r) (mul_add_x p (q + r)) ?_) (quot_eq (nM_ne (p + q) r) (nM_ne p (q + r)) (mul_add_y (p + q) r) (mul_add_y p (q + r)) ?_)
 · refine cross hK hH ((as_1 _ _ _ _ _ _).trans ?_) ((as_2 _ _ _ _ _ _ _).trans ?_) ((as_3 _ _ _ _ _ _).trans ?_) ((as_4 _ _ _ _ _ _ _).trans ?_) kx
   · rw [x12, y12]
   · rw [x23, y23]
   · rw [x23, y23]
   · rw [x12, y12]
 · refine cross hK hH ((as_5 _ _ _ _ _ _).trans ?_) ((as_6 _ _ _ _ _ _ _).trans ?_) ((as_7 _ _ _ _ _ _).trans ?_) ((as_8 _ _ _ _ _ _ _).trans ?_) ky
   · rw [x12, y12]
   · rw [x23, y23]
   · rw [x23, y23]
   · rw [x12, y12]
end Go.FourQ
namespace Go.FourQ
/-- These five elements stand for a point: X : Y : Z with T = Ta Tb. -/
structure Rep1 (p : Pt) (X Y Z Ta Tb : Zq) : Prop where
 z : Z ≠ 0
 x : X = p.x * Z
 y : Y = p.y * Z
 t : Ta * Tb = p.x * p.y * Z
/-- These four elements stand for a point: y + x, y - x, 2 d x y, 2 (each times Z). -/
structure Rep2 (p : Pt) (A B D W : Zq) : Prop where
 rep : ∃ Z : Zq, Z ≠ 0 ∧ A = (p.y + p.x) * Z ∧ B = (p.y - p.x) * Z ∧ D = dd * (p.x * p.y * Z) + dd * (p.x * p.y * Z) ∧ W = Z + Z
/-- X : Y : Z. -/
structure Rep3 (p : Pt) (X Y Z : Zq) : Prop where
 z : Z ≠ 0
 x : X = p.x * Z
 y : Y = p.y * Z
theorem xa_1 (x1 y1 x2 y2 Z W : Zq) : ((((y1 * Z) + (x1 * Z)) * ((y2 + x2) * W)) - (((y1 * Z) - (x1 * Z)) * ((y2 - x2) * W))) = (((Z * W) + (Z * W)) * ((x1 * y2) + (y1 * x2))) := ring_eq zqR (fun i => [x1, y1, x2, y2, Z, W].getD i 0) (.sub (.mul (.add (.mul (.v 1) (.v 4)) (.mul (.v 0) (.v 4))) (.mul (.add (.v 3) (.v 2)) (.v 5))) (.mul (.sub (.mul (.v 1) (.v 4)) (.mul (.v 0) (.v 4))) (.mul (.sub (.v 3) (.v 2)) (.v 5)))) (.mul (.add (.mul (.v 4) (.v 5)) (.mul (.v 4) (.v 5))) (.add (.mul (.v 0) (.v 3)) (.mul (.v 1) (.v 2)))) (by kernel_rfl)
theorem xa_2 (x1 y1 x2 y2 Z W : Zq) : ((((y1 * Z) + (x1 * Z)) * ((y2 + x2) * W)) + (((y1 * Z) - (x1 * Z)) * ((y2 - x2) * W))) = (((Z * W) + (Z * W)) * ((y1 * y2) + (x1 * x2))) := ring_eq zqR (fun i => [x1, y1, x2, y2, Z, W].getD i 0) (.add (.mul (.add (.mul (.v 1) (.v 4)) (.mul (.v 0) (.v 4))) (.mul (.add (.v 3) (.v 2)) (.v 5))) (.mul (.sub (.mul (.v 1) (.v 4)) (.mul (.v 0) (.v 4))) (.mul (.sub (.v 3) (.v 2)) (.v 5)))) (.mul (.add (.mul (.v 4) (.v 5)) (.mul (.v 4) (.v 5))) (.add (.mul (.v 1) (.v 3)) (.mul (.v 0) (.v 2)))) (by kernel_rfl)
theorem xa_3 (x1 y1 x2 y2 Z W d : Zq) : ((Z * (W + W)) - (((x1 * y1) * Z) * ((d * ((x2 * y2) * W)) + (d * ((x2 * y2) * W))))) = (((Z * W) + (Z * W)) * (1 - (d * ((x1 * x2) * (y1 * y2))))) := ring_eq zqR (fun i => [x1, y1, x2, y2, Z, W, d].getD i 0) (.sub (.mul (.v 4) (.add (.v 5) (.v 5))) (.mul (.mul (.mul (.v 0) (.v 1)) (.v 4)) (.add (.mul (.v 6) (.mul (.mul (.v 2) (.v 3)) (.v 5))) (.mul (.v 6) (.mul (.mul (.v 2) (.v 3)) (.v 5)))))) (.mul (.add (.mul (.v 4) (.v 5)) (.mul (.v 4) (.v 5))) (.sub (.n 1) (.mul (.v 6) (.mul (.mul (.v 0) (.v 2)) (.mul (.v 1) (.v 3)))))) (by kernel_rfl)
theorem xa_4 (x1 y1 x2 y2 Z W d : Zq) : ((Z * (W + W)) + (((x1 * y1) * Z) * ((d * ((x2 * y2) * W)) + (d * ((x2 * y2) * W))))) = (((Z * W) + (Z * W)) * (1 + (d * ((x1 * x2) * (y1 * y2))))) := ring_eq zqR (fun i => [x1, y1, x2, y2, Z, W, d].getD i 0) (.add (.mul (.v 4) (.add (.v 5) (.v 5))) (.mul (.mul (.mul (.v 0) (.v 1)) (.v 4)) (.add (.mul (.v 6) (.mul (.mul (.v 2) (.v 3)) (.v 5))) (.mul (.v 6) (.mul (.mul (.v 2) (.v 3)) (.v 5)))))) (.mul (.add (.mul (.v 4) (.v 5)) (.mul (.v 4) (.v 5))) (.add (.n 1) (.mul (.v 6) (.mul (.mul (.v 0) (.v 2)) (.mul (.v 1) (.v 3)))))) (by kernel_rfl)
theorem xd_1 (x y Z : Zq) : ((((x * Z) + (y * Z)) * ((x * Z) + (y * Z))) - (((x * Z) * (x * Z)) + ((y * Z) * (y * Z)))) = ((Z * Z) * ((x * y) + (y * x))) := ring_eq zqR (fun i => [x, y, Z].getD i 0) (.sub (.mul (.add (.mul (.v 0) (.v 2)) (.mul (.v 1) (.v 2))) (.add (.mul (.v 0) (.v 2)) (.mul (.v 1) (.v 2)))) (.add (.mul (.mul (.v 0) (.v 2)) (.mul (.v 0) (.v 2))) (.mul (.mul (.v 1) (.v 2)) (.mul (.v 1) (.v 2))))) (.mul (.mul (.v 2) (.v 2)) (.add (.mul (.v 0) (.v 1)) (.mul (.v 1) (.v 0)))) (by kernel_rfl)
theorem xd_2 (x y Z : Zq) : (((x * Z) * (x * Z)) + ((y * Z) * (y * Z))) = ((Z * Z) * ((y * y) + (x * x))) := ring_eq zqR (fun i => [x, y, Z].getD i 0) (.add (.mul (.mul (.v 0) (.v 2)) (.mul (.v 0) (.v 2))) (.mul (.mul (.v 1) (.v 2)) (.mul (.v 1) (.v 2)))) (.mul (.mul (.v 2) (.v 2)) (.add (.mul (.v 1) (.v 1)) (.mul (.v 0) (.v 0)))) (by kernel_rfl)
theorem xd_3 (x y Z : Zq) : (((y * Z) * (y * Z)) - ((x * Z) * (x * Z))) = ((Z * Z) * ((y * y) - (x * x))) := ring_eq zqR (fun i => [x, y, Z].getD i 0) (.sub (.mul (.mul (.v 1) (.v 2)) (.mul (.v 1) (.v 2))) (.mul (.mul (.v 0) (.v 2)) (.mul (.v 0) (.v 2)))) (.mul (.mul (.v 2) (.v 2)) (.sub (.mul (.v 1) (.v 1)) (.mul (.v 0) (.v 0)))) (by kernel_rfl)
theorem xd_4 (K c : Zq) : ((K + K) - (K * (1 + c))) = (K * (1 - c)) := ring_eq zqR (fun i => [K, c].getD i 0) (.sub (.add (.v 0) (.v 0)) (.mul (.v 0) (.add (.n 1) (.v 1)))) (.mul (.v 0) (.sub (.n 1) (.v 1))) (by kernel_rfl)
theorem xm_1 (K a b c : Zq) : ((K * (a * b)) * (K * c)) = (b * ((K * c) * (K * a))) := ring_eq zqR (fun i => [K, a, b, c].getD i 0) (.mul (.mul (.v 0) (.mul (.v 1) (.v 2))) (.mul (.v 0) (.v 3))) (.mul (.v 2) (.mul (.mul (.v 0) (.v 3)) (.mul (.v 0) (.v 1)))) (by kernel_rfl)
theorem xm_2 (K a b c : Zq) : ((K * a) * (K * (c * b))) = (b * ((K * c) * (K * a))) := ring_eq zqR (fun i => [K, a, b, c].getD i 0) (.mul (.mul (.v 0) (.v 1)) (.mul (.v 0) (.mul (.v 3) (.v 2)))) (.mul (.v 2) (.mul (.mul (.v 0) (.v 3)) (.mul (.v 0) (.v 1)))) (by kernel_rfl)
theorem xm_3 (K a b c e : Zq) : ((K * (a * b)) * (K * (c * e))) = ((b * e) * ((K * c) * (K * a))) := ring_eq zqR (fun i => [K, a, b, c, e].getD i 0) (.mul (.mul (.v 0) (.mul (.v 1) (.v 2))) (.mul (.v 0) (.mul (.v 3) (.v 4)))) (.mul (.mul (.v 2) (.v 4)) (.mul (.mul (.v 0) (.v 3)) (.mul (.v 0) (.v 1)))) (by kernel_rfl)
theorem rep1_mk {p q : Pt} {K e h f g : Zq} (hK : K ≠ 0) (he : e = K * nX p.x p.y q.x q.y) (hh : h = K * nY p.x p.y q.x q.y) (hf : f = K * nM p.x p.y q.x q.y) (hg : g = K * nP p.x p.y q.x q.y) :
   Rep1 (p + q) (e * f) (g * h) (f * g) e h := by
 subst he hh hf hg
 refine ⟨qmul_ne (qmul_ne hK (nM_ne p q)) (qmul_ne hK (nP_ne p q)), ?_, ?_, ?_⟩
 · rw [← mul_add_x]; exact xm_1 _ _ _ _
 · rw [← mul_add_y]; exact xm_2 _ _ _ _
 · rw [← mul_add_x, ← mul_add_y]; exact xm_3 _ _ _ _ _
theorem rep_add {p q : Pt} {X Y Z Ta Tb A B D W : Zq} (h1 : Rep1 p X Y Z Ta Tb) (h2 : Rep2 q A B D W) :
   Rep1 (p + q) (((Y + X) * A - (Y - X) * B) * (Z * W - Ta * Tb * D)) ((Z * W + Ta * Tb * D) * ((Y + X) * A + (Y - X) * B)) ((Z * W - Ta * Tb * D) * (Z * W + Ta * Tb * D)) ((Y + X) * A - (Y - X) * B) ((Y + X) * A + (Y - X) * B) := by
 obtain ⟨hz, rfl, rfl, ht⟩ := h1
 obtain ⟨V, hv, rfl, rfl, rfl, rfl⟩ := h2
 have hk : Z * V + Z * V ≠ 0 := fun e => qmul_ne hz hv (two_ne e)
 refine rep1_mk hk (xa_1 _ _ _ _ _ _) (xa_2 _ _ _ _ _ _) ?_ ?_
 · rw [ht]; exact xa_3 _ _ _ _ _ _ _
 · rw [ht]; exact xa_4 _ _ _ _ _ _ _
theorem rep_double {p : Pt} {X Y Z Ta Tb : Zq} (h1 : Rep1 p X Y Z Ta Tb) :
   Rep1 (p + p) (((X + Y) * (X + Y) - (X * X + Y * Y)) * (Z * Z + Z * Z - (Y * Y - X * X))) ((X * X + Y * Y) * (Y * Y - X * X)) ((Y * Y - X * X) * (Z * Z + Z * Z - (Y * Y - X * X))) (X * X + Y * Y) ((X + Y) * (X + Y) - (X * X + Y * Y)) := by
 obtain ⟨hz, rfl, rfl, ht⟩ := h1
 have hP : p.y * Z * (p.y * Z) - p.x * Z * (p.x * Z) = Z * Z * nP p.x p.y p.x p.y := by
   rw [xd_3, show p.y * p.y - p.x * p.x = nP p.x p.y p.x p.y from p.on]
 have hM : Z * Z + Z * Z - Z * Z * nP p.x p.y p.x p.y = Z * Z * nM p.x p.y p.x p.y := xd_4 _ _
 have := rep1_mk (p := p) (q := p) (qmul_ne hz hz) (xd_1 p.x p.y Z) (xd_2 p.x p.y Z) hM.symm.symm hP
 rw [hP] at this ⊢
 obtain ⟨a, b, c, e⟩ := this
 exact ⟨by rw [qmul_comm]; exact a, by rw [b, qmul_comm (Z * Z * nP _ _ _ _)], by rw [qmul_comm, c, qmul_comm (Z * Z * nP _ _ _ _)], by rw [qmul_comm, e, qmul_comm (Z * Z * nP _ _ _ _)]⟩
theorem rep_toR1 (p : Pt) : Rep1 p p.x p.y 1 p.x p.y := ⟨qone_ne_zero, (qmul_one _).symm, (qmul_one _).symm, (qmul_one _).symm⟩
theorem rep_zero : Rep1 Pt.zero 0 1 1 0 0 := ⟨qone_ne_zero, (qmul_one _).symm, (qmul_one _).symm, by show (0 : Zq) * 0 = 0 * 1 * 1; rw [qmul_one, qmul_one, qmul_zero]⟩
theorem rep_fromR1 {p : Pt} {X Y Z Ta Tb : Zq} (h : Rep1 p X Y Z Ta Tb) : Rep2 p (Y + X) (Y - X) (Ta * Tb * dd + Ta * Tb * dd) (Z + Z) := by
 obtain ⟨hz, rfl, rfl, ht⟩ := h
 refine ⟨Z, hz, (qadd_mul _ _ _).symm, ?_, ?_, rfl⟩
 · show p.y * Z + -(p.x * Z) = (p.y + -p.x) * Z
   rw [qadd_mul, qneg_mul]
 · rw [ht, qmul_comm _ dd]
theorem rep_neg2 {p : Pt} {A B D W : Zq} (h : Rep2 p A B D W) : Rep2 p.neg B A (-D) W := by
 obtain ⟨Z, hz, rfl, rfl, rfl, rfl⟩ := h
 refine ⟨Z, hz, rfl, ?_, ?_, rfl⟩
 · show (p.y + p.x) * Z = (p.y + - -p.x) * Z
   rw [qneg_neg]
 · show -(dd * (p.x * p.y * Z) + dd * (p.x * p.y * Z)) = dd * (-p.x * p.y * Z) + dd * (-p.x * p.y * Z)
   rw [qneg_mul, qneg_mul, qmul_neg]; exact zqR.neg_add_rev _ _
theorem rep_affine {p : Pt} {X Y Z Ta Tb : Zq} (h : Rep1 p X Y Z Ta Tb) : X * Z.inv = p.x ∧ Y * Z.inv = p.y := by
 obtain ⟨hz, rfl, rfl, ht⟩ := h
 exact ⟨by rw [qmul_assoc, qmul_inv hz, qmul_one], by rw [qmul_assoc, qmul_inv hz, qmul_one]⟩
theorem xs_1 (x1 y1 x2 y2 Z W : Zq) : (((((x1 * Z) + (y1 * Z)) * ((x2 * W) + (y2 * W))) - ((x1 * Z) * (x2 * W))) - ((y1 * Z) * (y2 * W))) = ((Z * W) * ((x1 * y2) + (y1 * x2))) := ring_eq zqR (fun i => [x1, y1, x2, y2, Z, W].getD i 0) (.sub (.sub (.mul (.add (.mul (.v 0) (.v 4)) (.mul (.v 1) (.v 4))) (.add (.mul (.v 2) (.v 5)) (.mul (.v 3) (.v 5)))) (.mul (.mul (.v 0) (.v 4)) (.mul (.v 2) (.v 5)))) (.mul (.mul (.v 1) (.v 4)) (.mul (.v 3) (.v 5)))) (.mul (.mul (.v 4) (.v 5)) (.add (.mul (.v 0) (.v 3)) (.mul (.v 1) (.v 2)))) (by kernel_rfl)
theorem xs_2 (x1 y1 x2 y2 Z W : Zq) : (((y1 * Z) * (y2 * W)) + ((x1 * Z) * (x2 * W))) = ((Z * W) * ((y1 * y2) + (x1 * x2))) := ring_eq zqR (fun i => [x1, y1, x2, y2, Z, W].getD i 0) (.add (.mul (.mul (.v 1) (.v 4)) (.mul (.v 3) (.v 5))) (.mul (.mul (.v 0) (.v 4)) (.mul (.v 2) (.v 5)))) (.mul (.mul (.v 4) (.v 5)) (.add (.mul (.v 1) (.v 3)) (.mul (.v 0) (.v 2)))) (by kernel_rfl)
theorem xs_3 (x1 y1 x2 y2 Z W d : Zq) : (((Z * W) * (Z * W)) - (d * (((x1 * Z) * (x2 * W)) * ((y1 * Z) * (y2 * W))))) = (((Z * W) * (Z * W)) * (1 - (d * ((x1 * x2) * (y1 * y2))))) := ring_eq zqR (fun i => [x1, y1, x2, y2, Z, W, d].getD i 0) (.sub (.mul (.mul (.v 4) (.v 5)) (.mul (.v 4) (.v 5))) (.mul (.v 6) (.mul (.mul (.mul (.v 0) (.v 4)) (.mul (.v 2) (.v 5))) (.mul (.mul (.v 1) (.v 4)) (.mul (.v 3) (.v 5)))))) (.mul (.mul (.mul (.v 4) (.v 5)) (.mul (.v 4) (.v 5))) (.sub (.n 1) (.mul (.v 6) (.mul (.mul (.v 0) (.v 2)) (.mul (.v 1) (.v 3)))))) (by kernel_rfl)
theorem xs_4 (x1 y1 x2 y2 Z W d : Zq) : (((Z * W) * (Z * W)) + (d * (((x1 * Z) * (x2 * W)) * ((y1 * Z) * (y2 * W))))) = (((Z * W) * (Z * W)) * (1 + (d * ((x1 * x2) * (y1 * y2))))) := ring_eq zqR (fun i => [x1, y1, x2, y2, Z, W, d].getD i 0) (.add (.mul (.mul (.v 4) (.v 5)) (.mul (.v 4) (.v 5))) (.mul (.v 6) (.mul (.mul (.mul (.v 0) (.v 4)) (.mul (.v 2) (.v 5))) (.mul (.mul (.v 1) (.v 4)) (.mul (.v 3) (.v 5)))))) (.mul (.mul (.mul (.v 4) (.v 5)) (.mul (.v 4) (.v 5))) (.add (.n 1) (.mul (.v 6) (.mul (.mul (.v 0) (.v 2)) (.mul (.v 1) (.v 3)))))) (by kernel_rfl)
theorem xs_5 (K a b c : Zq) : (K * (((K * K) * c) * (K * (a * b)))) = (b * (((K * K) * c) * ((K * K) * a))) := ring_eq zqR (fun i => [K, a, b, c].getD i 0) (.mul (.v 0) (.mul (.mul (.mul (.v 0) (.v 0)) (.v 3)) (.mul (.v 0) (.mul (.v 1) (.v 2))))) (.mul (.v 2) (.mul (.mul (.mul (.v 0) (.v 0)) (.v 3)) (.mul (.mul (.v 0) (.v 0)) (.v 1)))) (by kernel_rfl)
theorem xs_6 (K a b c : Zq) : (K * (((K * K) * a) * (K * (c * b)))) = (b * (((K * K) * c) * ((K * K) * a))) := ring_eq zqR (fun i => [K, a, b, c].getD i 0) (.mul (.v 0) (.mul (.mul (.mul (.v 0) (.v 0)) (.v 1)) (.mul (.v 0) (.mul (.v 3) (.v 2))))) (.mul (.v 2) (.mul (.mul (.mul (.v 0) (.v 0)) (.v 3)) (.mul (.mul (.v 0) (.v 0)) (.v 1)))) (by kernel_rfl)
theorem rep3_add {p q : Pt} {X Y Z U V W : Zq} (h1 : Rep3 p X Y Z) (h2 : Rep3 q U V W) :
   Rep3 (p + q) (Z * W * ((Z * W * (Z * W) - dd * (X * U * (Y * V))) * ((X + Y) * (U + V) - X * U - Y * V))) (Z * W * ((Z * W * (Z * W) + dd * (X * U * (Y * V))) * (Y * V + X * U))) ((Z * W * (Z * W) - dd * (X * U * (Y * V))) * (Z * W * (Z * W) + dd * (X * U * (Y * V)))) := by
 obtain ⟨hz, rfl, rfl⟩ := h1
 obtain ⟨hw, rfl, rfl⟩ := h2
 have hk := qmul_ne hz hw
 have e1 : p.x * Z * (q.x * W) = p.x * Z * (q.x * W) := rfl
 have a1 := xs_1 p.x p.y q.x q.y Z W
 have a2 := xs_2 p.x p.y q.x q.y Z W
 have a3 := xs_3 p.x p.y q.x q.y Z W dd
 have a4 := xs_4 p.x p.y q.x q.y Z W dd
 replace a1 : (p.x * Z + p.y * Z) * (q.x * W + q.y * W) - p.x * Z * (q.x * W) - p.y * Z * (q.y * W) = Z * W * nX p.x p.y q.x q.y := a1
 replace a2 : p.y * Z * (q.y * W) + p.x * Z * (q.x * W) = Z * W * nY p.x p.y q.x q.y := a2
 replace a3 : Z * W * (Z * W) - dd * (p.x * Z * (q.x * W) * (p.y * Z * (q.y * W))) = Z * W * (Z * W) * nM p.x p.y q.x q.y := a3
 replace a4 : Z * W * (Z * W) + dd * (p.x * Z * (q.x * W) * (p.y * Z * (q.y * W))) = Z * W * (Z * W) * nP p.x p.y q.x q.y := a4
 rw [a1, a2, a3, a4]
 refine ⟨qmul_ne (qmul_ne (qmul_ne hk hk) (nM_ne p q)) (qmul_ne (qmul_ne hk hk) (nP_ne p q)), ?_, ?_⟩
 · rw [← mul_add_x]; exact xs_5 _ _ _ _
 · rw [← mul_add_y]; exact xs_6 _ _ _ _
theorem rep3_at (p : Pt) : Rep3 p p.x p.y 1 := ⟨qone_ne_zero, (qmul_one _).symm, (qmul_one _).symm⟩
theorem rep3_is {p q : Pt} {X Y Z : Zq} (h : Rep3 p X Y Z) : (q.x * Z = X ∧ q.y * Z = Y) ↔ q = p := by
 obtain ⟨hz, rfl, rfl⟩ := h
 constructor
 · rintro ⟨a, b⟩
   rw [qmul_comm _ Z, qmul_comm _ Z] at a b
   exact Pt.ext (qmul_cancel hz a) (qmul_cancel hz b)
 · rintro rfl; exact ⟨rfl, rfl⟩
def Pt.mul : Nat → Pt → Pt
 | 0, _ => Pt.zero
 | n + 1, p => Pt.mul n p + p
theorem mul_succ_pt (n : Nat) (p : Pt) : Pt.mul (n + 1) p = Pt.mul n p + p := rfl
theorem mul_one_pt (p : Pt) : Pt.mul 1 p = p := pt_zero_add p
theorem mul_add_pt (m n : Nat) (p : Pt) : Pt.mul (m + n) p = Pt.mul m p + Pt.mul n p := by
 induction n with
 | zero => exact (pt_add_zero _).symm
 | succ n ih => rw [← Nat.add_assoc, mul_succ_pt, ih, mul_succ_pt, pt_assoc]
theorem mul_mul_pt (m n : Nat) (p : Pt) : Pt.mul (m * n) p = Pt.mul m (Pt.mul n p) := by
 induction m with
 | zero => rw [Nat.zero_mul]; rfl
 | succ m ih => rw [Nat.succ_mul, mul_add_pt, ih, mul_succ_pt]
theorem mul_zero_pt (n : Nat) : Pt.mul n Pt.zero = Pt.zero := by
 induction n with
 | zero => rfl
 | succ n ih => rw [mul_succ_pt, ih, pt_add_zero]
theorem pt_add4 (a b c e : Pt) : a + b + (c + e) = a + c + (b + e) := by
 rw [pt_assoc, pt_assoc, ← pt_assoc b, pt_comm b c, pt_assoc c]
theorem mul_dist_pt (n : Nat) (p q : Pt) : Pt.mul n (p + q) = Pt.mul n p + Pt.mul n q := by
 induction n with
 | zero =>
   show Pt.zero = Pt.zero + Pt.zero
   exact (pt_add_zero Pt.zero).symm
 | succ n ih => rw [mul_succ_pt, ih, mul_succ_pt, mul_succ_pt, pt_add4]
theorem neg_of {p q : Pt} (h : p + q = Pt.zero) : q = p.neg := by
 have := congrArg (fun t => p.neg + t) h
 simp only [← pt_assoc, pt_comm p.neg p, pt_add_neg, pt_zero_add, pt_add_zero] at this
 exact this
theorem pt_cancel {p q r : Pt} (h : p + q = p + r) : q = r := by
 have := congrArg (fun t => p.neg + t) h
 simp only [← pt_assoc, pt_comm p.neg p, pt_add_neg, pt_zero_add] at this
 exact this
theorem neg_add (p q : Pt) : (p + q).neg = p.neg + q.neg := (neg_of (by rw [pt_add4, pt_add_neg, pt_add_neg, pt_add_zero])).symm
end Go.FourQ
