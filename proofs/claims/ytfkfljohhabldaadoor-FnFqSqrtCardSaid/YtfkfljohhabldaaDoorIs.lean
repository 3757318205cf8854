/- laws.is: is an element the bytes of a number? -/
import Derived.Test.YtfkfljohhabldaaDoorSpecM
import Derived.Test.YtfkfljohhabldaaDoorZz
import Derived.Test.YtfkfljohhabldaaDoorTree
namespace Go.Proofs.YtfkfljohhabldaaDoor
open Go.RowKit Go.FourQ

theorem is_plan_1 : planOk .any (opsAt Tryd.f11 1) (Array.replicate (opsAt Tryd.f11 1).size false) ((true, 0) :: (true, 1) :: (false, 2) :: (true, 3) :: (true, 4) :: []) = true := by kernel_rfl

set_option maxRecDepth 100000 in
set_option maxHeartbeats 2000000 in
theorem is_c {w : World} {x y : Nat} (hx : x < 256 ^ 16) (hy : y < 256 ^ 16) :
    Calls Tryd.prog 11 #[.agg (fpC x), .agg (dgA (digs 8 y))] w fun e w' => e = .returned (.bool (decide (x = y))) ∧ Below w.heap.size w w' := by
  go_enter Tryd.func11, Tryd.ntmps11
  go_upto_region 1 with (fail)
  have hB : Below w.heap.size w ((w.alloc (.cells (fpC x) 22)).alloc (.cells (dgA (digs 8 y)) 26)) := nb_alloc (nb_alloc (Below.refl _ _) _) _
  have F0 : ((w.alloc (.cells (fpC x) 22)).alloc (.cells (dgA (digs 8 y)) 26)).heap[w.heap.size]? = some (.cells (fpC x) 22 (0, 0)) := hp2_0 (w := w) (.cells (fpC x) 22) (.cells (dgA (digs 8 y)) 26)
  have F1 : ((w.alloc (.cells (fpC x) 22)).alloc (.cells (dgA (digs 8 y)) 26)).heap[w.heap.size + 1]? = some (.cells (dgA (digs 8 y)) 26 (0, 0)) := hp2_1 (w := w) (.cells (fpC x) 22) (.cells (dgA (digs 8 y)) 26)
  obtain ⟨W0, hW⟩ : ∃ W0 : World, W0 = ((w.alloc (.cells (fpC x) 22)).alloc (.cells (dgA (digs 8 y)) 26)) := ⟨_, rfl⟩
  rw [← hW] at hB F0 F1 ⊢
  clear hW
  replace F0 := Lib.hid F0
  replace F1 := Lib.hid F1
  refine wp_region_at (opsAt Tryd.f11 1) ((true, 0) :: (true, 1) :: (false, 2) :: (true, 3) :: (true, 4) :: []) (by kernel_rfl) rfl (by kernel_rfl) (fun _ _ d _ _ h => by cases d <;> exact h) (by kernel_rfl) is_plan_1 ?_
  have hS1 : Below W0.heap.size W0 W0.drew := (Below.refl _ _).drew
  refine k_row (by kernel_rfl) (d := (some 5)) (by kernel_rfl) (ty := 22) (x := (.tmp 2)) (by kernel_rfl) (b := w.heap.size) (by kernel_rfl) (cs := (fpC x)) (fun w' hs => ⟨_, nb_heap F0.out w' hs⟩) Tryd.underlying22 rfl (by kernel_rfl) ?_
  refine k_row (by kernel_rfl) (d := (some 6)) (by kernel_rfl) (ty := 26) (x := (.tmp 3)) (by kernel_rfl) (b := w.heap.size + 1) (by kernel_rfl) (cs := (dgA (digs 8 y))) (fun w' hs => ⟨_, nb_heap F1.out w' hs⟩) Tryd.underlying26 rfl (by kernel_rfl) ?_
  refine k_call (by kernel_rfl) (d := (some 7)) (by kernel_rfl) (f := 45) (args := #[.agg (dgA (digs 8 y))]) (v := .agg (fpC y)) (fun _ => by kernel_rfl) (bytes_c _ _ hy) (fun w2 hb2 => ⟨nb_trans hS1 hb2, ?_⟩)
  have hS2 := nb_trans hS1 hb2
  refine k_eql (by kernel_rfl) (d := (some 8)) (by kernel_rfl) (ty := 22) (ty' := 22) (x := (.tmp 5)) (y := (.tmp 7)) (by kernel_rfl) (xs := (fpC x)) (ys := (fpC y)) (b := (decide (x = y))) (by kernel_rfl) (by kernel_rfl) (by kernel_rfl) (fun w' => eql_fpC Tryd.underlying22 (by kernel_rfl) Tryd.underlying5 hx hy w') ?_
  refine k_pure (by kernel_rfl) (d := (some 4)) (by kernel_rfl) (v := .bool (decide (x = y))) (fun _ => by kernel_rfl) ?_
  refine k_end ?_
  go_simp
  have hB1 := nb_trans hB hS2
  have F0_1 := Lib.hid (nb_heap F0.out _ hS2)
  have F1_1 := Lib.hid (nb_heap F1.out _ hS2)
  go_wp2_with fail
  exact bodyPost_ret_by (by kernel_rfl) (by kernel_rfl) ⟨rfl, hB1⟩

theorem is_true {w : World} {x y : Nat} (h : x = y) (hx : LowB x) :
    Calls Tryd.prog 11 #[.agg (fpC x), .agg (dgA (digs 8 y))] w fun e w' => e = .returned (.bool true) ∧ Below w.heap.size w w' := by
  subst h
  have := is_c (w := w) (low16 hx) (low16 hx)
  rwa [decide_eq_true rfl] at this

section
variable {w : World} {x : Nat}

end

end Go.Proofs.YtfkfljohhabldaaDoor
