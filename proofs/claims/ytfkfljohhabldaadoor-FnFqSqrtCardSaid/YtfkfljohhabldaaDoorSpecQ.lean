/- The reference's functions on pairs; what hands pairs on. modulusP holds the prime where elements are made the least. -/
import Derived.Test.YtfkfljohhabldaaDoorPair
namespace Go.Proofs.YtfkfljohhabldaaDoor
open Go.RowKit Go.FourQ

theorem lt16 (x : Zp) : x.val < 256 ^ 16 := Nat.lt_trans x.lt (by decide +kernel)

set_option maxRecDepth 100000 in
set_option maxHeartbeats 1000000 in
theorem ofQ_c {w : World} {a b : Nat} (ha : a < 256 ^ 16) (hb : b < 256 ^ 16) :
    Calls Tryd.prog 19 #[.agg (fps [a, b])] w fun e w' => e = .returned (.agg (dgQ ((zp a).val) ((zp b).val))) ∧ Below w.heap.size w w' := by
  go_enter Tryd.func19, Tryd.ntmps19
  go_upto_region 1 with (fail)
  have K0 : Kept w [(w.heap.size, (fps [a, b]))] [(w.heap.size + 1, 16)] ((w.alloc (.cells (fps [a, b]) 33)).alloc (.cells #[.int .u64 0, .int .u64 0, .int .u64 0, .int .u64 0, .int .u64 0, .int .u64 0, .int .u64 0, .int .u64 0, .int .u64 0, .int .u64 0, .int .u64 0, .int .u64 0, .int .u64 0, .int .u64 0, .int .u64 0, .int .u64 0] 39)) := Kept.one (nb_alloc (nb_alloc (Below.refl _ _) _) _) (rowsC ⟨_, hp2_0 (w := w) (.cells (fps [a, b]) 33) (.cells #[.int .u64 0, .int .u64 0, .int .u64 0, .int .u64 0, .int .u64 0, .int .u64 0, .int .u64 0, .int .u64 0, .int .u64 0, .int .u64 0, .int .u64 0, .int .u64 0, .int .u64 0, .int .u64 0, .int .u64 0, .int .u64 0] 39)⟩ rows0) rfl (hp2_1 (w := w) (.cells (fps [a, b]) 33) (.cells #[.int .u64 0, .int .u64 0, .int .u64 0, .int .u64 0, .int .u64 0, .int .u64 0, .int .u64 0, .int .u64 0, .int .u64 0, .int .u64 0, .int .u64 0, .int .u64 0, .int .u64 0, .int .u64 0, .int .u64 0, .int .u64 0] 39))
  obtain ⟨W0, hW⟩ : ∃ W0 : World, W0 = ((w.alloc (.cells (fps [a, b]) 33)).alloc (.cells #[.int .u64 0, .int .u64 0, .int .u64 0, .int .u64 0, .int .u64 0, .int .u64 0, .int .u64 0, .int .u64 0, .int .u64 0, .int .u64 0, .int .u64 0, .int .u64 0, .int .u64 0, .int .u64 0, .int .u64 0, .int .u64 0] 39)) := ⟨_, rfl⟩
  rw [← hW] at K0 ⊢
  clear hW
  refine wp_region_atS (opsAt Tryd.f19 1) ((true, 0) :: (true, 1) :: (true, 3) :: (true, 4) :: (false, 2) :: (false, 5) :: (true, 6) :: (false, 7) :: []) (Kept w [(w.heap.size, (fps [a, b]))] [(w.heap.size + 1, 16)]) (by kernel_rfl) rfl (by kernel_rfl) (fun _ _ d _ _ h => by cases d <;> exact h) (by kernel_rfl) (by kernel_rfl) K0.drew ?_
  have K0d := K0.drew
  refine k_pure (by kernel_rfl) (d := (some 3)) (by kernel_rfl) (v := .pointer (some ⟨w.heap.size, 0, none⟩)) (fun _ => by kernel_rfl) ?_
  refine k_part (by kernel_rfl) (d := (some 4)) (by kernel_rfl) (ty := 22) (x := (.tmp 3)) (by kernel_rfl) (b := w.heap.size) (off := 0) (by kernel_rfl) (all := (fps [a, b])) (cs := (fpC a)) (fun _ hs => hs.at 0 rfl) fps_part0 Tryd.underlying22 rfl (by kernel_rfl) ?_
  refine k_pure (by kernel_rfl) (d := (some 6)) (by kernel_rfl) (v := .pointer (some ⟨w.heap.size, 16, none⟩)) (fun _ => by kernel_rfl) ?_
  refine k_part (by kernel_rfl) (d := (some 7)) (by kernel_rfl) (ty := 22) (x := (.tmp 6)) (by kernel_rfl) (b := w.heap.size) (off := 16) (by kernel_rfl) (all := (fps [a, b])) (cs := (fpC b)) (fun _ hs => hs.at 0 rfl) fps_part1 Tryd.underlying22 rfl (by kernel_rfl) ?_
  refine k_call (by kernel_rfl) (d := (some 5)) (by kernel_rfl) (f := 12) (args := #[.agg (fpC a)]) (v := .agg (dgA (digs 8 ((zp a).val)))) (fun _ => by kernel_rfl) (ofZ_c ha) (fun w1 hb1 => ⟨K0d.go hb1, ?_⟩)
  have K1 := K0d.go hb1
  refine k_call (by kernel_rfl) (d := (some 8)) (by kernel_rfl) (f := 12) (args := #[.agg (fpC b)]) (v := .agg (dgA (digs 8 ((zp b).val)))) (fun _ => by kernel_rfl) (ofZ_c hb) (fun w2 hb2 => ⟨K1.go hb2, ?_⟩)
  have K2 := K1.go hb2
  refine k_pure (by kernel_rfl) (d := (some 9)) (by kernel_rfl) (v := .agg (dgQ ((zp a).val) ((zp b).val))) (fun _ => by kernel_rfl) ?_
  obtain ⟨T, old, hold, hT⟩ := K2.room _ (List.mem_cons_self ..)
  have KF := K2.put (cs := (dgQ ((zp a).val) ((zp b).val))) (by kernel_rfl) (by omega) (neC (by omega) ne0)
  refine k_store (by kernel_rfl) (d := none) (by kernel_rfl) (ty := 39) (x := (.tmp 2)) (y := (.tmp 9)) (by kernel_rfl) (g := w.heap.size + 1) (cells := (dgQ ((zp a).val) ((zp b).val))) (by kernel_rfl) (by kernel_rfl) hT (by kernel_rfl) (hold.trans (by kernel_rfl)) (all_dgQ _ _) ⟨KF, ?_⟩
  have hR := setRow_heap _ _ _ (dgQ ((zp a).val) ((zp b).val)) _ _ hT
  refine k_end ?_
  have KB := KF.nb
  go_simp
  go_wp2_with fail
  exact bodyPost_ret_by (results_cell_row rfl _ _ (w.heap.size + 1) _ (dgQ ((zp a).val) ((zp b).val)) _ _ rfl hR Tryd.underlying39 rfl (by kernel_rfl)) rfl ⟨rfl, KB⟩

set_option maxRecDepth 100000 in
set_option maxHeartbeats 1000000 in
theorem bytesQ_c {w : World} {x0 x1 : Zp} :
    Calls Tryd.prog 27 #[.agg (dgQ x0.val x1.val)] w fun e w' => e = .returned (.agg (fps [x0.val, x1.val])) ∧ Below w.heap.size w w' := by
  go_enter Tryd.func27, Tryd.ntmps27
  go_upto_region 1 with (fail)
  have K0 : Kept w [(w.heap.size, (dgQ x0.val x1.val))] [(w.heap.size + 1, 32)] ((w.alloc (.cells (dgQ x0.val x1.val) 39)).alloc (.cells #[.int .u8 0, .int .u8 0, .int .u8 0, .int .u8 0, .int .u8 0, .int .u8 0, .int .u8 0, .int .u8 0, .int .u8 0, .int .u8 0, .int .u8 0, .int .u8 0, .int .u8 0, .int .u8 0, .int .u8 0, .int .u8 0, .int .u8 0, .int .u8 0, .int .u8 0, .int .u8 0, .int .u8 0, .int .u8 0, .int .u8 0, .int .u8 0, .int .u8 0, .int .u8 0, .int .u8 0, .int .u8 0, .int .u8 0, .int .u8 0, .int .u8 0, .int .u8 0] 33)) := Kept.one (nb_alloc (nb_alloc (Below.refl _ _) _) _) (rowsC ⟨_, hp2_0 (w := w) (.cells (dgQ x0.val x1.val) 39) (.cells #[.int .u8 0, .int .u8 0, .int .u8 0, .int .u8 0, .int .u8 0, .int .u8 0, .int .u8 0, .int .u8 0, .int .u8 0, .int .u8 0, .int .u8 0, .int .u8 0, .int .u8 0, .int .u8 0, .int .u8 0, .int .u8 0, .int .u8 0, .int .u8 0, .int .u8 0, .int .u8 0, .int .u8 0, .int .u8 0, .int .u8 0, .int .u8 0, .int .u8 0, .int .u8 0, .int .u8 0, .int .u8 0, .int .u8 0, .int .u8 0, .int .u8 0, .int .u8 0] 33)⟩ rows0) rfl (hp2_1 (w := w) (.cells (dgQ x0.val x1.val) 39) (.cells #[.int .u8 0, .int .u8 0, .int .u8 0, .int .u8 0, .int .u8 0, .int .u8 0, .int .u8 0, .int .u8 0, .int .u8 0, .int .u8 0, .int .u8 0, .int .u8 0, .int .u8 0, .int .u8 0, .int .u8 0, .int .u8 0, .int .u8 0, .int .u8 0, .int .u8 0, .int .u8 0, .int .u8 0, .int .u8 0, .int .u8 0, .int .u8 0, .int .u8 0, .int .u8 0, .int .u8 0, .int .u8 0, .int .u8 0, .int .u8 0, .int .u8 0, .int .u8 0] 33))
  obtain ⟨W0, hW⟩ : ∃ W0 : World, W0 = ((w.alloc (.cells (dgQ x0.val x1.val) 39)).alloc (.cells #[.int .u8 0, .int .u8 0, .int .u8 0, .int .u8 0, .int .u8 0, .int .u8 0, .int .u8 0, .int .u8 0, .int .u8 0, .int .u8 0, .int .u8 0, .int .u8 0, .int .u8 0, .int .u8 0, .int .u8 0, .int .u8 0, .int .u8 0, .int .u8 0, .int .u8 0, .int .u8 0, .int .u8 0, .int .u8 0, .int .u8 0, .int .u8 0, .int .u8 0, .int .u8 0, .int .u8 0, .int .u8 0, .int .u8 0, .int .u8 0, .int .u8 0, .int .u8 0] 33)) := ⟨_, rfl⟩
  rw [← hW] at K0 ⊢
  clear hW
  refine wp_region_atS (opsAt Tryd.f27 1) ((true, 0) :: (true, 1) :: (true, 3) :: (true, 4) :: (false, 2) :: (false, 5) :: (true, 6) :: (false, 7) :: []) (Kept w [(w.heap.size, (dgQ x0.val x1.val))] [(w.heap.size + 1, 32)]) (by kernel_rfl) rfl (by kernel_rfl) (fun _ _ d _ _ h => by cases d <;> exact h) (by kernel_rfl) (by kernel_rfl) K0.drew ?_
  have K0d := K0.drew
  refine k_pure (by kernel_rfl) (d := (some 3)) (by kernel_rfl) (v := .pointer (some ⟨w.heap.size, 0, none⟩)) (fun _ => by kernel_rfl) ?_
  refine k_part (by kernel_rfl) (d := (some 4)) (by kernel_rfl) (ty := 26) (x := (.tmp 3)) (by kernel_rfl) (b := w.heap.size) (off := 0) (by kernel_rfl) (all := (dgQ x0.val x1.val)) (cs := (dgA (digs 8 x0.val))) (fun _ hs => hs.at 0 rfl) dgQ_part0 Tryd.underlying26 rfl (by kernel_rfl) ?_
  refine k_pure (by kernel_rfl) (d := (some 6)) (by kernel_rfl) (v := .pointer (some ⟨w.heap.size, 8, none⟩)) (fun _ => by kernel_rfl) ?_
  refine k_part (by kernel_rfl) (d := (some 7)) (by kernel_rfl) (ty := 26) (x := (.tmp 6)) (by kernel_rfl) (b := w.heap.size) (off := 8) (by kernel_rfl) (all := (dgQ x0.val x1.val)) (cs := (dgA (digs 8 x1.val))) (fun _ hs => hs.at 0 rfl) dgQ_part1 Tryd.underlying26 rfl (by kernel_rfl) ?_
  refine k_call (by kernel_rfl) (d := (some 5)) (by kernel_rfl) (f := 45) (args := #[.agg (dgA (digs 8 x0.val))]) (v := .agg (fpC x0.val)) (fun _ => by kernel_rfl) (bytesZ_c _) (fun w1 hb1 => ⟨K0d.go hb1, ?_⟩)
  have K1 := K0d.go hb1
  refine k_call (by kernel_rfl) (d := (some 8)) (by kernel_rfl) (f := 45) (args := #[.agg (dgA (digs 8 x1.val))]) (v := .agg (fpC x1.val)) (fun _ => by kernel_rfl) (bytesZ_c _) (fun w2 hb2 => ⟨K1.go hb2, ?_⟩)
  have K2 := K1.go hb2
  refine k_pure (by kernel_rfl) (d := (some 9)) (by kernel_rfl) (v := .agg (fps [x0.val, x1.val])) (fun _ => by kernel_rfl) ?_
  obtain ⟨T, old, hold, hT⟩ := K2.room _ (List.mem_cons_self ..)
  have KF := K2.put (cs := (fps [x0.val, x1.val])) (by kernel_rfl) (by omega) (neC (by omega) ne0)
  refine k_store (by kernel_rfl) (d := none) (by kernel_rfl) (ty := 33) (x := (.tmp 2)) (y := (.tmp 9)) (by kernel_rfl) (g := w.heap.size + 1) (cells := (fps [x0.val, x1.val])) (by kernel_rfl) (by kernel_rfl) hT (by kernel_rfl) (hold.trans (by kernel_rfl)) (all_fps2 _ _) ⟨KF, ?_⟩
  have hR := setRow_heap _ _ _ (fps [x0.val, x1.val]) _ _ hT
  refine k_end ?_
  have KB := KF.nb
  go_simp
  go_wp2_with fail
  exact bodyPost_ret_by (results_cell_row rfl _ _ (w.heap.size + 1) _ (fps [x0.val, x1.val]) _ _ rfl hR Tryd.underlying33 rfl (by kernel_rfl)) rfl ⟨rfl, KB⟩

set_option maxRecDepth 100000 in
set_option maxHeartbeats 1000000 in
theorem addQ_c {w : World} {x0 x1 y0 y1 : Zp} :
    Calls Tryd.prog 58 #[.agg (dgQ x0.val x1.val), .agg (dgQ y0.val y1.val)] w fun e w' => e = .returned (.agg (dgQ ((x0 + y0).val) ((x1 + y1).val))) ∧ Below w.heap.size w w' := by
  go_enter Tryd.func58, Tryd.ntmps58
  go_upto_region 1 with (fail)
  have K0 : Kept w [(w.heap.size, (dgQ x0.val x1.val)), (w.heap.size + 1, (dgQ y0.val y1.val))] [(w.heap.size + 1 + 1, 16)] (((w.alloc (.cells (dgQ x0.val x1.val) 39)).alloc (.cells (dgQ y0.val y1.val) 39)).alloc (.cells #[.int .u64 0, .int .u64 0, .int .u64 0, .int .u64 0, .int .u64 0, .int .u64 0, .int .u64 0, .int .u64 0, .int .u64 0, .int .u64 0, .int .u64 0, .int .u64 0, .int .u64 0, .int .u64 0, .int .u64 0, .int .u64 0] 39)) := Kept.one (nb_alloc (nb_alloc (nb_alloc (Below.refl _ _) _) _) _) (rowsC ⟨_, hp3_0 (w := w) (.cells (dgQ x0.val x1.val) 39) (.cells (dgQ y0.val y1.val) 39) (.cells #[.int .u64 0, .int .u64 0, .int .u64 0, .int .u64 0, .int .u64 0, .int .u64 0, .int .u64 0, .int .u64 0, .int .u64 0, .int .u64 0, .int .u64 0, .int .u64 0, .int .u64 0, .int .u64 0, .int .u64 0, .int .u64 0] 39)⟩ (rowsC ⟨_, hp3_1 (w := w) (.cells (dgQ x0.val x1.val) 39) (.cells (dgQ y0.val y1.val) 39) (.cells #[.int .u64 0, .int .u64 0, .int .u64 0, .int .u64 0, .int .u64 0, .int .u64 0, .int .u64 0, .int .u64 0, .int .u64 0, .int .u64 0, .int .u64 0, .int .u64 0, .int .u64 0, .int .u64 0, .int .u64 0, .int .u64 0] 39)⟩ rows0)) rfl (hp3_2 (w := w) (.cells (dgQ x0.val x1.val) 39) (.cells (dgQ y0.val y1.val) 39) (.cells #[.int .u64 0, .int .u64 0, .int .u64 0, .int .u64 0, .int .u64 0, .int .u64 0, .int .u64 0, .int .u64 0, .int .u64 0, .int .u64 0, .int .u64 0, .int .u64 0, .int .u64 0, .int .u64 0, .int .u64 0, .int .u64 0] 39))
  obtain ⟨W0, hW⟩ : ∃ W0 : World, W0 = (((w.alloc (.cells (dgQ x0.val x1.val) 39)).alloc (.cells (dgQ y0.val y1.val) 39)).alloc (.cells #[.int .u64 0, .int .u64 0, .int .u64 0, .int .u64 0, .int .u64 0, .int .u64 0, .int .u64 0, .int .u64 0, .int .u64 0, .int .u64 0, .int .u64 0, .int .u64 0, .int .u64 0, .int .u64 0, .int .u64 0, .int .u64 0] 39)) := ⟨_, rfl⟩
  rw [← hW] at K0 ⊢
  clear hW
  refine wp_region_atS (opsAt Tryd.f58 1) ((true, 0) :: (true, 1) :: (true, 2) :: (true, 3) :: (true, 5) :: (true, 6) :: (true, 7) :: (true, 8) :: (false, 4) :: (false, 9) :: (true, 10) :: (false, 11) :: []) (Kept w [(w.heap.size, (dgQ x0.val x1.val)), (w.heap.size + 1, (dgQ y0.val y1.val))] [(w.heap.size + 1 + 1, 16)]) (by kernel_rfl) rfl (by kernel_rfl) (fun _ _ d _ _ h => by cases d <;> exact h) (by kernel_rfl) (by kernel_rfl) K0.drew ?_
  have K0d := K0.drew
  refine k_pure (by kernel_rfl) (d := (some 5)) (by kernel_rfl) (v := .pointer (some ⟨w.heap.size, 0, none⟩)) (fun _ => by kernel_rfl) ?_
  refine k_part (by kernel_rfl) (d := (some 6)) (by kernel_rfl) (ty := 26) (x := (.tmp 5)) (by kernel_rfl) (b := w.heap.size) (off := 0) (by kernel_rfl) (all := (dgQ x0.val x1.val)) (cs := (dgA (digs 8 x0.val))) (fun _ hs => hs.at 0 rfl) dgQ_part0 Tryd.underlying26 rfl (by kernel_rfl) ?_
  refine k_pure (by kernel_rfl) (d := (some 7)) (by kernel_rfl) (v := .pointer (some ⟨w.heap.size + 1, 0, none⟩)) (fun _ => by kernel_rfl) ?_
  refine k_part (by kernel_rfl) (d := (some 8)) (by kernel_rfl) (ty := 26) (x := (.tmp 7)) (by kernel_rfl) (b := w.heap.size + 1) (off := 0) (by kernel_rfl) (all := (dgQ y0.val y1.val)) (cs := (dgA (digs 8 y0.val))) (fun _ hs => hs.at 1 rfl) dgQ_part0 Tryd.underlying26 rfl (by kernel_rfl) ?_
  refine k_pure (by kernel_rfl) (d := (some 10)) (by kernel_rfl) (v := .pointer (some ⟨w.heap.size, 8, none⟩)) (fun _ => by kernel_rfl) ?_
  refine k_part (by kernel_rfl) (d := (some 11)) (by kernel_rfl) (ty := 26) (x := (.tmp 10)) (by kernel_rfl) (b := w.heap.size) (off := 8) (by kernel_rfl) (all := (dgQ x0.val x1.val)) (cs := (dgA (digs 8 x1.val))) (fun _ hs => hs.at 0 rfl) dgQ_part1 Tryd.underlying26 rfl (by kernel_rfl) ?_
  refine k_pure (by kernel_rfl) (d := (some 12)) (by kernel_rfl) (v := .pointer (some ⟨w.heap.size + 1, 8, none⟩)) (fun _ => by kernel_rfl) ?_
  refine k_part (by kernel_rfl) (d := (some 13)) (by kernel_rfl) (ty := 26) (x := (.tmp 12)) (by kernel_rfl) (b := w.heap.size + 1) (off := 8) (by kernel_rfl) (all := (dgQ y0.val y1.val)) (cs := (dgA (digs 8 y1.val))) (fun _ hs => hs.at 1 rfl) dgQ_part1 Tryd.underlying26 rfl (by kernel_rfl) ?_
  refine k_call (by kernel_rfl) (d := (some 9)) (by kernel_rfl) (f := 61) (args := #[.agg (dgA (digs 8 x0.val)), .agg (dgA (digs 8 y0.val))]) (v := .agg (dgA (digs 8 ((x0 + y0).val)))) (fun _ => by kernel_rfl) (addZ_c _ _) (fun w1 hb1 => ⟨K0d.go hb1, ?_⟩)
  have K1 := K0d.go hb1
  refine k_call (by kernel_rfl) (d := (some 14)) (by kernel_rfl) (f := 61) (args := #[.agg (dgA (digs 8 x1.val)), .agg (dgA (digs 8 y1.val))]) (v := .agg (dgA (digs 8 ((x1 + y1).val)))) (fun _ => by kernel_rfl) (addZ_c _ _) (fun w2 hb2 => ⟨K1.go hb2, ?_⟩)
  have K2 := K1.go hb2
  refine k_pure (by kernel_rfl) (d := (some 15)) (by kernel_rfl) (v := .agg (dgQ ((x0 + y0).val) ((x1 + y1).val))) (fun _ => by kernel_rfl) ?_
  obtain ⟨T, old, hold, hT⟩ := K2.room _ (List.mem_cons_self ..)
  have KF := K2.put (cs := (dgQ ((x0 + y0).val) ((x1 + y1).val))) (by kernel_rfl) (by omega) (neC (by omega) (neC (by omega) ne0))
  refine k_store (by kernel_rfl) (d := none) (by kernel_rfl) (ty := 39) (x := (.tmp 4)) (y := (.tmp 15)) (by kernel_rfl) (g := w.heap.size + 1 + 1) (cells := (dgQ ((x0 + y0).val) ((x1 + y1).val))) (by kernel_rfl) (by kernel_rfl) hT (by kernel_rfl) (hold.trans (by kernel_rfl)) (all_dgQ _ _) ⟨KF, ?_⟩
  have hR := setRow_heap _ _ _ (dgQ ((x0 + y0).val) ((x1 + y1).val)) _ _ hT
  refine k_end ?_
  have KB := KF.nb
  go_simp
  go_wp2_with fail
  exact bodyPost_ret_by (results_cell_row rfl _ _ (w.heap.size + 1 + 1) _ (dgQ ((x0 + y0).val) ((x1 + y1).val)) _ _ rfl hR Tryd.underlying39 rfl (by kernel_rfl)) rfl ⟨rfl, KB⟩

set_option maxRecDepth 100000 in
set_option maxHeartbeats 1000000 in
theorem negQ_c {w : World} {x0 x1 : Zp} :
    Calls Tryd.prog 41 #[.agg (dgQ x0.val x1.val)] w fun e w' => e = .returned (.agg (dgQ ((-x0).val) ((-x1).val))) ∧ Below w.heap.size w w' := by
  go_enter Tryd.func41, Tryd.ntmps41
  go_upto_region 1 with (fail)
  have K0 : Kept w [(w.heap.size, (dgQ x0.val x1.val))] [(w.heap.size + 1, 16)] ((w.alloc (.cells (dgQ x0.val x1.val) 39)).alloc (.cells #[.int .u64 0, .int .u64 0, .int .u64 0, .int .u64 0, .int .u64 0, .int .u64 0, .int .u64 0, .int .u64 0, .int .u64 0, .int .u64 0, .int .u64 0, .int .u64 0, .int .u64 0, .int .u64 0, .int .u64 0, .int .u64 0] 39)) := Kept.one (nb_alloc (nb_alloc (Below.refl _ _) _) _) (rowsC ⟨_, hp2_0 (w := w) (.cells (dgQ x0.val x1.val) 39) (.cells #[.int .u64 0, .int .u64 0, .int .u64 0, .int .u64 0, .int .u64 0, .int .u64 0, .int .u64 0, .int .u64 0, .int .u64 0, .int .u64 0, .int .u64 0, .int .u64 0, .int .u64 0, .int .u64 0, .int .u64 0, .int .u64 0] 39)⟩ rows0) rfl (hp2_1 (w := w) (.cells (dgQ x0.val x1.val) 39) (.cells #[.int .u64 0, .int .u64 0, .int .u64 0, .int .u64 0, .int .u64 0, .int .u64 0, .int .u64 0, .int .u64 0, .int .u64 0, .int .u64 0, .int .u64 0, .int .u64 0, .int .u64 0, .int .u64 0, .int .u64 0, .int .u64 0] 39))
  obtain ⟨W0, hW⟩ : ∃ W0 : World, W0 = ((w.alloc (.cells (dgQ x0.val x1.val) 39)).alloc (.cells #[.int .u64 0, .int .u64 0, .int .u64 0, .int .u64 0, .int .u64 0, .int .u64 0, .int .u64 0, .int .u64 0, .int .u64 0, .int .u64 0, .int .u64 0, .int .u64 0, .int .u64 0, .int .u64 0, .int .u64 0, .int .u64 0] 39)) := ⟨_, rfl⟩
  rw [← hW] at K0 ⊢
  clear hW
  refine wp_region_atS (opsAt Tryd.f41 1) ((true, 0) :: (true, 1) :: (true, 3) :: (true, 4) :: (false, 2) :: (false, 5) :: (true, 6) :: (false, 7) :: []) (Kept w [(w.heap.size, (dgQ x0.val x1.val))] [(w.heap.size + 1, 16)]) (by kernel_rfl) rfl (by kernel_rfl) (fun _ _ d _ _ h => by cases d <;> exact h) (by kernel_rfl) (by kernel_rfl) K0.drew ?_
  have K0d := K0.drew
  refine k_pure (by kernel_rfl) (d := (some 3)) (by kernel_rfl) (v := .pointer (some ⟨w.heap.size, 0, none⟩)) (fun _ => by kernel_rfl) ?_
  refine k_part (by kernel_rfl) (d := (some 4)) (by kernel_rfl) (ty := 26) (x := (.tmp 3)) (by kernel_rfl) (b := w.heap.size) (off := 0) (by kernel_rfl) (all := (dgQ x0.val x1.val)) (cs := (dgA (digs 8 x0.val))) (fun _ hs => hs.at 0 rfl) dgQ_part0 Tryd.underlying26 rfl (by kernel_rfl) ?_
  refine k_pure (by kernel_rfl) (d := (some 6)) (by kernel_rfl) (v := .pointer (some ⟨w.heap.size, 8, none⟩)) (fun _ => by kernel_rfl) ?_
  refine k_part (by kernel_rfl) (d := (some 7)) (by kernel_rfl) (ty := 26) (x := (.tmp 6)) (by kernel_rfl) (b := w.heap.size) (off := 8) (by kernel_rfl) (all := (dgQ x0.val x1.val)) (cs := (dgA (digs 8 x1.val))) (fun _ hs => hs.at 0 rfl) dgQ_part1 Tryd.underlying26 rfl (by kernel_rfl) ?_
  refine k_call (by kernel_rfl) (d := (some 5)) (by kernel_rfl) (f := 28) (args := #[.agg (dgA (digs 8 x0.val))]) (v := .agg (dgA (digs 8 ((-x0).val)))) (fun _ => by kernel_rfl) (negZ_c _) (fun w1 hb1 => ⟨K0d.go hb1, ?_⟩)
  have K1 := K0d.go hb1
  refine k_call (by kernel_rfl) (d := (some 8)) (by kernel_rfl) (f := 28) (args := #[.agg (dgA (digs 8 x1.val))]) (v := .agg (dgA (digs 8 ((-x1).val)))) (fun _ => by kernel_rfl) (negZ_c _) (fun w2 hb2 => ⟨K1.go hb2, ?_⟩)
  have K2 := K1.go hb2
  refine k_pure (by kernel_rfl) (d := (some 9)) (by kernel_rfl) (v := .agg (dgQ ((-x0).val) ((-x1).val))) (fun _ => by kernel_rfl) ?_
  obtain ⟨T, old, hold, hT⟩ := K2.room _ (List.mem_cons_self ..)
  have KF := K2.put (cs := (dgQ ((-x0).val) ((-x1).val))) (by kernel_rfl) (by omega) (neC (by omega) ne0)
  refine k_store (by kernel_rfl) (d := none) (by kernel_rfl) (ty := 39) (x := (.tmp 2)) (y := (.tmp 9)) (by kernel_rfl) (g := w.heap.size + 1) (cells := (dgQ ((-x0).val) ((-x1).val))) (by kernel_rfl) (by kernel_rfl) hT (by kernel_rfl) (hold.trans (by kernel_rfl)) (all_dgQ _ _) ⟨KF, ?_⟩
  have hR := setRow_heap _ _ _ (dgQ ((-x0).val) ((-x1).val)) _ _ hT
  refine k_end ?_
  have KB := KF.nb
  go_simp
  go_wp2_with fail
  exact bodyPost_ret_by (results_cell_row rfl _ _ (w.heap.size + 1) _ (dgQ ((-x0).val) ((-x1).val)) _ _ rfl hR Tryd.underlying39 rfl (by kernel_rfl)) rfl ⟨rfl, KB⟩

set_option maxRecDepth 100000 in
set_option maxHeartbeats 1000000 in
theorem subQ_c {w : World} {x0 x1 y0 y1 : Zp} :
    Calls Tryd.prog 57 #[.agg (dgQ x0.val x1.val), .agg (dgQ y0.val y1.val)] w fun e w' => e = .returned (.agg (dgQ ((x0 - y0).val) ((x1 - y1).val))) ∧ Below w.heap.size w w' := by
  go_enter Tryd.func57, Tryd.ntmps57
  go_upto_region 1 with (fail)
  have K0 : Kept w [(w.heap.size, (dgQ x0.val x1.val)), (w.heap.size + 1, (dgQ y0.val y1.val))] [(w.heap.size + 1 + 1, 16)] (((w.alloc (.cells (dgQ x0.val x1.val) 39)).alloc (.cells (dgQ y0.val y1.val) 39)).alloc (.cells #[.int .u64 0, .int .u64 0, .int .u64 0, .int .u64 0, .int .u64 0, .int .u64 0, .int .u64 0, .int .u64 0, .int .u64 0, .int .u64 0, .int .u64 0, .int .u64 0, .int .u64 0, .int .u64 0, .int .u64 0, .int .u64 0] 39)) := Kept.one (nb_alloc (nb_alloc (nb_alloc (Below.refl _ _) _) _) _) (rowsC ⟨_, hp3_0 (w := w) (.cells (dgQ x0.val x1.val) 39) (.cells (dgQ y0.val y1.val) 39) (.cells #[.int .u64 0, .int .u64 0, .int .u64 0, .int .u64 0, .int .u64 0, .int .u64 0, .int .u64 0, .int .u64 0, .int .u64 0, .int .u64 0, .int .u64 0, .int .u64 0, .int .u64 0, .int .u64 0, .int .u64 0, .int .u64 0] 39)⟩ (rowsC ⟨_, hp3_1 (w := w) (.cells (dgQ x0.val x1.val) 39) (.cells (dgQ y0.val y1.val) 39) (.cells #[.int .u64 0, .int .u64 0, .int .u64 0, .int .u64 0, .int .u64 0, .int .u64 0, .int .u64 0, .int .u64 0, .int .u64 0, .int .u64 0, .int .u64 0, .int .u64 0, .int .u64 0, .int .u64 0, .int .u64 0, .int .u64 0] 39)⟩ rows0)) rfl (hp3_2 (w := w) (.cells (dgQ x0.val x1.val) 39) (.cells (dgQ y0.val y1.val) 39) (.cells #[.int .u64 0, .int .u64 0, .int .u64 0, .int .u64 0, .int .u64 0, .int .u64 0, .int .u64 0, .int .u64 0, .int .u64 0, .int .u64 0, .int .u64 0, .int .u64 0, .int .u64 0, .int .u64 0, .int .u64 0, .int .u64 0] 39))
  obtain ⟨W0, hW⟩ : ∃ W0 : World, W0 = (((w.alloc (.cells (dgQ x0.val x1.val) 39)).alloc (.cells (dgQ y0.val y1.val) 39)).alloc (.cells #[.int .u64 0, .int .u64 0, .int .u64 0, .int .u64 0, .int .u64 0, .int .u64 0, .int .u64 0, .int .u64 0, .int .u64 0, .int .u64 0, .int .u64 0, .int .u64 0, .int .u64 0, .int .u64 0, .int .u64 0, .int .u64 0] 39)) := ⟨_, rfl⟩
  rw [← hW] at K0 ⊢
  clear hW
  refine wp_region_atS (opsAt Tryd.f57 1) ((true, 0) :: (true, 1) :: (false, 2) :: (false, 3) :: (false, 4) :: []) (Kept w [(w.heap.size, (dgQ x0.val x1.val)), (w.heap.size + 1, (dgQ y0.val y1.val))] [(w.heap.size + 1 + 1, 16)]) (by kernel_rfl) rfl (by kernel_rfl) (fun _ _ d _ _ h => by cases d <;> exact h) (by kernel_rfl) (by kernel_rfl) K0.drew ?_
  have K0d := K0.drew
  refine k_row (by kernel_rfl) (d := (some 5)) (by kernel_rfl) (ty := 39) (x := (.tmp 2)) (by kernel_rfl) (b := w.heap.size) (by kernel_rfl) (cs := (dgQ x0.val x1.val)) (fun _ hs => hs.at 0 rfl) Tryd.underlying39 rfl (by kernel_rfl) ?_
  refine k_row (by kernel_rfl) (d := (some 6)) (by kernel_rfl) (ty := 39) (x := (.tmp 3)) (by kernel_rfl) (b := w.heap.size + 1) (by kernel_rfl) (cs := (dgQ y0.val y1.val)) (fun _ hs => hs.at 1 rfl) Tryd.underlying39 rfl (by kernel_rfl) ?_
  refine k_call (by kernel_rfl) (d := (some 7)) (by kernel_rfl) (f := 41) (args := #[.agg (dgQ y0.val y1.val)]) (v := .agg (dgQ ((-y0).val) ((-y1).val))) (fun _ => by kernel_rfl) (negQ_c) (fun w1 hb1 => ⟨K0d.go hb1, ?_⟩)
  have K1 := K0d.go hb1
  refine k_call (by kernel_rfl) (d := (some 8)) (by kernel_rfl) (f := 58) (args := #[.agg (dgQ x0.val x1.val), .agg (dgQ ((-y0).val) ((-y1).val))]) (v := .agg (dgQ ((x0 - y0).val) ((x1 - y1).val))) (fun _ => by kernel_rfl) (addQ_c) (fun w2 hb2 => ⟨K1.go hb2, ?_⟩)
  have K2 := K1.go hb2
  obtain ⟨T, old, hold, hT⟩ := K2.room _ (List.mem_cons_self ..)
  have KF := K2.put (cs := (dgQ ((x0 - y0).val) ((x1 - y1).val))) (by kernel_rfl) (by omega) (neC (by omega) (neC (by omega) ne0))
  refine k_store (by kernel_rfl) (d := none) (by kernel_rfl) (ty := 39) (x := (.tmp 4)) (y := (.tmp 8)) (by kernel_rfl) (g := w.heap.size + 1 + 1) (cells := (dgQ ((x0 - y0).val) ((x1 - y1).val))) (by kernel_rfl) (by kernel_rfl) hT (by kernel_rfl) (hold.trans (by kernel_rfl)) (all_dgQ _ _) ⟨KF, ?_⟩
  have hR := setRow_heap _ _ _ (dgQ ((x0 - y0).val) ((x1 - y1).val)) _ _ hT
  refine k_end ?_
  have KB := KF.nb
  go_simp
  go_wp2_with fail
  exact bodyPost_ret_by (results_cell_row rfl _ _ (w.heap.size + 1 + 1) _ (dgQ ((x0 - y0).val) ((x1 - y1).val)) _ _ rfl hR Tryd.underlying39 rfl (by kernel_rfl)) rfl ⟨rfl, KB⟩

set_option maxRecDepth 100000 in
set_option maxHeartbeats 1000000 in
theorem mulQ_c {w : World} {x0 x1 y0 y1 : Zp} :
    Calls Tryd.prog 25 #[.agg (dgQ x0.val x1.val), .agg (dgQ y0.val y1.val)] w fun e w' => e = .returned (.agg (dgQ ((x0 * y0 - x1 * y1).val) ((x0 * y1 + x1 * y0).val))) ∧ Below w.heap.size w w' := by
  go_enter Tryd.func25, Tryd.ntmps25
  go_upto_region 1 with (fail)
  have K0 : Kept w [(w.heap.size, (dgQ x0.val x1.val)), (w.heap.size + 1, (dgQ y0.val y1.val))] [(w.heap.size + 1 + 1, 16)] (((w.alloc (.cells (dgQ x0.val x1.val) 39)).alloc (.cells (dgQ y0.val y1.val) 39)).alloc (.cells #[.int .u64 0, .int .u64 0, .int .u64 0, .int .u64 0, .int .u64 0, .int .u64 0, .int .u64 0, .int .u64 0, .int .u64 0, .int .u64 0, .int .u64 0, .int .u64 0, .int .u64 0, .int .u64 0, .int .u64 0, .int .u64 0] 39)) := Kept.one (nb_alloc (nb_alloc (nb_alloc (Below.refl _ _) _) _) _) (rowsC ⟨_, hp3_0 (w := w) (.cells (dgQ x0.val x1.val) 39) (.cells (dgQ y0.val y1.val) 39) (.cells #[.int .u64 0, .int .u64 0, .int .u64 0, .int .u64 0, .int .u64 0, .int .u64 0, .int .u64 0, .int .u64 0, .int .u64 0, .int .u64 0, .int .u64 0, .int .u64 0, .int .u64 0, .int .u64 0, .int .u64 0, .int .u64 0] 39)⟩ (rowsC ⟨_, hp3_1 (w := w) (.cells (dgQ x0.val x1.val) 39) (.cells (dgQ y0.val y1.val) 39) (.cells #[.int .u64 0, .int .u64 0, .int .u64 0, .int .u64 0, .int .u64 0, .int .u64 0, .int .u64 0, .int .u64 0, .int .u64 0, .int .u64 0, .int .u64 0, .int .u64 0, .int .u64 0, .int .u64 0, .int .u64 0, .int .u64 0] 39)⟩ rows0)) rfl (hp3_2 (w := w) (.cells (dgQ x0.val x1.val) 39) (.cells (dgQ y0.val y1.val) 39) (.cells #[.int .u64 0, .int .u64 0, .int .u64 0, .int .u64 0, .int .u64 0, .int .u64 0, .int .u64 0, .int .u64 0, .int .u64 0, .int .u64 0, .int .u64 0, .int .u64 0, .int .u64 0, .int .u64 0, .int .u64 0, .int .u64 0] 39))
  obtain ⟨W0, hW⟩ : ∃ W0 : World, W0 = (((w.alloc (.cells (dgQ x0.val x1.val) 39)).alloc (.cells (dgQ y0.val y1.val) 39)).alloc (.cells #[.int .u64 0, .int .u64 0, .int .u64 0, .int .u64 0, .int .u64 0, .int .u64 0, .int .u64 0, .int .u64 0, .int .u64 0, .int .u64 0, .int .u64 0, .int .u64 0, .int .u64 0, .int .u64 0, .int .u64 0, .int .u64 0] 39)) := ⟨_, rfl⟩
  rw [← hW] at K0 ⊢
  clear hW
  refine wp_region_atS (opsAt Tryd.f25 1) ((true, 0) :: (true, 1) :: (true, 2) :: (true, 3) :: (true, 5) :: (true, 6) :: (true, 7) :: (true, 8) :: (true, 11) :: (true, 12) :: (true, 13) :: (true, 14) :: (true, 16) :: (true, 17) :: (true, 18) :: (true, 19) :: (false, 4) :: (false, 9) :: (false, 10) :: (false, 15) :: (false, 20) :: (false, 21) :: (true, 22) :: (false, 23) :: []) (Kept w [(w.heap.size, (dgQ x0.val x1.val)), (w.heap.size + 1, (dgQ y0.val y1.val))] [(w.heap.size + 1 + 1, 16)]) (by kernel_rfl) rfl (by kernel_rfl) (fun _ _ d _ _ h => by cases d <;> exact h) (by kernel_rfl) (by kernel_rfl) K0.drew ?_
  have K0d := K0.drew
  refine k_pure (by kernel_rfl) (d := (some 5)) (by kernel_rfl) (v := .pointer (some ⟨w.heap.size, 0, none⟩)) (fun _ => by kernel_rfl) ?_
  refine k_part (by kernel_rfl) (d := (some 6)) (by kernel_rfl) (ty := 26) (x := (.tmp 5)) (by kernel_rfl) (b := w.heap.size) (off := 0) (by kernel_rfl) (all := (dgQ x0.val x1.val)) (cs := (dgA (digs 8 x0.val))) (fun _ hs => hs.at 0 rfl) dgQ_part0 Tryd.underlying26 rfl (by kernel_rfl) ?_
  refine k_pure (by kernel_rfl) (d := (some 7)) (by kernel_rfl) (v := .pointer (some ⟨w.heap.size + 1, 0, none⟩)) (fun _ => by kernel_rfl) ?_
  refine k_part (by kernel_rfl) (d := (some 8)) (by kernel_rfl) (ty := 26) (x := (.tmp 7)) (by kernel_rfl) (b := w.heap.size + 1) (off := 0) (by kernel_rfl) (all := (dgQ y0.val y1.val)) (cs := (dgA (digs 8 y0.val))) (fun _ hs => hs.at 1 rfl) dgQ_part0 Tryd.underlying26 rfl (by kernel_rfl) ?_
  refine k_pure (by kernel_rfl) (d := (some 10)) (by kernel_rfl) (v := .pointer (some ⟨w.heap.size, 8, none⟩)) (fun _ => by kernel_rfl) ?_
  refine k_part (by kernel_rfl) (d := (some 11)) (by kernel_rfl) (ty := 26) (x := (.tmp 10)) (by kernel_rfl) (b := w.heap.size) (off := 8) (by kernel_rfl) (all := (dgQ x0.val x1.val)) (cs := (dgA (digs 8 x1.val))) (fun _ hs => hs.at 0 rfl) dgQ_part1 Tryd.underlying26 rfl (by kernel_rfl) ?_
  refine k_pure (by kernel_rfl) (d := (some 12)) (by kernel_rfl) (v := .pointer (some ⟨w.heap.size + 1, 8, none⟩)) (fun _ => by kernel_rfl) ?_
  refine k_part (by kernel_rfl) (d := (some 13)) (by kernel_rfl) (ty := 26) (x := (.tmp 12)) (by kernel_rfl) (b := w.heap.size + 1) (off := 8) (by kernel_rfl) (all := (dgQ y0.val y1.val)) (cs := (dgA (digs 8 y1.val))) (fun _ hs => hs.at 1 rfl) dgQ_part1 Tryd.underlying26 rfl (by kernel_rfl) ?_
  refine k_pure (by kernel_rfl) (d := (some 16)) (by kernel_rfl) (v := .pointer (some ⟨w.heap.size, 0, none⟩)) (fun _ => by kernel_rfl) ?_
  refine k_part (by kernel_rfl) (d := (some 17)) (by kernel_rfl) (ty := 26) (x := (.tmp 16)) (by kernel_rfl) (b := w.heap.size) (off := 0) (by kernel_rfl) (all := (dgQ x0.val x1.val)) (cs := (dgA (digs 8 x0.val))) (fun _ hs => hs.at 0 rfl) dgQ_part0 Tryd.underlying26 rfl (by kernel_rfl) ?_
  refine k_pure (by kernel_rfl) (d := (some 18)) (by kernel_rfl) (v := .pointer (some ⟨w.heap.size + 1, 8, none⟩)) (fun _ => by kernel_rfl) ?_
  refine k_part (by kernel_rfl) (d := (some 19)) (by kernel_rfl) (ty := 26) (x := (.tmp 18)) (by kernel_rfl) (b := w.heap.size + 1) (off := 8) (by kernel_rfl) (all := (dgQ y0.val y1.val)) (cs := (dgA (digs 8 y1.val))) (fun _ hs => hs.at 1 rfl) dgQ_part1 Tryd.underlying26 rfl (by kernel_rfl) ?_
  refine k_pure (by kernel_rfl) (d := (some 21)) (by kernel_rfl) (v := .pointer (some ⟨w.heap.size, 8, none⟩)) (fun _ => by kernel_rfl) ?_
  refine k_part (by kernel_rfl) (d := (some 22)) (by kernel_rfl) (ty := 26) (x := (.tmp 21)) (by kernel_rfl) (b := w.heap.size) (off := 8) (by kernel_rfl) (all := (dgQ x0.val x1.val)) (cs := (dgA (digs 8 x1.val))) (fun _ hs => hs.at 0 rfl) dgQ_part1 Tryd.underlying26 rfl (by kernel_rfl) ?_
  refine k_pure (by kernel_rfl) (d := (some 23)) (by kernel_rfl) (v := .pointer (some ⟨w.heap.size + 1, 0, none⟩)) (fun _ => by kernel_rfl) ?_
  refine k_part (by kernel_rfl) (d := (some 24)) (by kernel_rfl) (ty := 26) (x := (.tmp 23)) (by kernel_rfl) (b := w.heap.size + 1) (off := 0) (by kernel_rfl) (all := (dgQ y0.val y1.val)) (cs := (dgA (digs 8 y0.val))) (fun _ hs => hs.at 1 rfl) dgQ_part0 Tryd.underlying26 rfl (by kernel_rfl) ?_
  refine k_call (by kernel_rfl) (d := (some 9)) (by kernel_rfl) (f := 60) (args := #[.agg (dgA (digs 8 x0.val)), .agg (dgA (digs 8 y0.val))]) (v := .agg (dgA (digs 8 ((x0 * y0).val)))) (fun _ => by kernel_rfl) (mulZ_c _ _) (fun w1 hb1 => ⟨K0d.go hb1, ?_⟩)
  have K1 := K0d.go hb1
  refine k_call (by kernel_rfl) (d := (some 14)) (by kernel_rfl) (f := 60) (args := #[.agg (dgA (digs 8 x1.val)), .agg (dgA (digs 8 y1.val))]) (v := .agg (dgA (digs 8 ((x1 * y1).val)))) (fun _ => by kernel_rfl) (mulZ_c _ _) (fun w2 hb2 => ⟨K1.go hb2, ?_⟩)
  have K2 := K1.go hb2
  refine k_call (by kernel_rfl) (d := (some 15)) (by kernel_rfl) (f := 59) (args := #[.agg (dgA (digs 8 ((x0 * y0).val))), .agg (dgA (digs 8 ((x1 * y1).val)))]) (v := .agg (dgA (digs 8 ((x0 * y0 - x1 * y1).val)))) (fun _ => by kernel_rfl) (subZ_c _ _) (fun w3 hb3 => ⟨K2.go hb3, ?_⟩)
  have K3 := K2.go hb3
  refine k_call (by kernel_rfl) (d := (some 20)) (by kernel_rfl) (f := 60) (args := #[.agg (dgA (digs 8 x0.val)), .agg (dgA (digs 8 y1.val))]) (v := .agg (dgA (digs 8 ((x0 * y1).val)))) (fun _ => by kernel_rfl) (mulZ_c _ _) (fun w4 hb4 => ⟨K3.go hb4, ?_⟩)
  have K4 := K3.go hb4
  refine k_call (by kernel_rfl) (d := (some 25)) (by kernel_rfl) (f := 60) (args := #[.agg (dgA (digs 8 x1.val)), .agg (dgA (digs 8 y0.val))]) (v := .agg (dgA (digs 8 ((x1 * y0).val)))) (fun _ => by kernel_rfl) (mulZ_c _ _) (fun w5 hb5 => ⟨K4.go hb5, ?_⟩)
  have K5 := K4.go hb5
  refine k_call (by kernel_rfl) (d := (some 26)) (by kernel_rfl) (f := 61) (args := #[.agg (dgA (digs 8 ((x0 * y1).val))), .agg (dgA (digs 8 ((x1 * y0).val)))]) (v := .agg (dgA (digs 8 ((x0 * y1 + x1 * y0).val)))) (fun _ => by kernel_rfl) (addZ_c _ _) (fun w6 hb6 => ⟨K5.go hb6, ?_⟩)
  have K6 := K5.go hb6
  refine k_pure (by kernel_rfl) (d := (some 27)) (by kernel_rfl) (v := .agg (dgQ ((x0 * y0 - x1 * y1).val) ((x0 * y1 + x1 * y0).val))) (fun _ => by kernel_rfl) ?_
  obtain ⟨T, old, hold, hT⟩ := K6.room _ (List.mem_cons_self ..)
  have KF := K6.put (cs := (dgQ ((x0 * y0 - x1 * y1).val) ((x0 * y1 + x1 * y0).val))) (by kernel_rfl) (by omega) (neC (by omega) (neC (by omega) ne0))
  refine k_store (by kernel_rfl) (d := none) (by kernel_rfl) (ty := 39) (x := (.tmp 4)) (y := (.tmp 27)) (by kernel_rfl) (g := w.heap.size + 1 + 1) (cells := (dgQ ((x0 * y0 - x1 * y1).val) ((x0 * y1 + x1 * y0).val))) (by kernel_rfl) (by kernel_rfl) hT (by kernel_rfl) (hold.trans (by kernel_rfl)) (all_dgQ _ _) ⟨KF, ?_⟩
  have hR := setRow_heap _ _ _ (dgQ ((x0 * y0 - x1 * y1).val) ((x0 * y1 + x1 * y0).val)) _ _ hT
  refine k_end ?_
  have KB := KF.nb
  go_simp
  go_wp2_with fail
  exact bodyPost_ret_by (results_cell_row rfl _ _ (w.heap.size + 1 + 1) _ (dgQ ((x0 * y0 - x1 * y1).val) ((x0 * y1 + x1 * y0).val)) _ _ rfl hR Tryd.underlying39 rfl (by kernel_rfl)) rfl ⟨rfl, KB⟩

set_option maxRecDepth 100000 in
set_option maxHeartbeats 1000000 in
theorem both_c {w : World} {a b : Nat} :
    Calls Tryd.prog 64 #[.agg (fps [a, b])] w fun e w' => e = .returned (.agg (fps [a, b])) ∧ Below w.heap.size w w' := by
  go_enter Tryd.func64, Tryd.ntmps64
  go_upto_region 1 with (fail)
  have K0 : Kept w [(w.heap.size, (fps [a, b]))] [(w.heap.size + 1, 32)] ((w.alloc (.cells (fps [a, b]) 33)).alloc (.cells #[.int .u8 0, .int .u8 0, .int .u8 0, .int .u8 0, .int .u8 0, .int .u8 0, .int .u8 0, .int .u8 0, .int .u8 0, .int .u8 0, .int .u8 0, .int .u8 0, .int .u8 0, .int .u8 0, .int .u8 0, .int .u8 0, .int .u8 0, .int .u8 0, .int .u8 0, .int .u8 0, .int .u8 0, .int .u8 0, .int .u8 0, .int .u8 0, .int .u8 0, .int .u8 0, .int .u8 0, .int .u8 0, .int .u8 0, .int .u8 0, .int .u8 0, .int .u8 0] 83)) := Kept.one (nb_alloc (nb_alloc (Below.refl _ _) _) _) (rowsC ⟨_, hp2_0 (w := w) (.cells (fps [a, b]) 33) (.cells #[.int .u8 0, .int .u8 0, .int .u8 0, .int .u8 0, .int .u8 0, .int .u8 0, .int .u8 0, .int .u8 0, .int .u8 0, .int .u8 0, .int .u8 0, .int .u8 0, .int .u8 0, .int .u8 0, .int .u8 0, .int .u8 0, .int .u8 0, .int .u8 0, .int .u8 0, .int .u8 0, .int .u8 0, .int .u8 0, .int .u8 0, .int .u8 0, .int .u8 0, .int .u8 0, .int .u8 0, .int .u8 0, .int .u8 0, .int .u8 0, .int .u8 0, .int .u8 0] 83)⟩ rows0) rfl (hp2_1 (w := w) (.cells (fps [a, b]) 33) (.cells #[.int .u8 0, .int .u8 0, .int .u8 0, .int .u8 0, .int .u8 0, .int .u8 0, .int .u8 0, .int .u8 0, .int .u8 0, .int .u8 0, .int .u8 0, .int .u8 0, .int .u8 0, .int .u8 0, .int .u8 0, .int .u8 0, .int .u8 0, .int .u8 0, .int .u8 0, .int .u8 0, .int .u8 0, .int .u8 0, .int .u8 0, .int .u8 0, .int .u8 0, .int .u8 0, .int .u8 0, .int .u8 0, .int .u8 0, .int .u8 0, .int .u8 0, .int .u8 0] 83))
  obtain ⟨W0, hW⟩ : ∃ W0 : World, W0 = ((w.alloc (.cells (fps [a, b]) 33)).alloc (.cells #[.int .u8 0, .int .u8 0, .int .u8 0, .int .u8 0, .int .u8 0, .int .u8 0, .int .u8 0, .int .u8 0, .int .u8 0, .int .u8 0, .int .u8 0, .int .u8 0, .int .u8 0, .int .u8 0, .int .u8 0, .int .u8 0, .int .u8 0, .int .u8 0, .int .u8 0, .int .u8 0, .int .u8 0, .int .u8 0, .int .u8 0, .int .u8 0, .int .u8 0, .int .u8 0, .int .u8 0, .int .u8 0, .int .u8 0, .int .u8 0, .int .u8 0, .int .u8 0] 83)) := ⟨_, rfl⟩
  rw [← hW] at K0 ⊢
  clear hW
  refine wp_seq_atS (opsAt Tryd.f64 1) ((true, 0) :: (true, 1) :: (true, 2) :: (true, 3) :: (true, 4) :: (false, 5) :: []) (Kept w [(w.heap.size, (fps [a, b]))] [(w.heap.size + 1, 32)]) (by kernel_rfl) (by kernel_rfl) K0 ?_
  refine k_pure (by kernel_rfl) (d := (some 3)) (by kernel_rfl) (v := .pointer (some ⟨w.heap.size, 0, none⟩)) (fun _ => by kernel_rfl) ?_
  refine k_part (by kernel_rfl) (d := (some 4)) (by kernel_rfl) (ty := 22) (x := (.tmp 3)) (by kernel_rfl) (b := w.heap.size) (off := 0) (by kernel_rfl) (all := (fps [a, b])) (cs := (fpC a)) (fun _ hs => hs.at 0 rfl) fps_part0 Tryd.underlying22 rfl (by kernel_rfl) ?_
  refine k_pure (by kernel_rfl) (d := (some 5)) (by kernel_rfl) (v := .pointer (some ⟨w.heap.size, 16, none⟩)) (fun _ => by kernel_rfl) ?_
  refine k_part (by kernel_rfl) (d := (some 6)) (by kernel_rfl) (ty := 22) (x := (.tmp 5)) (by kernel_rfl) (b := w.heap.size) (off := 16) (by kernel_rfl) (all := (fps [a, b])) (cs := (fpC b)) (fun _ hs => hs.at 0 rfl) fps_part1 Tryd.underlying22 rfl (by kernel_rfl) ?_
  refine k_pure (by kernel_rfl) (d := (some 7)) (by kernel_rfl) (v := .agg (fps [a, b])) (fun _ => by kernel_rfl) ?_
  obtain ⟨T, old, hold, hT⟩ := K0.room _ (List.mem_cons_self ..)
  have KF := K0.put (cs := (fps [a, b])) (by kernel_rfl) (by omega) (neC (by omega) ne0)
  refine k_store (by kernel_rfl) (d := none) (by kernel_rfl) (ty := 83) (x := (.tmp 2)) (y := (.tmp 7)) (by kernel_rfl) (g := w.heap.size + 1) (cells := (fps [a, b])) (by kernel_rfl) (by kernel_rfl) hT (by kernel_rfl) (hold.trans (by kernel_rfl)) (all_fps2 _ _) ⟨KF, ?_⟩
  have hR := setRow_heap _ _ _ (fps [a, b]) _ _ hT
  refine k_end ?_
  have KB := KF.nb
  go_simp
  go_wp2_with fail
  exact bodyPost_ret_by (results_cell_row rfl _ _ (w.heap.size + 1) _ (fps [a, b]) _ _ rfl hR Tryd.underlying83 rfl (by kernel_rfl)) rfl ⟨rfl, KB⟩

set_option maxRecDepth 100000 in
set_option maxHeartbeats 1000000 in
theorem lows_c {w : World} {a b : Nat} (hm : ModW w) (ha : LowB a) (hb : LowB b) :
    Calls Tryd.prog 62 #[.agg (fps [a, b])] w fun e w' => e = .returned (.agg (fps [a % pp, b % pp])) ∧ Below w.heap.size w w' := by
  go_enter Tryd.func62, Tryd.ntmps62
  go_upto_region 1 with (fail)
  have K0 : Kept w [(w.heap.size, (fps [a, b]))] [(w.heap.size + 1, 32)] ((w.alloc (.cells (fps [a, b]) 83)).alloc (.cells #[.int .u8 0, .int .u8 0, .int .u8 0, .int .u8 0, .int .u8 0, .int .u8 0, .int .u8 0, .int .u8 0, .int .u8 0, .int .u8 0, .int .u8 0, .int .u8 0, .int .u8 0, .int .u8 0, .int .u8 0, .int .u8 0, .int .u8 0, .int .u8 0, .int .u8 0, .int .u8 0, .int .u8 0, .int .u8 0, .int .u8 0, .int .u8 0, .int .u8 0, .int .u8 0, .int .u8 0, .int .u8 0, .int .u8 0, .int .u8 0, .int .u8 0, .int .u8 0] 33)) := Kept.one (nb_alloc (nb_alloc (Below.refl _ _) _) _) (rowsC ⟨_, hp2_0 (w := w) (.cells (fps [a, b]) 83) (.cells #[.int .u8 0, .int .u8 0, .int .u8 0, .int .u8 0, .int .u8 0, .int .u8 0, .int .u8 0, .int .u8 0, .int .u8 0, .int .u8 0, .int .u8 0, .int .u8 0, .int .u8 0, .int .u8 0, .int .u8 0, .int .u8 0, .int .u8 0, .int .u8 0, .int .u8 0, .int .u8 0, .int .u8 0, .int .u8 0, .int .u8 0, .int .u8 0, .int .u8 0, .int .u8 0, .int .u8 0, .int .u8 0, .int .u8 0, .int .u8 0, .int .u8 0, .int .u8 0] 33)⟩ rows0) rfl (hp2_1 (w := w) (.cells (fps [a, b]) 83) (.cells #[.int .u8 0, .int .u8 0, .int .u8 0, .int .u8 0, .int .u8 0, .int .u8 0, .int .u8 0, .int .u8 0, .int .u8 0, .int .u8 0, .int .u8 0, .int .u8 0, .int .u8 0, .int .u8 0, .int .u8 0, .int .u8 0, .int .u8 0, .int .u8 0, .int .u8 0, .int .u8 0, .int .u8 0, .int .u8 0, .int .u8 0, .int .u8 0, .int .u8 0, .int .u8 0, .int .u8 0, .int .u8 0, .int .u8 0, .int .u8 0, .int .u8 0, .int .u8 0] 33))
  obtain ⟨W0, hW⟩ : ∃ W0 : World, W0 = ((w.alloc (.cells (fps [a, b]) 83)).alloc (.cells #[.int .u8 0, .int .u8 0, .int .u8 0, .int .u8 0, .int .u8 0, .int .u8 0, .int .u8 0, .int .u8 0, .int .u8 0, .int .u8 0, .int .u8 0, .int .u8 0, .int .u8 0, .int .u8 0, .int .u8 0, .int .u8 0, .int .u8 0, .int .u8 0, .int .u8 0, .int .u8 0, .int .u8 0, .int .u8 0, .int .u8 0, .int .u8 0, .int .u8 0, .int .u8 0, .int .u8 0, .int .u8 0, .int .u8 0, .int .u8 0, .int .u8 0, .int .u8 0] 33)) := ⟨_, rfl⟩
  rw [← hW] at K0 ⊢
  clear hW
  refine wp_region_atS (opsAt Tryd.f62 1) ((true, 0) :: (true, 1) :: (true, 3) :: (true, 4) :: (false, 2) :: (false, 5) :: (true, 6) :: (false, 7) :: []) (Kept w [(w.heap.size, (fps [a, b]))] [(w.heap.size + 1, 32)]) (by kernel_rfl) rfl (by kernel_rfl) (fun _ _ d _ _ h => by cases d <;> exact h) (by kernel_rfl) (by kernel_rfl) K0.drew ?_
  have K0d := K0.drew
  refine k_pure (by kernel_rfl) (d := (some 3)) (by kernel_rfl) (v := .pointer (some ⟨w.heap.size, 0, none⟩)) (fun _ => by kernel_rfl) ?_
  refine k_part (by kernel_rfl) (d := (some 4)) (by kernel_rfl) (ty := 73) (x := (.tmp 3)) (by kernel_rfl) (b := w.heap.size) (off := 0) (by kernel_rfl) (all := (fps [a, b])) (cs := (fpC a)) (fun _ hs => hs.at 0 rfl) fps_part0 Tryd.underlying73 rfl (by kernel_rfl) ?_
  refine k_pure (by kernel_rfl) (d := (some 6)) (by kernel_rfl) (v := .pointer (some ⟨w.heap.size, 16, none⟩)) (fun _ => by kernel_rfl) ?_
  refine k_part (by kernel_rfl) (d := (some 7)) (by kernel_rfl) (ty := 73) (x := (.tmp 6)) (by kernel_rfl) (b := w.heap.size) (off := 16) (by kernel_rfl) (all := (fps [a, b])) (cs := (fpC b)) (fun _ hs => hs.at 0 rfl) fps_part1 Tryd.underlying73 rfl (by kernel_rfl) ?_
  refine k_call (by kernel_rfl) (d := (some 5)) (by kernel_rfl) (f := 82) (args := #[.agg (fpC a)]) (v := .agg (fpC ((a % pp)))) (fun _ => by kernel_rfl) (implLow (hm.nb K0d.nb) ha) (fun w1 hb1 => ⟨K0d.go hb1, ?_⟩)
  have K1 := K0d.go hb1
  refine k_call (by kernel_rfl) (d := (some 8)) (by kernel_rfl) (f := 82) (args := #[.agg (fpC b)]) (v := .agg (fpC ((b % pp)))) (fun _ => by kernel_rfl) (implLow (hm.nb K1.nb) hb) (fun w2 hb2 => ⟨K1.go hb2, ?_⟩)
  have K2 := K1.go hb2
  refine k_pure (by kernel_rfl) (d := (some 9)) (by kernel_rfl) (v := .agg (fps [(a % pp), (b % pp)])) (fun _ => by kernel_rfl) ?_
  obtain ⟨T, old, hold, hT⟩ := K2.room _ (List.mem_cons_self ..)
  have KF := K2.put (cs := (fps [(a % pp), (b % pp)])) (by kernel_rfl) (by omega) (neC (by omega) ne0)
  refine k_store (by kernel_rfl) (d := none) (by kernel_rfl) (ty := 33) (x := (.tmp 2)) (y := (.tmp 9)) (by kernel_rfl) (g := w.heap.size + 1) (cells := (fps [(a % pp), (b % pp)])) (by kernel_rfl) (by kernel_rfl) hT (by kernel_rfl) (hold.trans (by kernel_rfl)) (all_fps2 _ _) ⟨KF, ?_⟩
  have hR := setRow_heap _ _ _ (fps [(a % pp), (b % pp)]) _ _ hT
  refine k_end ?_
  have KB := KF.nb
  go_simp
  go_wp2_with fail
  exact bodyPost_ret_by (results_cell_row rfl _ _ (w.heap.size + 1) _ (fps [(a % pp), (b % pp)]) _ _ rfl hR Tryd.underlying33 rfl (by kernel_rfl)) rfl ⟨rfl, KB⟩

set_option maxRecDepth 100000 in
set_option maxHeartbeats 1000000 in
theorem isQ_c {w : World} {a b : Nat} {x0 x1 : Zp} (ha : a < 256 ^ 16) (hb : b < 256 ^ 16) :
    Calls Tryd.prog 30 #[.agg (fps [a, b]), .agg (dgQ x0.val x1.val)] w fun e w' => e = .returned (.bool (decide (a = x0.val) && decide (b = x1.val))) ∧ Below w.heap.size w w' := by
  go_enter Tryd.func30, Tryd.ntmps30
  go_upto_region 1 with (fail)
  have K0 : Kept w [(w.heap.size, (fps [a, b])), (w.heap.size + 1, (dgQ x0.val x1.val))] [] ((w.alloc (.cells (fps [a, b]) 33)).alloc (.cells (dgQ x0.val x1.val) 39)) := Kept.zero (nb_alloc (nb_alloc (Below.refl _ _) _) _) (rowsC ⟨_, hp2_0 (w := w) (.cells (fps [a, b]) 33) (.cells (dgQ x0.val x1.val) 39)⟩ (rowsC ⟨_, hp2_1 (w := w) (.cells (fps [a, b]) 33) (.cells (dgQ x0.val x1.val) 39)⟩ rows0))
  obtain ⟨W0, hW⟩ : ∃ W0 : World, W0 = ((w.alloc (.cells (fps [a, b]) 33)).alloc (.cells (dgQ x0.val x1.val) 39)) := ⟨_, rfl⟩
  rw [← hW] at K0 ⊢
  clear hW
  refine wp_region_atS (opsAt Tryd.f30 1) ((true, 0) :: (true, 1) :: (false, 2) :: (true, 3) :: (true, 4) :: []) (Kept w [(w.heap.size, (fps [a, b])), (w.heap.size + 1, (dgQ x0.val x1.val))] []) (by kernel_rfl) rfl (by kernel_rfl) (fun _ _ d _ _ h => by cases d <;> exact h) (by kernel_rfl) (by kernel_rfl) K0.drew ?_
  have K0d := K0.drew
  refine k_row (by kernel_rfl) (d := (some 5)) (by kernel_rfl) (ty := 33) (x := (.tmp 2)) (by kernel_rfl) (b := w.heap.size) (by kernel_rfl) (cs := (fps [a, b])) (fun _ hs => hs.at 0 rfl) Tryd.underlying33 rfl (by kernel_rfl) ?_
  refine k_row (by kernel_rfl) (d := (some 6)) (by kernel_rfl) (ty := 39) (x := (.tmp 3)) (by kernel_rfl) (b := w.heap.size + 1) (by kernel_rfl) (cs := (dgQ x0.val x1.val)) (fun _ hs => hs.at 1 rfl) Tryd.underlying39 rfl (by kernel_rfl) ?_
  refine k_call (by kernel_rfl) (d := (some 7)) (by kernel_rfl) (f := 27) (args := #[.agg (dgQ x0.val x1.val)]) (v := .agg (fps [x0.val, x1.val])) (fun _ => by kernel_rfl) (bytesQ_c) (fun w1 hb1 => ⟨K0d.go hb1, ?_⟩)
  have K1 := K0d.go hb1
  refine k_eql (by kernel_rfl) (d := (some 8)) (by kernel_rfl) (ty := 33) (ty' := 33) (x := (.tmp 5)) (y := (.tmp 7)) (by kernel_rfl) (xs := (fps [a, b])) (ys := (fps [x0.val, x1.val])) (b := (decide (a = x0.val) && decide (b = x1.val))) (by kernel_rfl) (by kernel_rfl) (by kernel_rfl) (fun w' => eql_fps Tryd.underlying33 Tryd.underlying22 (by kernel_rfl) (by kernel_rfl) Tryd.underlying5 ha hb (lt16 _) (lt16 _) w') ?_
  refine k_pure (by kernel_rfl) (d := (some 4)) (by kernel_rfl) (v := .bool (decide (a = x0.val) && decide (b = x1.val))) (fun _ => by kernel_rfl) ?_
  refine k_end ?_
  have KB := K1.nb
  go_simp
  go_wp2_with fail
  exact bodyPost_ret_by (by kernel_rfl) (by kernel_rfl) ⟨rfl, KB⟩

theorem isQ_true {w : World} {a b : Nat} {x0 x1 : Zp} (ha : a = x0.val) (hb : b = x1.val) :
    Calls Tryd.prog 30 #[.agg (fps [a, b]), .agg (dgQ x0.val x1.val)] w fun e w' => e = .returned (.bool true) ∧ Below w.heap.size w w' := by
  subst ha hb
  have := isQ_c (w := w) (x0 := x0) (x1 := x1) (lt16 x0) (lt16 x1)
  rwa [decide_eq_true rfl, decide_eq_true rfl] at this

end Go.Proofs.YtfkfljohhabldaaDoor
