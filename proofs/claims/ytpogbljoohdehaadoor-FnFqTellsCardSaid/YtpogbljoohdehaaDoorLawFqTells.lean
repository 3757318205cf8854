/- FnFqTells: whatever two pairs of elements of 16 bytes, taken over or not: true. -/
import Derived.Test.YtpogbljoohdehaaDoorFqTI
import Derived.Test.YtpogbljoohdehaaDoorLawTells
import Derived.Test.YtpogbljoohdehaaDoorLawPower
namespace Go.Proofs.YtpogbljoohdehaaDoor
open Go.RowKit Go.FourQ

theorem val_neg {x : Zp} (h : x ≠ 0) : (-x).val = pp - x.val := Nat.mod_eq_of_lt (by have := zval_ne h; have := x.lt; omega)
theorem zneg_ne {x : Zp} (h : x ≠ 0) : -x ≠ 0 := fun e => h (by rw [← zneg_neg x, e, zneg_zero])
theorem sgnQ_neg {x0 x1 : Zp} (h : ¬ (x0 = 0 ∧ x1 = 0)) : sgnQ x0 x1 ≠ sgnQ (-x0) (-x1) := by
  unfold sgnQ
  by_cases h0 : x0 = 0
  · have h1 : x1 ≠ 0 := fun e => h ⟨h0, e⟩
    subst h0
    rw [zneg_zero, if_pos val_zero, if_pos val_zero]
    exact sgn_neg x1.lt (zval_ne h1) (val_neg h1)
  · rw [if_neg (zval_ne h0), if_neg (zval_ne (zneg_ne h0))]
    exact sgn_neg x0.lt (zval_ne h0) (val_neg h0)

theorem fqTells_plan_9 : planOk .any (opsAt Tryd.f6 9) (Array.replicate (opsAt Tryd.f6 9).size false) ((true, 0) :: (true, 1) :: (true, 2) :: (true, 3) :: (true, 5) :: (false, 4) :: (true, 6) :: (true, 7) :: (true, 8) :: (true, 9) :: (true, 10) :: (true, 11) :: (true, 12) :: (true, 13) :: (true, 14) :: (true, 15) :: (true, 16) :: (true, 17) :: (true, 18) :: (true, 19) :: (true, 20) :: (true, 22) :: (false, 21) :: (false, 23) :: (false, 24) :: (true, 25) :: (true, 26) :: []) = true := by kernel_rfl
set_option maxRecDepth 100000 in
set_option maxHeartbeats 2000000 in
theorem fqTells_high_true {w : World} {a0 a1 c0 c1 : Nat} (ha0 : a0 < 256 ^ 16) (ha1 : a1 < 256 ^ 16) (hc0 : c0 < 256 ^ 16) (hc1 : c1 < 256 ^ 16) (hl : lowAll [a0, a1, c0, c1] = false) :
    Calls Tryd.prog 6 #[.agg (fps [a0, a1]), .agg (fps [c0, c1]), .bool true] w fun e w' => e = .returned (.bool true) ∧ Below w.heap.size w w' := by
  go_enter Tryd.func6, Tryd.ntmps6
  go_upto_region 1 with (fail)
  have hB : Below w.heap.size w ((w.alloc (.cells (fps [a0, a1]) 40)).alloc (.cells (fps [c0, c1]) 40)) := nb_alloc (nb_alloc (Below.refl _ _) _) _
  have F0 : ((w.alloc (.cells (fps [a0, a1]) 40)).alloc (.cells (fps [c0, c1]) 40)).heap[w.heap.size]? = some (.cells (fps [a0, a1]) 40 (0, 0)) := hp2_0 (w := w) (.cells (fps [a0, a1]) 40) (.cells (fps [c0, c1]) 40)
  have F1 : ((w.alloc (.cells (fps [a0, a1]) 40)).alloc (.cells (fps [c0, c1]) 40)).heap[w.heap.size + 1]? = some (.cells (fps [c0, c1]) 40 (0, 0)) := hp2_1 (w := w) (.cells (fps [a0, a1]) 40) (.cells (fps [c0, c1]) 40)
  obtain ⟨W0, hW⟩ : ∃ W0 : World, W0 = ((w.alloc (.cells (fps [a0, a1]) 40)).alloc (.cells (fps [c0, c1]) 40)) := ⟨_, rfl⟩
  rw [← hW] at hB F0 F1 ⊢
  clear hW
  replace F0 := Lib.hid F0
  replace F1 := Lib.hid F1
  refine wp_seq_at (opsAt Tryd.f6 1) ((true, 0) :: (true, 1) :: (true, 2) :: (true, 3) :: (true, 4) :: (true, 5) :: (true, 6) :: (true, 7) :: (false, 8) :: (false, 9) :: (true, 10) :: []) (by kernel_rfl) (by kernel_rfl) ?_
  have hS1 : Below W0.heap.size W0 W0 := Below.refl _ _
  refine k_pure (by kernel_rfl) (d := (some 14)) (by kernel_rfl) (v := .pointer (some ⟨w.heap.size, 0, none⟩)) (fun _ => by kernel_rfl) ?_
  refine k_part (by kernel_rfl) (d := (some 15)) (by kernel_rfl) (ty := 22) (x := (.tmp 14)) (by kernel_rfl) (b := w.heap.size) (off := 0) (by kernel_rfl) (all := (fps [a0, a1])) (cs := (fpC a0)) (fun w' hs => ⟨_, nb_heap F0.out w' hs⟩) fps_part0 Tryd.underlying22 rfl (by kernel_rfl) ?_
  refine k_pure (by kernel_rfl) (d := (some 16)) (by kernel_rfl) (v := .pointer (some ⟨w.heap.size, 16, none⟩)) (fun _ => by kernel_rfl) ?_
  refine k_part (by kernel_rfl) (d := (some 17)) (by kernel_rfl) (ty := 22) (x := (.tmp 16)) (by kernel_rfl) (b := w.heap.size) (off := 16) (by kernel_rfl) (all := (fps [a0, a1])) (cs := (fpC a1)) (fun w' hs => ⟨_, nb_heap F0.out w' hs⟩) fps_part1 Tryd.underlying22 rfl (by kernel_rfl) ?_
  refine k_pure (by kernel_rfl) (d := (some 18)) (by kernel_rfl) (v := .pointer (some ⟨w.heap.size + 1, 0, none⟩)) (fun _ => by kernel_rfl) ?_
  refine k_part (by kernel_rfl) (d := (some 19)) (by kernel_rfl) (ty := 22) (x := (.tmp 18)) (by kernel_rfl) (b := w.heap.size + 1) (off := 0) (by kernel_rfl) (all := (fps [c0, c1])) (cs := (fpC c0)) (fun w' hs => ⟨_, nb_heap F1.out w' hs⟩) fps_part0 Tryd.underlying22 rfl (by kernel_rfl) ?_
  refine k_pure (by kernel_rfl) (d := (some 20)) (by kernel_rfl) (v := .pointer (some ⟨w.heap.size + 1, 16, none⟩)) (fun _ => by kernel_rfl) ?_
  refine k_part (by kernel_rfl) (d := (some 21)) (by kernel_rfl) (ty := 22) (x := (.tmp 20)) (by kernel_rfl) (b := w.heap.size + 1) (off := 16) (by kernel_rfl) (all := (fps [c0, c1])) (cs := (fpC c1)) (fun w' hs => ⟨_, nb_heap F1.out w' hs⟩) fps_part1 Tryd.underlying22 rfl (by kernel_rfl) ?_
  refine k_make (by kernel_rfl) (d := (some 22)) (by kernel_rfl) (v := .slice (some ⟨W0.heap.size, 0, none⟩) 4 4) (w' := W0.alloc (.cells (fps [a0, a1, c0, c1]) 22)) (by kernel_rfl) (nb_alloc hS1 _) ?_
  intro w2 hw2 hM2
  refine k_call (by kernel_rfl) (d := (some 23)) (by kernel_rfl) (f := 17) (args := #[.slice (some ⟨W0.heap.size, 0, none⟩) 4 4]) (v := .bool false) (fun _ => by kernel_rfl) (hl ▸ low_c (hw2 ▸ Fps.new _ [a0, a1, c0, c1] _ _ _ rfl rfl) (all4 ha0 ha1 hc0 hc1) (by show 4 < 1000; decide)) (fun w3 hb3 => ⟨nb_trans hM2 hb3, ?_⟩)
  have hS3 := nb_trans hM2 hb3
  refine k_pure (by kernel_rfl) (d := (some 24)) (by kernel_rfl) (v := .bool true) (fun _ => by kernel_rfl) ?_
  refine k_end ?_
  clear hw2
  go_simp
  have hB1 := nb_trans hB hS3
  have F0_1 := Lib.hid (nb_heap F0.out _ hS3)
  have F1_1 := Lib.hid (nb_heap F1.out _ hS3)
  go_wp2_with fail
  exact bodyPost_ret_by (by kernel_rfl) (by kernel_rfl) ⟨rfl, hB1⟩

set_option maxRecDepth 100000 in
set_option maxHeartbeats 2000000 in
theorem fqTells_true_true {w : World} {a0 a1 c0 c1 : Nat} {X0 X1 C0 C1 r0 r1 : Zp} {p : Bool} {s t : Int} (hm : ModW w) (ha0 : a0 < 256 ^ 16) (ha1 : a1 < 256 ^ 16) (hc0 : c0 < 256 ^ 16) (hc1 : c1 < 256 ^ 16) (hl : lowAll [a0, a1, c0, c1] = true)
    (O1 : ∀ {w : World}, Calls Tryd.prog 25 #[.agg (fps [a0, a1])] w fun e w' => e = .returned (.agg (dgQ X0.val X1.val)) ∧ Below w.heap.size w w')
    (T3 : ∀ {w : World}, ModW w → Calls Tryd.prog 23 #[.agg (fps [0, 0])] w fun e w' => e = .returned (.tuple #[.bool true, .int .i64 0]) ∧ Below w.heap.size w w')
    (T1 : ∀ {w : World}, ModW w → Calls Tryd.prog 23 #[.agg (fps [a0, a1])] w fun e w' => e = .returned (.tuple #[.bool true, .int .i64 s]) ∧ Below w.heap.size w w')
    (N1 : ∀ {w : World}, ModW w → Calls Tryd.prog 24 #[.agg (fps [a0, a1])] w fun e w' => e = .returned (.agg (fps [r0.val, r1.val])) ∧ Below w.heap.size w w')
    (T2 : ∀ {w : World}, ModW w → Calls Tryd.prog 23 #[.agg (fps [r0.val, r1.val])] w fun e w' => e = .returned (.tuple #[.bool p, .int .i64 t]) ∧ Below w.heap.size w w')
    (V1 : ∀ {w : World}, ModW w → Calls Tryd.prog 27 #[.agg (fps [a0, a1]), .agg (fps [c0, c1]), .bool true] w fun e w' => e = .returned (.agg (fps [C0.val, C1.val])) ∧ Below w.heap.size w w')
    (O2 : ∀ {w : World}, Calls Tryd.prog 25 #[.agg (fps [c0, c1])] w fun e w' => e = .returned (.agg (dgQ C0.val C1.val)) ∧ Below w.heap.size w w')
    (E1 : ∀ w : World, (binOp .eql 44 (.agg (dgQ X0.val X1.val)) (.agg (dgQ 0 0))).run Tryd.prog w = .ok (.bool true) w) :
    Calls Tryd.prog 6 #[.agg (fps [a0, a1]), .agg (fps [c0, c1]), .bool true] w fun e w' => e = .returned (.bool true) ∧ Below w.heap.size w w' := by
  go_enter Tryd.func6, Tryd.ntmps6
  go_upto_region 1 with (fail)
  have hB : Below w.heap.size w ((w.alloc (.cells (fps [a0, a1]) 40)).alloc (.cells (fps [c0, c1]) 40)) := nb_alloc (nb_alloc (Below.refl _ _) _) _
  have F0 : ((w.alloc (.cells (fps [a0, a1]) 40)).alloc (.cells (fps [c0, c1]) 40)).heap[w.heap.size]? = some (.cells (fps [a0, a1]) 40 (0, 0)) := hp2_0 (w := w) (.cells (fps [a0, a1]) 40) (.cells (fps [c0, c1]) 40)
  have F1 : ((w.alloc (.cells (fps [a0, a1]) 40)).alloc (.cells (fps [c0, c1]) 40)).heap[w.heap.size + 1]? = some (.cells (fps [c0, c1]) 40 (0, 0)) := hp2_1 (w := w) (.cells (fps [a0, a1]) 40) (.cells (fps [c0, c1]) 40)
  obtain ⟨W0, hW⟩ : ∃ W0 : World, W0 = ((w.alloc (.cells (fps [a0, a1]) 40)).alloc (.cells (fps [c0, c1]) 40)) := ⟨_, rfl⟩
  rw [← hW] at hB F0 F1 ⊢
  clear hW
  replace F0 := Lib.hid F0
  replace F1 := Lib.hid F1
  refine wp_seq_at (opsAt Tryd.f6 1) ((true, 0) :: (true, 1) :: (true, 2) :: (true, 3) :: (true, 4) :: (true, 5) :: (true, 6) :: (true, 7) :: (false, 8) :: (false, 9) :: (true, 10) :: []) (by kernel_rfl) (by kernel_rfl) ?_
  have hS1 : Below W0.heap.size W0 W0 := Below.refl _ _
  refine k_pure (by kernel_rfl) (d := (some 14)) (by kernel_rfl) (v := .pointer (some ⟨w.heap.size, 0, none⟩)) (fun _ => by kernel_rfl) ?_
  refine k_part (by kernel_rfl) (d := (some 15)) (by kernel_rfl) (ty := 22) (x := (.tmp 14)) (by kernel_rfl) (b := w.heap.size) (off := 0) (by kernel_rfl) (all := (fps [a0, a1])) (cs := (fpC a0)) (fun w' hs => ⟨_, nb_heap F0.out w' hs⟩) fps_part0 Tryd.underlying22 rfl (by kernel_rfl) ?_
  refine k_pure (by kernel_rfl) (d := (some 16)) (by kernel_rfl) (v := .pointer (some ⟨w.heap.size, 16, none⟩)) (fun _ => by kernel_rfl) ?_
  refine k_part (by kernel_rfl) (d := (some 17)) (by kernel_rfl) (ty := 22) (x := (.tmp 16)) (by kernel_rfl) (b := w.heap.size) (off := 16) (by kernel_rfl) (all := (fps [a0, a1])) (cs := (fpC a1)) (fun w' hs => ⟨_, nb_heap F0.out w' hs⟩) fps_part1 Tryd.underlying22 rfl (by kernel_rfl) ?_
  refine k_pure (by kernel_rfl) (d := (some 18)) (by kernel_rfl) (v := .pointer (some ⟨w.heap.size + 1, 0, none⟩)) (fun _ => by kernel_rfl) ?_
  refine k_part (by kernel_rfl) (d := (some 19)) (by kernel_rfl) (ty := 22) (x := (.tmp 18)) (by kernel_rfl) (b := w.heap.size + 1) (off := 0) (by kernel_rfl) (all := (fps [c0, c1])) (cs := (fpC c0)) (fun w' hs => ⟨_, nb_heap F1.out w' hs⟩) fps_part0 Tryd.underlying22 rfl (by kernel_rfl) ?_
  refine k_pure (by kernel_rfl) (d := (some 20)) (by kernel_rfl) (v := .pointer (some ⟨w.heap.size + 1, 16, none⟩)) (fun _ => by kernel_rfl) ?_
  refine k_part (by kernel_rfl) (d := (some 21)) (by kernel_rfl) (ty := 22) (x := (.tmp 20)) (by kernel_rfl) (b := w.heap.size + 1) (off := 16) (by kernel_rfl) (all := (fps [c0, c1])) (cs := (fpC c1)) (fun w' hs => ⟨_, nb_heap F1.out w' hs⟩) fps_part1 Tryd.underlying22 rfl (by kernel_rfl) ?_
  refine k_make (by kernel_rfl) (d := (some 22)) (by kernel_rfl) (v := .slice (some ⟨W0.heap.size, 0, none⟩) 4 4) (w' := W0.alloc (.cells (fps [a0, a1, c0, c1]) 22)) (by kernel_rfl) (nb_alloc hS1 _) ?_
  intro w2 hw2 hM2
  refine k_call (by kernel_rfl) (d := (some 23)) (by kernel_rfl) (f := 17) (args := #[.slice (some ⟨W0.heap.size, 0, none⟩) 4 4]) (v := .bool true) (fun _ => by kernel_rfl) (hl ▸ low_c (hw2 ▸ Fps.new _ [a0, a1, c0, c1] _ _ _ rfl rfl) (all4 ha0 ha1 hc0 hc1) (by show 4 < 1000; decide)) (fun w3 hb3 => ⟨nb_trans hM2 hb3, ?_⟩)
  have hS3 := nb_trans hM2 hb3
  refine k_pure (by kernel_rfl) (d := (some 24)) (by kernel_rfl) (v := .bool false) (fun _ => by kernel_rfl) ?_
  refine k_end ?_
  clear hw2
  go_simp
  have hB1 := nb_trans hB hS3
  have F0_1 := Lib.hid (nb_heap F0.out _ hS3)
  have F1_1 := Lib.hid (nb_heap F1.out _ hS3)
  go_upto_region 3 with (fail)
  refine wp_seq_at (opsAt Tryd.f6 3) ((true, 0) :: (false, 1) :: (true, 2) :: (true, 3) :: (true, 4) :: (true, 5) :: (true, 6) :: []) (by kernel_rfl) (by kernel_rfl) ?_
  have hS4 : Below w3.heap.size w3 w3 := Below.refl _ _
  refine k_row (by kernel_rfl) (d := (some 26)) (by kernel_rfl) (ty := 40) (x := (.tmp 3)) (by kernel_rfl) (b := w.heap.size) (by kernel_rfl) (cs := (fps [a0, a1])) (fun w' hs => ⟨_, nb_heap F0_1.out w' hs⟩) Tryd.underlying40 rfl (by kernel_rfl) ?_
  refine k_call (by kernel_rfl) (d := (some 27)) (by kernel_rfl) (f := 23) (args := #[.agg (fps [a0, a1])]) (v := .tuple #[.bool true, .int .i64 s]) (fun _ => by kernel_rfl) (T1 (hm.nb (nb_trans hB1 hS4))) (fun w5 hb5 => ⟨nb_trans hS4 hb5, ?_⟩)
  have hS5 := nb_trans hS4 hb5
  refine k_pure (by kernel_rfl) (d := (some 25)) (by kernel_rfl) (v := .tuple #[.bool true, .int .i64 s]) (fun _ => by kernel_rfl) ?_
  refine k_pure (by kernel_rfl) (d := (some 28)) (by kernel_rfl) (v := .bool true) (fun _ => by kernel_rfl) ?_
  refine k_pure (by kernel_rfl) (d := (some 29)) (by kernel_rfl) (v := .int .i64 s) (fun _ => by kernel_rfl) ?_
  refine k_pure (by kernel_rfl) (d := (some 7)) (by kernel_rfl) (v := .bool true) (fun _ => by kernel_rfl) ?_
  refine k_pure (by kernel_rfl) (d := (some 8)) (by kernel_rfl) (v := .int .i64 s) (fun _ => by kernel_rfl) ?_
  refine k_end ?_
  go_simp
  have hB2 := nb_trans hB1 hS5
  have F0_2 := Lib.hid (nb_heap F0_1.out _ hS5)
  have F1_2 := Lib.hid (nb_heap F1_1.out _ hS5)
  go_upto_region 4 with (fail)
  refine wp_seq_at (opsAt Tryd.f6 4) ((true, 0) :: (false, 1) :: (false, 2) :: (true, 3) :: (true, 4) :: (true, 5) :: (true, 6) :: (true, 7) :: []) (by kernel_rfl) (by kernel_rfl) ?_
  have hS6 : Below w5.heap.size w5 w5 := Below.refl _ _
  refine k_row (by kernel_rfl) (d := (some 31)) (by kernel_rfl) (ty := 40) (x := (.tmp 3)) (by kernel_rfl) (b := w.heap.size) (by kernel_rfl) (cs := (fps [a0, a1])) (fun w' hs => ⟨_, nb_heap F0_2.out w' hs⟩) Tryd.underlying40 rfl (by kernel_rfl) ?_
  refine k_call (by kernel_rfl) (d := (some 32)) (by kernel_rfl) (f := 24) (args := #[.agg (fps [a0, a1])]) (v := .agg (fps [r0.val, r1.val])) (fun _ => by kernel_rfl) (N1 (hm.nb (nb_trans hB2 hS6))) (fun w7 hb7 => ⟨nb_trans hS6 hb7, ?_⟩)
  have hS7 := nb_trans hS6 hb7
  refine k_call (by kernel_rfl) (d := (some 33)) (by kernel_rfl) (f := 23) (args := #[.agg (fps [r0.val, r1.val])]) (v := .tuple #[.bool p, .int .i64 t]) (fun _ => by kernel_rfl) (T2 (hm.nb (nb_trans hB2 hS7))) (fun w8 hb8 => ⟨nb_trans hS7 hb8, ?_⟩)
  have hS8 := nb_trans hS7 hb8
  refine k_pure (by kernel_rfl) (d := (some 30)) (by kernel_rfl) (v := .tuple #[.bool p, .int .i64 t]) (fun _ => by kernel_rfl) ?_
  refine k_pure (by kernel_rfl) (d := (some 34)) (by kernel_rfl) (v := .bool p) (fun _ => by kernel_rfl) ?_
  refine k_pure (by kernel_rfl) (d := (some 35)) (by kernel_rfl) (v := .int .i64 t) (fun _ => by kernel_rfl) ?_
  refine k_pure (by kernel_rfl) (d := (some 9)) (by kernel_rfl) (v := .bool p) (fun _ => by kernel_rfl) ?_
  refine k_pure (by kernel_rfl) (d := (some 10)) (by kernel_rfl) (v := .int .i64 t) (fun _ => by kernel_rfl) ?_
  refine k_end ?_
  go_simp
  have hB3 := nb_trans hB2 hS8
  have F0_3 := Lib.hid (nb_heap F0_2.out _ hS8)
  have F1_3 := Lib.hid (nb_heap F1_2.out _ hS8)
  go_upto_region 5 with (fail)
  refine wp_seq_at (opsAt Tryd.f6 5) ((true, 0) :: (false, 1) :: (false, 2) :: []) (by kernel_rfl) (by kernel_rfl) ?_
  have hS9 : Below w8.heap.size w8 w8 := Below.refl _ _
  refine k_row (by kernel_rfl) (d := (some 36)) (by kernel_rfl) (ty := 40) (x := (.tmp 3)) (by kernel_rfl) (b := w.heap.size) (by kernel_rfl) (cs := (fps [a0, a1])) (fun w' hs => ⟨_, nb_heap F0_3.out w' hs⟩) Tryd.underlying40 rfl (by kernel_rfl) ?_
  refine k_make (by kernel_rfl) (d := (some 11)) (by kernel_rfl) (v := .pointer (some ⟨w8.heap.size, 0, none⟩)) (w' := w8.alloc (.cells (fps [0, 0]) 40)) (by kernel_rfl) (nb_alloc hS9 _) ?_
  intro w10 hw10 hS10
  have G11_10 : w10.heap[w8.heap.size]? = some (.cells (fps [0, 0]) 40 (0, 0)) := hw10 ▸ heap_alloc_new _ _
  refine k_put (by kernel_rfl) (d := none) (by kernel_rfl) (ty := 40) (x := (.tmp 11)) (y := (.tmp 36)) (by kernel_rfl) (g := w8.heap.size) (cells := (fps [a0, a1])) (by kernel_rfl) (by kernel_rfl) G11_10 (by kernel_rfl) (by kernel_rfl) (all_fps2 _ _) (below_setRow hS10 (sizeNb hS9)) ?_
  intro w11 hw11 hS11
  have G11_11 : w11.heap[w8.heap.size]? = some (.cells (fps [a0, a1]) 40 (0, 0)) := hw11 ▸ setRow_heap _ _ _ _ _ _ G11_10
  refine k_end ?_
  clear hw10 hw11
  go_simp
  have hB4 := nb_trans hB3 hS11
  have F0_4 := Lib.hid (nb_heap F0_3.out _ hS11)
  have F1_4 := Lib.hid (nb_heap F1_3.out _ hS11)
  have N11_4 := Lib.hid G11_11
  clear G11_11 G11_10
  go_upto_region 7 with (fail)
  go_upto_region 8 with (first | (refine wpList_load_row rfl 40 _ rfl (w.heap.size + 1) rfl _ (fps [c0, c1]) _ _ F1_4.out Tryd.underlying40 rfl (by kernel_rfl) ?_) | (refine wpList_store_row rfl 40 _ _ rfl _ (fps [c0, c1]) rfl rfl _ _ N11_4.out (by kernel_rfl) (by kernel_rfl) (all_fps2 _ _) ?_))
  have hBs := below_setRow (cs := (fps [c0, c1])) hB4 (Nat.le_trans (sizeNb hB3) (sizeNb hS9))
  have Fs0 := (setRow_other _ _ _ (fps [c0, c1]) (show w.heap.size ≠ w8.heap.size by have h1 := lt_of_heap F1_3.out; have h2 := sizeNb hS9; omega)).trans F0_4.out
  have Fs1 := (setRow_other _ _ _ (fps [c0, c1]) (show w.heap.size + 1 ≠ w8.heap.size by have h1 := lt_of_heap F1_3.out; have h2 := sizeNb hS9; omega)).trans F1_4.out
  have Ns := setRow_heap _ _ _ (fps [c0, c1]) _ _ N11_4.out
  generalize hWs : w11.setRow w8.heap.size (fps [c0, c1]) = Ws at *
  clear hWs
  replace Fs0 := Lib.hid Fs0
  replace Fs1 := Lib.hid Fs1
  replace Ns := Lib.hid Ns
  refine wp_seq_at (opsAt Tryd.f6 8) ((true, 0) :: (false, 1) :: (true, 2) :: (true, 3) :: (true, 4) :: (true, 5) :: (true, 6) :: []) (by kernel_rfl) (by kernel_rfl) ?_
  have hS12 : Below Ws.heap.size Ws Ws := Below.refl _ _
  refine k_pure (by kernel_rfl) (d := (some 40)) (by kernel_rfl) (v := .agg (fps [0, 0])) (fun _ => by kernel_rfl) ?_
  refine k_call (by kernel_rfl) (d := (some 41)) (by kernel_rfl) (f := 23) (args := #[.agg (fps [0, 0])]) (v := .tuple #[.bool true, .int .i64 0]) (fun _ => by kernel_rfl) (T3 (hm.nb (nb_trans hBs hS12))) (fun w13 hb13 => ⟨nb_trans hS12 hb13, ?_⟩)
  have hS13 := nb_trans hS12 hb13
  refine k_pure (by kernel_rfl) (d := (some 39)) (by kernel_rfl) (v := .tuple #[.bool true, .int .i64 0]) (fun _ => by kernel_rfl) ?_
  refine k_pure (by kernel_rfl) (d := (some 42)) (by kernel_rfl) (v := .bool true) (fun _ => by kernel_rfl) ?_
  refine k_pure (by kernel_rfl) (d := (some 43)) (by kernel_rfl) (v := .int .i64 0) (fun _ => by kernel_rfl) ?_
  refine k_pure (by kernel_rfl) (d := (some 12)) (by kernel_rfl) (v := .bool true) (fun _ => by kernel_rfl) ?_
  refine k_pure (by kernel_rfl) (d := (some 13)) (by kernel_rfl) (v := .int .i64 0) (fun _ => by kernel_rfl) ?_
  refine k_end ?_
  go_simp
  have hB5 := nb_trans hBs hS13
  have F0_5 := Lib.hid (nb_heap Fs0.out _ hS13)
  have F1_5 := Lib.hid (nb_heap Fs1.out _ hS13)
  have Fn11_5 := Lib.hid (nb_heap Ns.out _ hS13)
  go_upto_region 9 with (fail)
  refine wp_region_at (opsAt Tryd.f6 9) ((true, 0) :: (true, 1) :: (true, 2) :: (true, 3) :: (true, 5) :: (false, 4) :: (true, 6) :: (true, 7) :: (true, 8) :: (true, 9) :: (true, 10) :: (true, 11) :: (true, 12) :: (true, 13) :: (true, 14) :: (true, 15) :: (true, 16) :: (true, 17) :: (true, 18) :: (true, 19) :: (true, 20) :: (true, 22) :: (false, 21) :: (false, 23) :: (false, 24) :: (true, 25) :: (true, 26) :: []) (by kernel_rfl) rfl (by kernel_rfl) (fun _ _ d _ _ h => by cases d <;> exact h) (by kernel_rfl) fqTells_plan_9 ?_
  have hS14 : Below w13.heap.size w13 w13.drew := (Below.refl _ _).drew
  refine k_pure (by kernel_rfl) (d := (some 44)) (by kernel_rfl) (v := .bool true) (fun _ => by kernel_rfl) ?_
  refine k_pure (by kernel_rfl) (d := (some 45)) (by kernel_rfl) (v := .bool true) (fun _ => by kernel_rfl) ?_
  refine k_pure (by kernel_rfl) (d := (some 46)) (by kernel_rfl) (v := .bool true) (fun _ => by kernel_rfl) ?_
  refine k_row (by kernel_rfl) (d := (some 47)) (by kernel_rfl) (ty := 40) (x := (.tmp 3)) (by kernel_rfl) (b := w.heap.size) (by kernel_rfl) (cs := (fps [a0, a1])) (fun w' hs => ⟨_, nb_heap F0_5.out w' hs⟩) Tryd.underlying40 rfl (by kernel_rfl) ?_
  refine k_pure (by kernel_rfl) (d := (some 49)) (by kernel_rfl) (v := .agg (dgQ 0 0)) (fun _ => by kernel_rfl) ?_
  refine k_call (by kernel_rfl) (d := (some 48)) (by kernel_rfl) (f := 25) (args := #[.agg (fps [a0, a1])]) (v := .agg (dgQ X0.val X1.val)) (fun _ => by kernel_rfl) (O1) (fun w15 hb15 => ⟨nb_trans hS14 hb15, ?_⟩)
  have hS15 := nb_trans hS14 hb15
  refine k_eql (by kernel_rfl) (d := (some 50)) (by kernel_rfl) (ty := 44) (ty' := 44) (x := (.tmp 48)) (y := (.tmp 49)) (by kernel_rfl) (xs := (dgQ X0.val X1.val)) (ys := (dgQ 0 0)) (b := true) (by kernel_rfl) (by kernel_rfl) (by kernel_rfl) E1 ?_
  refine k_pure (by kernel_rfl) (d := (some 51)) (by kernel_rfl) (v := .bool true) (fun _ => by kernel_rfl) ?_
  refine k_pure (by kernel_rfl) (d := (some 52)) (by kernel_rfl) (v := .bool true) (fun _ => by kernel_rfl) ?_
  refine k_pure (by kernel_rfl) (d := (some 53)) (by kernel_rfl) (v := .bool true) (fun _ => by kernel_rfl) ?_
  refine k_pure (by kernel_rfl) (d := (some 54)) (by kernel_rfl) (v := .bool true) (fun _ => by kernel_rfl) ?_
  refine k_pure (by kernel_rfl) (d := (some 55)) (by kernel_rfl) (v := .bool true) (fun _ => by kernel_rfl) ?_
  refine k_skip (by kernel_rfl) (d := (some 56)) (by kernel_rfl) ?_
  refine k_skip (by kernel_rfl) (d := (some 57)) (by kernel_rfl) ?_
  refine k_skip (by kernel_rfl) (d := (some 58)) (by kernel_rfl) ?_
  refine k_pure (by kernel_rfl) (d := (some 59)) (by kernel_rfl) (v := .bool true) (fun _ => by kernel_rfl) ?_
  refine k_pure (by kernel_rfl) (d := (some 60)) (by kernel_rfl) (v := .bool true) (fun _ => by kernel_rfl) ?_
  refine k_pure (by kernel_rfl) (d := (some 61)) (by kernel_rfl) (v := .bool true) (fun _ => by kernel_rfl) ?_
  refine k_row (by kernel_rfl) (d := (some 62)) (by kernel_rfl) (ty := 40) (x := (.tmp 3)) (by kernel_rfl) (b := w.heap.size) (by kernel_rfl) (cs := (fps [a0, a1])) (fun w' hs => ⟨_, nb_heap F0_5.out w' hs⟩) Tryd.underlying40 rfl (by kernel_rfl) ?_
  refine k_row (by kernel_rfl) (d := (some 63)) (by kernel_rfl) (ty := 40) (x := (.tmp 4)) (by kernel_rfl) (b := w.heap.size + 1) (by kernel_rfl) (cs := (fps [c0, c1])) (fun w' hs => ⟨_, nb_heap F1_5.out w' hs⟩) Tryd.underlying40 rfl (by kernel_rfl) ?_
  refine k_pure (by kernel_rfl) (d := (some 64)) (by kernel_rfl) (v := .bool true) (fun _ => by kernel_rfl) ?_
  refine k_row (by kernel_rfl) (d := (some 66)) (by kernel_rfl) (ty := 40) (x := (.tmp 11)) (by kernel_rfl) (b := w8.heap.size) (by kernel_rfl) (cs := (fps [c0, c1])) (fun w' hs => ⟨_, nb_heap Fn11_5.out w' hs⟩) Tryd.underlying40 rfl (by kernel_rfl) ?_
  refine k_call (by kernel_rfl) (d := (some 65)) (by kernel_rfl) (f := 27) (args := #[.agg (fps [a0, a1]), .agg (fps [c0, c1]), .bool true]) (v := .agg (fps [C0.val, C1.val])) (fun _ => by kernel_rfl) (V1 (hm.nb (nb_trans hB5 hS15))) (fun w16 hb16 => ⟨nb_trans hS15 hb16, ?_⟩)
  have hS16 := nb_trans hS15 hb16
  refine k_call (by kernel_rfl) (d := (some 67)) (by kernel_rfl) (f := 25) (args := #[.agg (fps [c0, c1])]) (v := .agg (dgQ C0.val C1.val)) (fun _ => by kernel_rfl) (O2) (fun w17 hb17 => ⟨nb_trans hS16 hb17, ?_⟩)
  have hS17 := nb_trans hS16 hb17
  refine k_call (by kernel_rfl) (d := (some 68)) (by kernel_rfl) (f := 26) (args := #[.agg (fps [C0.val, C1.val]), .agg (dgQ C0.val C1.val)]) (v := .bool true) (fun _ => by kernel_rfl) (isQ_true rfl rfl) (fun w18 hb18 => ⟨nb_trans hS17 hb18, ?_⟩)
  have hS18 := nb_trans hS17 hb18
  refine k_pure (by kernel_rfl) (d := (some 69)) (by kernel_rfl) (v := .bool true) (fun _ => by kernel_rfl) ?_
  refine k_pure (by kernel_rfl) (d := (some 6)) (by kernel_rfl) (v := .bool true) (fun _ => by kernel_rfl) ?_
  refine k_end ?_
  go_simp
  have hB6 := nb_trans hB5 hS18
  have F0_6 := Lib.hid (nb_heap F0_5.out _ hS18)
  have F1_6 := Lib.hid (nb_heap F1_5.out _ hS18)
  have Fn11_6 := Lib.hid (nb_heap Fn11_5.out _ hS18)
  go_wp2_with fail
  exact bodyPost_ret_by (by kernel_rfl) (by kernel_rfl) ⟨rfl, hB6⟩

set_option maxRecDepth 100000 in
set_option maxHeartbeats 2000000 in
theorem fqTells_true_false {w : World} {a0 a1 c0 c1 : Nat} {X0 X1 C0 C1 r0 r1 : Zp} {p : Bool} {s t : Int} (hm : ModW w) (ha0 : a0 < 256 ^ 16) (ha1 : a1 < 256 ^ 16) (hc0 : c0 < 256 ^ 16) (hc1 : c1 < 256 ^ 16) (hl : lowAll [a0, a1, c0, c1] = true) (hst : (s != t) = true)
    (O1 : ∀ {w : World}, Calls Tryd.prog 25 #[.agg (fps [a0, a1])] w fun e w' => e = .returned (.agg (dgQ X0.val X1.val)) ∧ Below w.heap.size w w')
    (T3 : ∀ {w : World}, ModW w → Calls Tryd.prog 23 #[.agg (fps [0, 0])] w fun e w' => e = .returned (.tuple #[.bool true, .int .i64 0]) ∧ Below w.heap.size w w')
    (T1 : ∀ {w : World}, ModW w → Calls Tryd.prog 23 #[.agg (fps [a0, a1])] w fun e w' => e = .returned (.tuple #[.bool false, .int .i64 s]) ∧ Below w.heap.size w w')
    (N1 : ∀ {w : World}, ModW w → Calls Tryd.prog 24 #[.agg (fps [a0, a1])] w fun e w' => e = .returned (.agg (fps [r0.val, r1.val])) ∧ Below w.heap.size w w')
    (T2 : ∀ {w : World}, ModW w → Calls Tryd.prog 23 #[.agg (fps [r0.val, r1.val])] w fun e w' => e = .returned (.tuple #[.bool p, .int .i64 t]) ∧ Below w.heap.size w w')
    (V1 : ∀ {w : World}, ModW w → Calls Tryd.prog 27 #[.agg (fps [a0, a1]), .agg (fps [c0, c1]), .bool true] w fun e w' => e = .returned (.agg (fps [C0.val, C1.val])) ∧ Below w.heap.size w w')
    (O2 : ∀ {w : World}, Calls Tryd.prog 25 #[.agg (fps [c0, c1])] w fun e w' => e = .returned (.agg (dgQ C0.val C1.val)) ∧ Below w.heap.size w w')
    (E1 : ∀ w : World, (binOp .eql 44 (.agg (dgQ X0.val X1.val)) (.agg (dgQ 0 0))).run Tryd.prog w = .ok (.bool false) w) :
    Calls Tryd.prog 6 #[.agg (fps [a0, a1]), .agg (fps [c0, c1]), .bool true] w fun e w' => e = .returned (.bool true) ∧ Below w.heap.size w w' := by
  go_enter Tryd.func6, Tryd.ntmps6
  go_upto_region 1 with (fail)
  have hB : Below w.heap.size w ((w.alloc (.cells (fps [a0, a1]) 40)).alloc (.cells (fps [c0, c1]) 40)) := nb_alloc (nb_alloc (Below.refl _ _) _) _
  have F0 : ((w.alloc (.cells (fps [a0, a1]) 40)).alloc (.cells (fps [c0, c1]) 40)).heap[w.heap.size]? = some (.cells (fps [a0, a1]) 40 (0, 0)) := hp2_0 (w := w) (.cells (fps [a0, a1]) 40) (.cells (fps [c0, c1]) 40)
  have F1 : ((w.alloc (.cells (fps [a0, a1]) 40)).alloc (.cells (fps [c0, c1]) 40)).heap[w.heap.size + 1]? = some (.cells (fps [c0, c1]) 40 (0, 0)) := hp2_1 (w := w) (.cells (fps [a0, a1]) 40) (.cells (fps [c0, c1]) 40)
  obtain ⟨W0, hW⟩ : ∃ W0 : World, W0 = ((w.alloc (.cells (fps [a0, a1]) 40)).alloc (.cells (fps [c0, c1]) 40)) := ⟨_, rfl⟩
  rw [← hW] at hB F0 F1 ⊢
  clear hW
  replace F0 := Lib.hid F0
  replace F1 := Lib.hid F1
  refine wp_seq_at (opsAt Tryd.f6 1) ((true, 0) :: (true, 1) :: (true, 2) :: (true, 3) :: (true, 4) :: (true, 5) :: (true, 6) :: (true, 7) :: (false, 8) :: (false, 9) :: (true, 10) :: []) (by kernel_rfl) (by kernel_rfl) ?_
  have hS1 : Below W0.heap.size W0 W0 := Below.refl _ _
  refine k_pure (by kernel_rfl) (d := (some 14)) (by kernel_rfl) (v := .pointer (some ⟨w.heap.size, 0, none⟩)) (fun _ => by kernel_rfl) ?_
  refine k_part (by kernel_rfl) (d := (some 15)) (by kernel_rfl) (ty := 22) (x := (.tmp 14)) (by kernel_rfl) (b := w.heap.size) (off := 0) (by kernel_rfl) (all := (fps [a0, a1])) (cs := (fpC a0)) (fun w' hs => ⟨_, nb_heap F0.out w' hs⟩) fps_part0 Tryd.underlying22 rfl (by kernel_rfl) ?_
  refine k_pure (by kernel_rfl) (d := (some 16)) (by kernel_rfl) (v := .pointer (some ⟨w.heap.size, 16, none⟩)) (fun _ => by kernel_rfl) ?_
  refine k_part (by kernel_rfl) (d := (some 17)) (by kernel_rfl) (ty := 22) (x := (.tmp 16)) (by kernel_rfl) (b := w.heap.size) (off := 16) (by kernel_rfl) (all := (fps [a0, a1])) (cs := (fpC a1)) (fun w' hs => ⟨_, nb_heap F0.out w' hs⟩) fps_part1 Tryd.underlying22 rfl (by kernel_rfl) ?_
  refine k_pure (by kernel_rfl) (d := (some 18)) (by kernel_rfl) (v := .pointer (some ⟨w.heap.size + 1, 0, none⟩)) (fun _ => by kernel_rfl) ?_
  refine k_part (by kernel_rfl) (d := (some 19)) (by kernel_rfl) (ty := 22) (x := (.tmp 18)) (by kernel_rfl) (b := w.heap.size + 1) (off := 0) (by kernel_rfl) (all := (fps [c0, c1])) (cs := (fpC c0)) (fun w' hs => ⟨_, nb_heap F1.out w' hs⟩) fps_part0 Tryd.underlying22 rfl (by kernel_rfl) ?_
  refine k_pure (by kernel_rfl) (d := (some 20)) (by kernel_rfl) (v := .pointer (some ⟨w.heap.size + 1, 16, none⟩)) (fun _ => by kernel_rfl) ?_
  refine k_part (by kernel_rfl) (d := (some 21)) (by kernel_rfl) (ty := 22) (x := (.tmp 20)) (by kernel_rfl) (b := w.heap.size + 1) (off := 16) (by kernel_rfl) (all := (fps [c0, c1])) (cs := (fpC c1)) (fun w' hs => ⟨_, nb_heap F1.out w' hs⟩) fps_part1 Tryd.underlying22 rfl (by kernel_rfl) ?_
  refine k_make (by kernel_rfl) (d := (some 22)) (by kernel_rfl) (v := .slice (some ⟨W0.heap.size, 0, none⟩) 4 4) (w' := W0.alloc (.cells (fps [a0, a1, c0, c1]) 22)) (by kernel_rfl) (nb_alloc hS1 _) ?_
  intro w2 hw2 hM2
  refine k_call (by kernel_rfl) (d := (some 23)) (by kernel_rfl) (f := 17) (args := #[.slice (some ⟨W0.heap.size, 0, none⟩) 4 4]) (v := .bool true) (fun _ => by kernel_rfl) (hl ▸ low_c (hw2 ▸ Fps.new _ [a0, a1, c0, c1] _ _ _ rfl rfl) (all4 ha0 ha1 hc0 hc1) (by show 4 < 1000; decide)) (fun w3 hb3 => ⟨nb_trans hM2 hb3, ?_⟩)
  have hS3 := nb_trans hM2 hb3
  refine k_pure (by kernel_rfl) (d := (some 24)) (by kernel_rfl) (v := .bool false) (fun _ => by kernel_rfl) ?_
  refine k_end ?_
  clear hw2
  go_simp
  have hB1 := nb_trans hB hS3
  have F0_1 := Lib.hid (nb_heap F0.out _ hS3)
  have F1_1 := Lib.hid (nb_heap F1.out _ hS3)
  go_upto_region 3 with (fail)
  refine wp_seq_at (opsAt Tryd.f6 3) ((true, 0) :: (false, 1) :: (true, 2) :: (true, 3) :: (true, 4) :: (true, 5) :: (true, 6) :: []) (by kernel_rfl) (by kernel_rfl) ?_
  have hS4 : Below w3.heap.size w3 w3 := Below.refl _ _
  refine k_row (by kernel_rfl) (d := (some 26)) (by kernel_rfl) (ty := 40) (x := (.tmp 3)) (by kernel_rfl) (b := w.heap.size) (by kernel_rfl) (cs := (fps [a0, a1])) (fun w' hs => ⟨_, nb_heap F0_1.out w' hs⟩) Tryd.underlying40 rfl (by kernel_rfl) ?_
  refine k_call (by kernel_rfl) (d := (some 27)) (by kernel_rfl) (f := 23) (args := #[.agg (fps [a0, a1])]) (v := .tuple #[.bool false, .int .i64 s]) (fun _ => by kernel_rfl) (T1 (hm.nb (nb_trans hB1 hS4))) (fun w5 hb5 => ⟨nb_trans hS4 hb5, ?_⟩)
  have hS5 := nb_trans hS4 hb5
  refine k_pure (by kernel_rfl) (d := (some 25)) (by kernel_rfl) (v := .tuple #[.bool false, .int .i64 s]) (fun _ => by kernel_rfl) ?_
  refine k_pure (by kernel_rfl) (d := (some 28)) (by kernel_rfl) (v := .bool false) (fun _ => by kernel_rfl) ?_
  refine k_pure (by kernel_rfl) (d := (some 29)) (by kernel_rfl) (v := .int .i64 s) (fun _ => by kernel_rfl) ?_
  refine k_pure (by kernel_rfl) (d := (some 7)) (by kernel_rfl) (v := .bool false) (fun _ => by kernel_rfl) ?_
  refine k_pure (by kernel_rfl) (d := (some 8)) (by kernel_rfl) (v := .int .i64 s) (fun _ => by kernel_rfl) ?_
  refine k_end ?_
  go_simp
  have hB2 := nb_trans hB1 hS5
  have F0_2 := Lib.hid (nb_heap F0_1.out _ hS5)
  have F1_2 := Lib.hid (nb_heap F1_1.out _ hS5)
  go_upto_region 4 with (fail)
  refine wp_seq_at (opsAt Tryd.f6 4) ((true, 0) :: (false, 1) :: (false, 2) :: (true, 3) :: (true, 4) :: (true, 5) :: (true, 6) :: (true, 7) :: []) (by kernel_rfl) (by kernel_rfl) ?_
  have hS6 : Below w5.heap.size w5 w5 := Below.refl _ _
  refine k_row (by kernel_rfl) (d := (some 31)) (by kernel_rfl) (ty := 40) (x := (.tmp 3)) (by kernel_rfl) (b := w.heap.size) (by kernel_rfl) (cs := (fps [a0, a1])) (fun w' hs => ⟨_, nb_heap F0_2.out w' hs⟩) Tryd.underlying40 rfl (by kernel_rfl) ?_
  refine k_call (by kernel_rfl) (d := (some 32)) (by kernel_rfl) (f := 24) (args := #[.agg (fps [a0, a1])]) (v := .agg (fps [r0.val, r1.val])) (fun _ => by kernel_rfl) (N1 (hm.nb (nb_trans hB2 hS6))) (fun w7 hb7 => ⟨nb_trans hS6 hb7, ?_⟩)
  have hS7 := nb_trans hS6 hb7
  refine k_call (by kernel_rfl) (d := (some 33)) (by kernel_rfl) (f := 23) (args := #[.agg (fps [r0.val, r1.val])]) (v := .tuple #[.bool p, .int .i64 t]) (fun _ => by kernel_rfl) (T2 (hm.nb (nb_trans hB2 hS7))) (fun w8 hb8 => ⟨nb_trans hS7 hb8, ?_⟩)
  have hS8 := nb_trans hS7 hb8
  refine k_pure (by kernel_rfl) (d := (some 30)) (by kernel_rfl) (v := .tuple #[.bool p, .int .i64 t]) (fun _ => by kernel_rfl) ?_
  refine k_pure (by kernel_rfl) (d := (some 34)) (by kernel_rfl) (v := .bool p) (fun _ => by kernel_rfl) ?_
  refine k_pure (by kernel_rfl) (d := (some 35)) (by kernel_rfl) (v := .int .i64 t) (fun _ => by kernel_rfl) ?_
  refine k_pure (by kernel_rfl) (d := (some 9)) (by kernel_rfl) (v := .bool p) (fun _ => by kernel_rfl) ?_
  refine k_pure (by kernel_rfl) (d := (some 10)) (by kernel_rfl) (v := .int .i64 t) (fun _ => by kernel_rfl) ?_
  refine k_end ?_
  go_simp
  have hB3 := nb_trans hB2 hS8
  have F0_3 := Lib.hid (nb_heap F0_2.out _ hS8)
  have F1_3 := Lib.hid (nb_heap F1_2.out _ hS8)
  go_upto_region 5 with (fail)
  refine wp_seq_at (opsAt Tryd.f6 5) ((true, 0) :: (false, 1) :: (false, 2) :: []) (by kernel_rfl) (by kernel_rfl) ?_
  have hS9 : Below w8.heap.size w8 w8 := Below.refl _ _
  refine k_row (by kernel_rfl) (d := (some 36)) (by kernel_rfl) (ty := 40) (x := (.tmp 3)) (by kernel_rfl) (b := w.heap.size) (by kernel_rfl) (cs := (fps [a0, a1])) (fun w' hs => ⟨_, nb_heap F0_3.out w' hs⟩) Tryd.underlying40 rfl (by kernel_rfl) ?_
  refine k_make (by kernel_rfl) (d := (some 11)) (by kernel_rfl) (v := .pointer (some ⟨w8.heap.size, 0, none⟩)) (w' := w8.alloc (.cells (fps [0, 0]) 40)) (by kernel_rfl) (nb_alloc hS9 _) ?_
  intro w10 hw10 hS10
  have G11_10 : w10.heap[w8.heap.size]? = some (.cells (fps [0, 0]) 40 (0, 0)) := hw10 ▸ heap_alloc_new _ _
  refine k_put (by kernel_rfl) (d := none) (by kernel_rfl) (ty := 40) (x := (.tmp 11)) (y := (.tmp 36)) (by kernel_rfl) (g := w8.heap.size) (cells := (fps [a0, a1])) (by kernel_rfl) (by kernel_rfl) G11_10 (by kernel_rfl) (by kernel_rfl) (all_fps2 _ _) (below_setRow hS10 (sizeNb hS9)) ?_
  intro w11 hw11 hS11
  have G11_11 : w11.heap[w8.heap.size]? = some (.cells (fps [a0, a1]) 40 (0, 0)) := hw11 ▸ setRow_heap _ _ _ _ _ _ G11_10
  refine k_end ?_
  clear hw10 hw11
  go_simp
  have hB4 := nb_trans hB3 hS11
  have F0_4 := Lib.hid (nb_heap F0_3.out _ hS11)
  have F1_4 := Lib.hid (nb_heap F1_3.out _ hS11)
  have N11_4 := Lib.hid G11_11
  clear G11_11 G11_10
  go_upto_region 7 with (fail)
  go_upto_region 8 with (first | (refine wpList_load_row rfl 40 _ rfl (w.heap.size + 1) rfl _ (fps [c0, c1]) _ _ F1_4.out Tryd.underlying40 rfl (by kernel_rfl) ?_) | (refine wpList_store_row rfl 40 _ _ rfl _ (fps [c0, c1]) rfl rfl _ _ N11_4.out (by kernel_rfl) (by kernel_rfl) (all_fps2 _ _) ?_))
  have hBs := below_setRow (cs := (fps [c0, c1])) hB4 (Nat.le_trans (sizeNb hB3) (sizeNb hS9))
  have Fs0 := (setRow_other _ _ _ (fps [c0, c1]) (show w.heap.size ≠ w8.heap.size by have h1 := lt_of_heap F1_3.out; have h2 := sizeNb hS9; omega)).trans F0_4.out
  have Fs1 := (setRow_other _ _ _ (fps [c0, c1]) (show w.heap.size + 1 ≠ w8.heap.size by have h1 := lt_of_heap F1_3.out; have h2 := sizeNb hS9; omega)).trans F1_4.out
  have Ns := setRow_heap _ _ _ (fps [c0, c1]) _ _ N11_4.out
  generalize hWs : w11.setRow w8.heap.size (fps [c0, c1]) = Ws at *
  clear hWs
  replace Fs0 := Lib.hid Fs0
  replace Fs1 := Lib.hid Fs1
  replace Ns := Lib.hid Ns
  refine wp_seq_at (opsAt Tryd.f6 8) ((true, 0) :: (false, 1) :: (true, 2) :: (true, 3) :: (true, 4) :: (true, 5) :: (true, 6) :: []) (by kernel_rfl) (by kernel_rfl) ?_
  have hS12 : Below Ws.heap.size Ws Ws := Below.refl _ _
  refine k_pure (by kernel_rfl) (d := (some 40)) (by kernel_rfl) (v := .agg (fps [0, 0])) (fun _ => by kernel_rfl) ?_
  refine k_call (by kernel_rfl) (d := (some 41)) (by kernel_rfl) (f := 23) (args := #[.agg (fps [0, 0])]) (v := .tuple #[.bool true, .int .i64 0]) (fun _ => by kernel_rfl) (T3 (hm.nb (nb_trans hBs hS12))) (fun w13 hb13 => ⟨nb_trans hS12 hb13, ?_⟩)
  have hS13 := nb_trans hS12 hb13
  refine k_pure (by kernel_rfl) (d := (some 39)) (by kernel_rfl) (v := .tuple #[.bool true, .int .i64 0]) (fun _ => by kernel_rfl) ?_
  refine k_pure (by kernel_rfl) (d := (some 42)) (by kernel_rfl) (v := .bool true) (fun _ => by kernel_rfl) ?_
  refine k_pure (by kernel_rfl) (d := (some 43)) (by kernel_rfl) (v := .int .i64 0) (fun _ => by kernel_rfl) ?_
  refine k_pure (by kernel_rfl) (d := (some 12)) (by kernel_rfl) (v := .bool true) (fun _ => by kernel_rfl) ?_
  refine k_pure (by kernel_rfl) (d := (some 13)) (by kernel_rfl) (v := .int .i64 0) (fun _ => by kernel_rfl) ?_
  refine k_end ?_
  go_simp
  have hB5 := nb_trans hBs hS13
  have F0_5 := Lib.hid (nb_heap Fs0.out _ hS13)
  have F1_5 := Lib.hid (nb_heap Fs1.out _ hS13)
  have Fn11_5 := Lib.hid (nb_heap Ns.out _ hS13)
  go_upto_region 9 with (fail)
  refine wp_region_at (opsAt Tryd.f6 9) ((true, 0) :: (true, 1) :: (true, 2) :: (true, 3) :: (true, 5) :: (false, 4) :: (true, 6) :: (true, 7) :: (true, 8) :: (true, 9) :: (true, 10) :: (true, 11) :: (true, 12) :: (true, 13) :: (true, 14) :: (true, 15) :: (true, 16) :: (true, 17) :: (true, 18) :: (true, 19) :: (true, 20) :: (true, 22) :: (false, 21) :: (false, 23) :: (false, 24) :: (true, 25) :: (true, 26) :: []) (by kernel_rfl) rfl (by kernel_rfl) (fun _ _ d _ _ h => by cases d <;> exact h) (by kernel_rfl) fqTells_plan_9 ?_
  have hS14 : Below w13.heap.size w13 w13.drew := (Below.refl _ _).drew
  refine k_pure (by kernel_rfl) (d := (some 44)) (by kernel_rfl) (v := .bool true) (fun _ => by kernel_rfl) ?_
  refine k_pure (by kernel_rfl) (d := (some 45)) (by kernel_rfl) (v := .bool true) (fun _ => by kernel_rfl) ?_
  refine k_pure (by kernel_rfl) (d := (some 46)) (by kernel_rfl) (v := .bool false) (fun _ => by kernel_rfl) ?_
  refine k_row (by kernel_rfl) (d := (some 47)) (by kernel_rfl) (ty := 40) (x := (.tmp 3)) (by kernel_rfl) (b := w.heap.size) (by kernel_rfl) (cs := (fps [a0, a1])) (fun w' hs => ⟨_, nb_heap F0_5.out w' hs⟩) Tryd.underlying40 rfl (by kernel_rfl) ?_
  refine k_pure (by kernel_rfl) (d := (some 49)) (by kernel_rfl) (v := .agg (dgQ 0 0)) (fun _ => by kernel_rfl) ?_
  refine k_call (by kernel_rfl) (d := (some 48)) (by kernel_rfl) (f := 25) (args := #[.agg (fps [a0, a1])]) (v := .agg (dgQ X0.val X1.val)) (fun _ => by kernel_rfl) (O1) (fun w15 hb15 => ⟨nb_trans hS14 hb15, ?_⟩)
  have hS15 := nb_trans hS14 hb15
  refine k_eql (by kernel_rfl) (d := (some 50)) (by kernel_rfl) (ty := 44) (ty' := 44) (x := (.tmp 48)) (y := (.tmp 49)) (by kernel_rfl) (xs := (dgQ X0.val X1.val)) (ys := (dgQ 0 0)) (b := false) (by kernel_rfl) (by kernel_rfl) (by kernel_rfl) E1 ?_
  refine k_pure (by kernel_rfl) (d := (some 51)) (by kernel_rfl) (v := .bool true) (fun _ => by kernel_rfl) ?_
  refine k_pure (by kernel_rfl) (d := (some 52)) (by kernel_rfl) (v := .bool true) (fun _ => by kernel_rfl) ?_
  refine k_pure (by kernel_rfl) (d := (some 53)) (by kernel_rfl) (v := .bool true) (fun _ => by kernel_rfl) ?_
  refine k_pure (by kernel_rfl) (d := (some 54)) (by kernel_rfl) (v := .bool false) (fun _ => by kernel_rfl) ?_
  refine k_pure (by kernel_rfl) (d := (some 55)) (by kernel_rfl) (v := .bool false) (fun _ => by kernel_rfl) ?_
  refine k_pure (by kernel_rfl) (d := (some 56)) (by kernel_rfl) (v := .int .i64 s) (fun _ => by kernel_rfl) ?_
  refine k_pure (by kernel_rfl) (d := (some 57)) (by kernel_rfl) (v := .int .i64 t) (fun _ => by kernel_rfl) ?_
  refine k_pure (by kernel_rfl) (d := (some 58)) (by kernel_rfl) (v := .bool true) (fun _ => (show _ = Result.ok (Next.value (.bool (s != t))) _ by kernel_rfl).trans (by rw [hst])) ?_
  refine k_pure (by kernel_rfl) (d := (some 59)) (by kernel_rfl) (v := .bool true) (fun _ => by kernel_rfl) ?_
  refine k_pure (by kernel_rfl) (d := (some 60)) (by kernel_rfl) (v := .bool true) (fun _ => by kernel_rfl) ?_
  refine k_pure (by kernel_rfl) (d := (some 61)) (by kernel_rfl) (v := .bool true) (fun _ => by kernel_rfl) ?_
  refine k_row (by kernel_rfl) (d := (some 62)) (by kernel_rfl) (ty := 40) (x := (.tmp 3)) (by kernel_rfl) (b := w.heap.size) (by kernel_rfl) (cs := (fps [a0, a1])) (fun w' hs => ⟨_, nb_heap F0_5.out w' hs⟩) Tryd.underlying40 rfl (by kernel_rfl) ?_
  refine k_row (by kernel_rfl) (d := (some 63)) (by kernel_rfl) (ty := 40) (x := (.tmp 4)) (by kernel_rfl) (b := w.heap.size + 1) (by kernel_rfl) (cs := (fps [c0, c1])) (fun w' hs => ⟨_, nb_heap F1_5.out w' hs⟩) Tryd.underlying40 rfl (by kernel_rfl) ?_
  refine k_pure (by kernel_rfl) (d := (some 64)) (by kernel_rfl) (v := .bool true) (fun _ => by kernel_rfl) ?_
  refine k_row (by kernel_rfl) (d := (some 66)) (by kernel_rfl) (ty := 40) (x := (.tmp 11)) (by kernel_rfl) (b := w8.heap.size) (by kernel_rfl) (cs := (fps [c0, c1])) (fun w' hs => ⟨_, nb_heap Fn11_5.out w' hs⟩) Tryd.underlying40 rfl (by kernel_rfl) ?_
  refine k_call (by kernel_rfl) (d := (some 65)) (by kernel_rfl) (f := 27) (args := #[.agg (fps [a0, a1]), .agg (fps [c0, c1]), .bool true]) (v := .agg (fps [C0.val, C1.val])) (fun _ => by kernel_rfl) (V1 (hm.nb (nb_trans hB5 hS15))) (fun w16 hb16 => ⟨nb_trans hS15 hb16, ?_⟩)
  have hS16 := nb_trans hS15 hb16
  refine k_call (by kernel_rfl) (d := (some 67)) (by kernel_rfl) (f := 25) (args := #[.agg (fps [c0, c1])]) (v := .agg (dgQ C0.val C1.val)) (fun _ => by kernel_rfl) (O2) (fun w17 hb17 => ⟨nb_trans hS16 hb17, ?_⟩)
  have hS17 := nb_trans hS16 hb17
  refine k_call (by kernel_rfl) (d := (some 68)) (by kernel_rfl) (f := 26) (args := #[.agg (fps [C0.val, C1.val]), .agg (dgQ C0.val C1.val)]) (v := .bool true) (fun _ => by kernel_rfl) (isQ_true rfl rfl) (fun w18 hb18 => ⟨nb_trans hS17 hb18, ?_⟩)
  have hS18 := nb_trans hS17 hb18
  refine k_pure (by kernel_rfl) (d := (some 69)) (by kernel_rfl) (v := .bool true) (fun _ => by kernel_rfl) ?_
  refine k_pure (by kernel_rfl) (d := (some 6)) (by kernel_rfl) (v := .bool true) (fun _ => by kernel_rfl) ?_
  refine k_end ?_
  go_simp
  have hB6 := nb_trans hB5 hS18
  have F0_6 := Lib.hid (nb_heap F0_5.out _ hS18)
  have F1_6 := Lib.hid (nb_heap F1_5.out _ hS18)
  have Fn11_6 := Lib.hid (nb_heap Fn11_5.out _ hS18)
  go_wp2_with fail
  exact bodyPost_ret_by (by kernel_rfl) (by kernel_rfl) ⟨rfl, hB6⟩

set_option maxRecDepth 100000 in
set_option maxHeartbeats 2000000 in
theorem fqTells_high_false {w : World} {a0 a1 c0 c1 : Nat} (ha0 : a0 < 256 ^ 16) (ha1 : a1 < 256 ^ 16) (hc0 : c0 < 256 ^ 16) (hc1 : c1 < 256 ^ 16) (hl : lowAll [a0, a1, c0, c1] = false) :
    Calls Tryd.prog 6 #[.agg (fps [a0, a1]), .agg (fps [c0, c1]), .bool false] w fun e w' => e = .returned (.bool true) ∧ Below w.heap.size w w' := by
  go_enter Tryd.func6, Tryd.ntmps6
  go_upto_region 1 with (fail)
  have hB : Below w.heap.size w ((w.alloc (.cells (fps [a0, a1]) 40)).alloc (.cells (fps [c0, c1]) 40)) := nb_alloc (nb_alloc (Below.refl _ _) _) _
  have F0 : ((w.alloc (.cells (fps [a0, a1]) 40)).alloc (.cells (fps [c0, c1]) 40)).heap[w.heap.size]? = some (.cells (fps [a0, a1]) 40 (0, 0)) := hp2_0 (w := w) (.cells (fps [a0, a1]) 40) (.cells (fps [c0, c1]) 40)
  have F1 : ((w.alloc (.cells (fps [a0, a1]) 40)).alloc (.cells (fps [c0, c1]) 40)).heap[w.heap.size + 1]? = some (.cells (fps [c0, c1]) 40 (0, 0)) := hp2_1 (w := w) (.cells (fps [a0, a1]) 40) (.cells (fps [c0, c1]) 40)
  obtain ⟨W0, hW⟩ : ∃ W0 : World, W0 = ((w.alloc (.cells (fps [a0, a1]) 40)).alloc (.cells (fps [c0, c1]) 40)) := ⟨_, rfl⟩
  rw [← hW] at hB F0 F1 ⊢
  clear hW
  replace F0 := Lib.hid F0
  replace F1 := Lib.hid F1
  refine wp_seq_at (opsAt Tryd.f6 1) ((true, 0) :: (true, 1) :: (true, 2) :: (true, 3) :: (true, 4) :: (true, 5) :: (true, 6) :: (true, 7) :: (false, 8) :: (false, 9) :: (true, 10) :: []) (by kernel_rfl) (by kernel_rfl) ?_
  have hS1 : Below W0.heap.size W0 W0 := Below.refl _ _
  refine k_pure (by kernel_rfl) (d := (some 14)) (by kernel_rfl) (v := .pointer (some ⟨w.heap.size, 0, none⟩)) (fun _ => by kernel_rfl) ?_
  refine k_part (by kernel_rfl) (d := (some 15)) (by kernel_rfl) (ty := 22) (x := (.tmp 14)) (by kernel_rfl) (b := w.heap.size) (off := 0) (by kernel_rfl) (all := (fps [a0, a1])) (cs := (fpC a0)) (fun w' hs => ⟨_, nb_heap F0.out w' hs⟩) fps_part0 Tryd.underlying22 rfl (by kernel_rfl) ?_
  refine k_pure (by kernel_rfl) (d := (some 16)) (by kernel_rfl) (v := .pointer (some ⟨w.heap.size, 16, none⟩)) (fun _ => by kernel_rfl) ?_
  refine k_part (by kernel_rfl) (d := (some 17)) (by kernel_rfl) (ty := 22) (x := (.tmp 16)) (by kernel_rfl) (b := w.heap.size) (off := 16) (by kernel_rfl) (all := (fps [a0, a1])) (cs := (fpC a1)) (fun w' hs => ⟨_, nb_heap F0.out w' hs⟩) fps_part1 Tryd.underlying22 rfl (by kernel_rfl) ?_
  refine k_pure (by kernel_rfl) (d := (some 18)) (by kernel_rfl) (v := .pointer (some ⟨w.heap.size + 1, 0, none⟩)) (fun _ => by kernel_rfl) ?_
  refine k_part (by kernel_rfl) (d := (some 19)) (by kernel_rfl) (ty := 22) (x := (.tmp 18)) (by kernel_rfl) (b := w.heap.size + 1) (off := 0) (by kernel_rfl) (all := (fps [c0, c1])) (cs := (fpC c0)) (fun w' hs => ⟨_, nb_heap F1.out w' hs⟩) fps_part0 Tryd.underlying22 rfl (by kernel_rfl) ?_
  refine k_pure (by kernel_rfl) (d := (some 20)) (by kernel_rfl) (v := .pointer (some ⟨w.heap.size + 1, 16, none⟩)) (fun _ => by kernel_rfl) ?_
  refine k_part (by kernel_rfl) (d := (some 21)) (by kernel_rfl) (ty := 22) (x := (.tmp 20)) (by kernel_rfl) (b := w.heap.size + 1) (off := 16) (by kernel_rfl) (all := (fps [c0, c1])) (cs := (fpC c1)) (fun w' hs => ⟨_, nb_heap F1.out w' hs⟩) fps_part1 Tryd.underlying22 rfl (by kernel_rfl) ?_
  refine k_make (by kernel_rfl) (d := (some 22)) (by kernel_rfl) (v := .slice (some ⟨W0.heap.size, 0, none⟩) 4 4) (w' := W0.alloc (.cells (fps [a0, a1, c0, c1]) 22)) (by kernel_rfl) (nb_alloc hS1 _) ?_
  intro w2 hw2 hM2
  refine k_call (by kernel_rfl) (d := (some 23)) (by kernel_rfl) (f := 17) (args := #[.slice (some ⟨W0.heap.size, 0, none⟩) 4 4]) (v := .bool false) (fun _ => by kernel_rfl) (hl ▸ low_c (hw2 ▸ Fps.new _ [a0, a1, c0, c1] _ _ _ rfl rfl) (all4 ha0 ha1 hc0 hc1) (by show 4 < 1000; decide)) (fun w3 hb3 => ⟨nb_trans hM2 hb3, ?_⟩)
  have hS3 := nb_trans hM2 hb3
  refine k_pure (by kernel_rfl) (d := (some 24)) (by kernel_rfl) (v := .bool true) (fun _ => by kernel_rfl) ?_
  refine k_end ?_
  clear hw2
  go_simp
  have hB1 := nb_trans hB hS3
  have F0_1 := Lib.hid (nb_heap F0.out _ hS3)
  have F1_1 := Lib.hid (nb_heap F1.out _ hS3)
  go_wp2_with fail
  exact bodyPost_ret_by (by kernel_rfl) (by kernel_rfl) ⟨rfl, hB1⟩

set_option maxRecDepth 100000 in
set_option maxHeartbeats 2000000 in
theorem fqTells_false_true {w : World} {a0 a1 c0 c1 : Nat} {X0 X1 r0 r1 : Zp} {p : Bool} {s t : Int} (hm : ModW w) (ha0 : a0 < 256 ^ 16) (ha1 : a1 < 256 ^ 16) (hc0 : c0 < 256 ^ 16) (hc1 : c1 < 256 ^ 16) (hl : lowAll [a0, a1, c0, c1] = true)
    (O1 : ∀ {w : World}, Calls Tryd.prog 25 #[.agg (fps [a0, a1])] w fun e w' => e = .returned (.agg (dgQ X0.val X1.val)) ∧ Below w.heap.size w w')
    (T3 : ∀ {w : World}, ModW w → Calls Tryd.prog 23 #[.agg (fps [0, 0])] w fun e w' => e = .returned (.tuple #[.bool true, .int .i64 0]) ∧ Below w.heap.size w w')
    (T1 : ∀ {w : World}, ModW w → Calls Tryd.prog 23 #[.agg (fps [a0, a1])] w fun e w' => e = .returned (.tuple #[.bool true, .int .i64 s]) ∧ Below w.heap.size w w')
    (N1 : ∀ {w : World}, ModW w → Calls Tryd.prog 24 #[.agg (fps [a0, a1])] w fun e w' => e = .returned (.agg (fps [r0.val, r1.val])) ∧ Below w.heap.size w w')
    (T2 : ∀ {w : World}, ModW w → Calls Tryd.prog 23 #[.agg (fps [r0.val, r1.val])] w fun e w' => e = .returned (.tuple #[.bool p, .int .i64 t]) ∧ Below w.heap.size w w')
    (V1 : ∀ {w : World}, ModW w → Calls Tryd.prog 27 #[.agg (fps [a0, a1]), .agg (fps [c0, c1]), .bool false] w fun e w' => e = .returned (.agg (fps [X0.val, X1.val])) ∧ Below w.heap.size w w')
    (E1 : ∀ w : World, (binOp .eql 44 (.agg (dgQ X0.val X1.val)) (.agg (dgQ 0 0))).run Tryd.prog w = .ok (.bool true) w) :
    Calls Tryd.prog 6 #[.agg (fps [a0, a1]), .agg (fps [c0, c1]), .bool false] w fun e w' => e = .returned (.bool true) ∧ Below w.heap.size w w' := by
  go_enter Tryd.func6, Tryd.ntmps6
  go_upto_region 1 with (fail)
  have hB : Below w.heap.size w ((w.alloc (.cells (fps [a0, a1]) 40)).alloc (.cells (fps [c0, c1]) 40)) := nb_alloc (nb_alloc (Below.refl _ _) _) _
  have F0 : ((w.alloc (.cells (fps [a0, a1]) 40)).alloc (.cells (fps [c0, c1]) 40)).heap[w.heap.size]? = some (.cells (fps [a0, a1]) 40 (0, 0)) := hp2_0 (w := w) (.cells (fps [a0, a1]) 40) (.cells (fps [c0, c1]) 40)
  have F1 : ((w.alloc (.cells (fps [a0, a1]) 40)).alloc (.cells (fps [c0, c1]) 40)).heap[w.heap.size + 1]? = some (.cells (fps [c0, c1]) 40 (0, 0)) := hp2_1 (w := w) (.cells (fps [a0, a1]) 40) (.cells (fps [c0, c1]) 40)
  obtain ⟨W0, hW⟩ : ∃ W0 : World, W0 = ((w.alloc (.cells (fps [a0, a1]) 40)).alloc (.cells (fps [c0, c1]) 40)) := ⟨_, rfl⟩
  rw [← hW] at hB F0 F1 ⊢
  clear hW
  replace F0 := Lib.hid F0
  replace F1 := Lib.hid F1
  refine wp_seq_at (opsAt Tryd.f6 1) ((true, 0) :: (true, 1) :: (true, 2) :: (true, 3) :: (true, 4) :: (true, 5) :: (true, 6) :: (true, 7) :: (false, 8) :: (false, 9) :: (true, 10) :: []) (by kernel_rfl) (by kernel_rfl) ?_
  have hS1 : Below W0.heap.size W0 W0 := Below.refl _ _
  refine k_pure (by kernel_rfl) (d := (some 14)) (by kernel_rfl) (v := .pointer (some ⟨w.heap.size, 0, none⟩)) (fun _ => by kernel_rfl) ?_
  refine k_part (by kernel_rfl) (d := (some 15)) (by kernel_rfl) (ty := 22) (x := (.tmp 14)) (by kernel_rfl) (b := w.heap.size) (off := 0) (by kernel_rfl) (all := (fps [a0, a1])) (cs := (fpC a0)) (fun w' hs => ⟨_, nb_heap F0.out w' hs⟩) fps_part0 Tryd.underlying22 rfl (by kernel_rfl) ?_
  refine k_pure (by kernel_rfl) (d := (some 16)) (by kernel_rfl) (v := .pointer (some ⟨w.heap.size, 16, none⟩)) (fun _ => by kernel_rfl) ?_
  refine k_part (by kernel_rfl) (d := (some 17)) (by kernel_rfl) (ty := 22) (x := (.tmp 16)) (by kernel_rfl) (b := w.heap.size) (off := 16) (by kernel_rfl) (all := (fps [a0, a1])) (cs := (fpC a1)) (fun w' hs => ⟨_, nb_heap F0.out w' hs⟩) fps_part1 Tryd.underlying22 rfl (by kernel_rfl) ?_
  refine k_pure (by kernel_rfl) (d := (some 18)) (by kernel_rfl) (v := .pointer (some ⟨w.heap.size + 1, 0, none⟩)) (fun _ => by kernel_rfl) ?_
  refine k_part (by kernel_rfl) (d := (some 19)) (by kernel_rfl) (ty := 22) (x := (.tmp 18)) (by kernel_rfl) (b := w.heap.size + 1) (off := 0) (by kernel_rfl) (all := (fps [c0, c1])) (cs := (fpC c0)) (fun w' hs => ⟨_, nb_heap F1.out w' hs⟩) fps_part0 Tryd.underlying22 rfl (by kernel_rfl) ?_
  refine k_pure (by kernel_rfl) (d := (some 20)) (by kernel_rfl) (v := .pointer (some ⟨w.heap.size + 1, 16, none⟩)) (fun _ => by kernel_rfl) ?_
  refine k_part (by kernel_rfl) (d := (some 21)) (by kernel_rfl) (ty := 22) (x := (.tmp 20)) (by kernel_rfl) (b := w.heap.size + 1) (off := 16) (by kernel_rfl) (all := (fps [c0, c1])) (cs := (fpC c1)) (fun w' hs => ⟨_, nb_heap F1.out w' hs⟩) fps_part1 Tryd.underlying22 rfl (by kernel_rfl) ?_
  refine k_make (by kernel_rfl) (d := (some 22)) (by kernel_rfl) (v := .slice (some ⟨W0.heap.size, 0, none⟩) 4 4) (w' := W0.alloc (.cells (fps [a0, a1, c0, c1]) 22)) (by kernel_rfl) (nb_alloc hS1 _) ?_
  intro w2 hw2 hM2
  refine k_call (by kernel_rfl) (d := (some 23)) (by kernel_rfl) (f := 17) (args := #[.slice (some ⟨W0.heap.size, 0, none⟩) 4 4]) (v := .bool true) (fun _ => by kernel_rfl) (hl ▸ low_c (hw2 ▸ Fps.new _ [a0, a1, c0, c1] _ _ _ rfl rfl) (all4 ha0 ha1 hc0 hc1) (by show 4 < 1000; decide)) (fun w3 hb3 => ⟨nb_trans hM2 hb3, ?_⟩)
  have hS3 := nb_trans hM2 hb3
  refine k_pure (by kernel_rfl) (d := (some 24)) (by kernel_rfl) (v := .bool false) (fun _ => by kernel_rfl) ?_
  refine k_end ?_
  clear hw2
  go_simp
  have hB1 := nb_trans hB hS3
  have F0_1 := Lib.hid (nb_heap F0.out _ hS3)
  have F1_1 := Lib.hid (nb_heap F1.out _ hS3)
  go_upto_region 3 with (fail)
  refine wp_seq_at (opsAt Tryd.f6 3) ((true, 0) :: (false, 1) :: (true, 2) :: (true, 3) :: (true, 4) :: (true, 5) :: (true, 6) :: []) (by kernel_rfl) (by kernel_rfl) ?_
  have hS4 : Below w3.heap.size w3 w3 := Below.refl _ _
  refine k_row (by kernel_rfl) (d := (some 26)) (by kernel_rfl) (ty := 40) (x := (.tmp 3)) (by kernel_rfl) (b := w.heap.size) (by kernel_rfl) (cs := (fps [a0, a1])) (fun w' hs => ⟨_, nb_heap F0_1.out w' hs⟩) Tryd.underlying40 rfl (by kernel_rfl) ?_
  refine k_call (by kernel_rfl) (d := (some 27)) (by kernel_rfl) (f := 23) (args := #[.agg (fps [a0, a1])]) (v := .tuple #[.bool true, .int .i64 s]) (fun _ => by kernel_rfl) (T1 (hm.nb (nb_trans hB1 hS4))) (fun w5 hb5 => ⟨nb_trans hS4 hb5, ?_⟩)
  have hS5 := nb_trans hS4 hb5
  refine k_pure (by kernel_rfl) (d := (some 25)) (by kernel_rfl) (v := .tuple #[.bool true, .int .i64 s]) (fun _ => by kernel_rfl) ?_
  refine k_pure (by kernel_rfl) (d := (some 28)) (by kernel_rfl) (v := .bool true) (fun _ => by kernel_rfl) ?_
  refine k_pure (by kernel_rfl) (d := (some 29)) (by kernel_rfl) (v := .int .i64 s) (fun _ => by kernel_rfl) ?_
  refine k_pure (by kernel_rfl) (d := (some 7)) (by kernel_rfl) (v := .bool true) (fun _ => by kernel_rfl) ?_
  refine k_pure (by kernel_rfl) (d := (some 8)) (by kernel_rfl) (v := .int .i64 s) (fun _ => by kernel_rfl) ?_
  refine k_end ?_
  go_simp
  have hB2 := nb_trans hB1 hS5
  have F0_2 := Lib.hid (nb_heap F0_1.out _ hS5)
  have F1_2 := Lib.hid (nb_heap F1_1.out _ hS5)
  go_upto_region 4 with (fail)
  refine wp_seq_at (opsAt Tryd.f6 4) ((true, 0) :: (false, 1) :: (false, 2) :: (true, 3) :: (true, 4) :: (true, 5) :: (true, 6) :: (true, 7) :: []) (by kernel_rfl) (by kernel_rfl) ?_
  have hS6 : Below w5.heap.size w5 w5 := Below.refl _ _
  refine k_row (by kernel_rfl) (d := (some 31)) (by kernel_rfl) (ty := 40) (x := (.tmp 3)) (by kernel_rfl) (b := w.heap.size) (by kernel_rfl) (cs := (fps [a0, a1])) (fun w' hs => ⟨_, nb_heap F0_2.out w' hs⟩) Tryd.underlying40 rfl (by kernel_rfl) ?_
  refine k_call (by kernel_rfl) (d := (some 32)) (by kernel_rfl) (f := 24) (args := #[.agg (fps [a0, a1])]) (v := .agg (fps [r0.val, r1.val])) (fun _ => by kernel_rfl) (N1 (hm.nb (nb_trans hB2 hS6))) (fun w7 hb7 => ⟨nb_trans hS6 hb7, ?_⟩)
  have hS7 := nb_trans hS6 hb7
  refine k_call (by kernel_rfl) (d := (some 33)) (by kernel_rfl) (f := 23) (args := #[.agg (fps [r0.val, r1.val])]) (v := .tuple #[.bool p, .int .i64 t]) (fun _ => by kernel_rfl) (T2 (hm.nb (nb_trans hB2 hS7))) (fun w8 hb8 => ⟨nb_trans hS7 hb8, ?_⟩)
  have hS8 := nb_trans hS7 hb8
  refine k_pure (by kernel_rfl) (d := (some 30)) (by kernel_rfl) (v := .tuple #[.bool p, .int .i64 t]) (fun _ => by kernel_rfl) ?_
  refine k_pure (by kernel_rfl) (d := (some 34)) (by kernel_rfl) (v := .bool p) (fun _ => by kernel_rfl) ?_
  refine k_pure (by kernel_rfl) (d := (some 35)) (by kernel_rfl) (v := .int .i64 t) (fun _ => by kernel_rfl) ?_
  refine k_pure (by kernel_rfl) (d := (some 9)) (by kernel_rfl) (v := .bool p) (fun _ => by kernel_rfl) ?_
  refine k_pure (by kernel_rfl) (d := (some 10)) (by kernel_rfl) (v := .int .i64 t) (fun _ => by kernel_rfl) ?_
  refine k_end ?_
  go_simp
  have hB3 := nb_trans hB2 hS8
  have F0_3 := Lib.hid (nb_heap F0_2.out _ hS8)
  have F1_3 := Lib.hid (nb_heap F1_2.out _ hS8)
  go_upto_region 5 with (fail)
  refine wp_seq_at (opsAt Tryd.f6 5) ((true, 0) :: (false, 1) :: (false, 2) :: []) (by kernel_rfl) (by kernel_rfl) ?_
  have hS9 : Below w8.heap.size w8 w8 := Below.refl _ _
  refine k_row (by kernel_rfl) (d := (some 36)) (by kernel_rfl) (ty := 40) (x := (.tmp 3)) (by kernel_rfl) (b := w.heap.size) (by kernel_rfl) (cs := (fps [a0, a1])) (fun w' hs => ⟨_, nb_heap F0_3.out w' hs⟩) Tryd.underlying40 rfl (by kernel_rfl) ?_
  refine k_make (by kernel_rfl) (d := (some 11)) (by kernel_rfl) (v := .pointer (some ⟨w8.heap.size, 0, none⟩)) (w' := w8.alloc (.cells (fps [0, 0]) 40)) (by kernel_rfl) (nb_alloc hS9 _) ?_
  intro w10 hw10 hS10
  have G11_10 : w10.heap[w8.heap.size]? = some (.cells (fps [0, 0]) 40 (0, 0)) := hw10 ▸ heap_alloc_new _ _
  refine k_put (by kernel_rfl) (d := none) (by kernel_rfl) (ty := 40) (x := (.tmp 11)) (y := (.tmp 36)) (by kernel_rfl) (g := w8.heap.size) (cells := (fps [a0, a1])) (by kernel_rfl) (by kernel_rfl) G11_10 (by kernel_rfl) (by kernel_rfl) (all_fps2 _ _) (below_setRow hS10 (sizeNb hS9)) ?_
  intro w11 hw11 hS11
  have G11_11 : w11.heap[w8.heap.size]? = some (.cells (fps [a0, a1]) 40 (0, 0)) := hw11 ▸ setRow_heap _ _ _ _ _ _ G11_10
  refine k_end ?_
  clear hw10 hw11
  go_simp
  have hB4 := nb_trans hB3 hS11
  have F0_4 := Lib.hid (nb_heap F0_3.out _ hS11)
  have F1_4 := Lib.hid (nb_heap F1_3.out _ hS11)
  have N11_4 := Lib.hid G11_11
  clear G11_11 G11_10
  go_upto_region 8 with (fail)
  refine wp_seq_at (opsAt Tryd.f6 8) ((true, 0) :: (false, 1) :: (true, 2) :: (true, 3) :: (true, 4) :: (true, 5) :: (true, 6) :: []) (by kernel_rfl) (by kernel_rfl) ?_
  have hS12 : Below w11.heap.size w11 w11 := Below.refl _ _
  refine k_pure (by kernel_rfl) (d := (some 40)) (by kernel_rfl) (v := .agg (fps [0, 0])) (fun _ => by kernel_rfl) ?_
  refine k_call (by kernel_rfl) (d := (some 41)) (by kernel_rfl) (f := 23) (args := #[.agg (fps [0, 0])]) (v := .tuple #[.bool true, .int .i64 0]) (fun _ => by kernel_rfl) (T3 (hm.nb (nb_trans hB4 hS12))) (fun w13 hb13 => ⟨nb_trans hS12 hb13, ?_⟩)
  have hS13 := nb_trans hS12 hb13
  refine k_pure (by kernel_rfl) (d := (some 39)) (by kernel_rfl) (v := .tuple #[.bool true, .int .i64 0]) (fun _ => by kernel_rfl) ?_
  refine k_pure (by kernel_rfl) (d := (some 42)) (by kernel_rfl) (v := .bool true) (fun _ => by kernel_rfl) ?_
  refine k_pure (by kernel_rfl) (d := (some 43)) (by kernel_rfl) (v := .int .i64 0) (fun _ => by kernel_rfl) ?_
  refine k_pure (by kernel_rfl) (d := (some 12)) (by kernel_rfl) (v := .bool true) (fun _ => by kernel_rfl) ?_
  refine k_pure (by kernel_rfl) (d := (some 13)) (by kernel_rfl) (v := .int .i64 0) (fun _ => by kernel_rfl) ?_
  refine k_end ?_
  go_simp
  have hB5 := nb_trans hB4 hS13
  have F0_5 := Lib.hid (nb_heap F0_4.out _ hS13)
  have F1_5 := Lib.hid (nb_heap F1_4.out _ hS13)
  have Fn11_5 := Lib.hid (nb_heap N11_4.out _ hS13)
  go_upto_region 9 with (fail)
  refine wp_region_at (opsAt Tryd.f6 9) ((true, 0) :: (true, 1) :: (true, 2) :: (true, 3) :: (true, 5) :: (false, 4) :: (true, 6) :: (true, 7) :: (true, 8) :: (true, 9) :: (true, 10) :: (true, 11) :: (true, 12) :: (true, 13) :: (true, 14) :: (true, 15) :: (true, 16) :: (true, 17) :: (true, 18) :: (true, 19) :: (true, 20) :: (true, 22) :: (false, 21) :: (false, 23) :: (false, 24) :: (true, 25) :: (true, 26) :: []) (by kernel_rfl) rfl (by kernel_rfl) (fun _ _ d _ _ h => by cases d <;> exact h) (by kernel_rfl) fqTells_plan_9 ?_
  have hS14 : Below w13.heap.size w13 w13.drew := (Below.refl _ _).drew
  refine k_pure (by kernel_rfl) (d := (some 44)) (by kernel_rfl) (v := .bool true) (fun _ => by kernel_rfl) ?_
  refine k_pure (by kernel_rfl) (d := (some 45)) (by kernel_rfl) (v := .bool true) (fun _ => by kernel_rfl) ?_
  refine k_pure (by kernel_rfl) (d := (some 46)) (by kernel_rfl) (v := .bool true) (fun _ => by kernel_rfl) ?_
  refine k_row (by kernel_rfl) (d := (some 47)) (by kernel_rfl) (ty := 40) (x := (.tmp 3)) (by kernel_rfl) (b := w.heap.size) (by kernel_rfl) (cs := (fps [a0, a1])) (fun w' hs => ⟨_, nb_heap F0_5.out w' hs⟩) Tryd.underlying40 rfl (by kernel_rfl) ?_
  refine k_pure (by kernel_rfl) (d := (some 49)) (by kernel_rfl) (v := .agg (dgQ 0 0)) (fun _ => by kernel_rfl) ?_
  refine k_call (by kernel_rfl) (d := (some 48)) (by kernel_rfl) (f := 25) (args := #[.agg (fps [a0, a1])]) (v := .agg (dgQ X0.val X1.val)) (fun _ => by kernel_rfl) (O1) (fun w15 hb15 => ⟨nb_trans hS14 hb15, ?_⟩)
  have hS15 := nb_trans hS14 hb15
  refine k_eql (by kernel_rfl) (d := (some 50)) (by kernel_rfl) (ty := 44) (ty' := 44) (x := (.tmp 48)) (y := (.tmp 49)) (by kernel_rfl) (xs := (dgQ X0.val X1.val)) (ys := (dgQ 0 0)) (b := true) (by kernel_rfl) (by kernel_rfl) (by kernel_rfl) E1 ?_
  refine k_pure (by kernel_rfl) (d := (some 51)) (by kernel_rfl) (v := .bool true) (fun _ => by kernel_rfl) ?_
  refine k_pure (by kernel_rfl) (d := (some 52)) (by kernel_rfl) (v := .bool true) (fun _ => by kernel_rfl) ?_
  refine k_pure (by kernel_rfl) (d := (some 53)) (by kernel_rfl) (v := .bool true) (fun _ => by kernel_rfl) ?_
  refine k_pure (by kernel_rfl) (d := (some 54)) (by kernel_rfl) (v := .bool true) (fun _ => by kernel_rfl) ?_
  refine k_pure (by kernel_rfl) (d := (some 55)) (by kernel_rfl) (v := .bool true) (fun _ => by kernel_rfl) ?_
  refine k_skip (by kernel_rfl) (d := (some 56)) (by kernel_rfl) ?_
  refine k_skip (by kernel_rfl) (d := (some 57)) (by kernel_rfl) ?_
  refine k_skip (by kernel_rfl) (d := (some 58)) (by kernel_rfl) ?_
  refine k_pure (by kernel_rfl) (d := (some 59)) (by kernel_rfl) (v := .bool true) (fun _ => by kernel_rfl) ?_
  refine k_pure (by kernel_rfl) (d := (some 60)) (by kernel_rfl) (v := .bool true) (fun _ => by kernel_rfl) ?_
  refine k_pure (by kernel_rfl) (d := (some 61)) (by kernel_rfl) (v := .bool true) (fun _ => by kernel_rfl) ?_
  refine k_row (by kernel_rfl) (d := (some 62)) (by kernel_rfl) (ty := 40) (x := (.tmp 3)) (by kernel_rfl) (b := w.heap.size) (by kernel_rfl) (cs := (fps [a0, a1])) (fun w' hs => ⟨_, nb_heap F0_5.out w' hs⟩) Tryd.underlying40 rfl (by kernel_rfl) ?_
  refine k_row (by kernel_rfl) (d := (some 63)) (by kernel_rfl) (ty := 40) (x := (.tmp 4)) (by kernel_rfl) (b := w.heap.size + 1) (by kernel_rfl) (cs := (fps [c0, c1])) (fun w' hs => ⟨_, nb_heap F1_5.out w' hs⟩) Tryd.underlying40 rfl (by kernel_rfl) ?_
  refine k_pure (by kernel_rfl) (d := (some 64)) (by kernel_rfl) (v := .bool false) (fun _ => by kernel_rfl) ?_
  refine k_row (by kernel_rfl) (d := (some 66)) (by kernel_rfl) (ty := 40) (x := (.tmp 11)) (by kernel_rfl) (b := w8.heap.size) (by kernel_rfl) (cs := (fps [a0, a1])) (fun w' hs => ⟨_, nb_heap Fn11_5.out w' hs⟩) Tryd.underlying40 rfl (by kernel_rfl) ?_
  refine k_call (by kernel_rfl) (d := (some 65)) (by kernel_rfl) (f := 27) (args := #[.agg (fps [a0, a1]), .agg (fps [c0, c1]), .bool false]) (v := .agg (fps [X0.val, X1.val])) (fun _ => by kernel_rfl) (V1 (hm.nb (nb_trans hB5 hS15))) (fun w16 hb16 => ⟨nb_trans hS15 hb16, ?_⟩)
  have hS16 := nb_trans hS15 hb16
  refine k_call (by kernel_rfl) (d := (some 67)) (by kernel_rfl) (f := 25) (args := #[.agg (fps [a0, a1])]) (v := .agg (dgQ X0.val X1.val)) (fun _ => by kernel_rfl) (O1) (fun w17 hb17 => ⟨nb_trans hS16 hb17, ?_⟩)
  have hS17 := nb_trans hS16 hb17
  refine k_call (by kernel_rfl) (d := (some 68)) (by kernel_rfl) (f := 26) (args := #[.agg (fps [X0.val, X1.val]), .agg (dgQ X0.val X1.val)]) (v := .bool true) (fun _ => by kernel_rfl) (isQ_true rfl rfl) (fun w18 hb18 => ⟨nb_trans hS17 hb18, ?_⟩)
  have hS18 := nb_trans hS17 hb18
  refine k_pure (by kernel_rfl) (d := (some 69)) (by kernel_rfl) (v := .bool true) (fun _ => by kernel_rfl) ?_
  refine k_pure (by kernel_rfl) (d := (some 6)) (by kernel_rfl) (v := .bool true) (fun _ => by kernel_rfl) ?_
  refine k_end ?_
  go_simp
  have hB6 := nb_trans hB5 hS18
  have F0_6 := Lib.hid (nb_heap F0_5.out _ hS18)
  have F1_6 := Lib.hid (nb_heap F1_5.out _ hS18)
  have Fn11_6 := Lib.hid (nb_heap Fn11_5.out _ hS18)
  go_wp2_with fail
  exact bodyPost_ret_by (by kernel_rfl) (by kernel_rfl) ⟨rfl, hB6⟩

set_option maxRecDepth 100000 in
set_option maxHeartbeats 2000000 in
theorem fqTells_false_false {w : World} {a0 a1 c0 c1 : Nat} {X0 X1 r0 r1 : Zp} {p : Bool} {s t : Int} (hm : ModW w) (ha0 : a0 < 256 ^ 16) (ha1 : a1 < 256 ^ 16) (hc0 : c0 < 256 ^ 16) (hc1 : c1 < 256 ^ 16) (hl : lowAll [a0, a1, c0, c1] = true) (hst : (s != t) = true)
    (O1 : ∀ {w : World}, Calls Tryd.prog 25 #[.agg (fps [a0, a1])] w fun e w' => e = .returned (.agg (dgQ X0.val X1.val)) ∧ Below w.heap.size w w')
    (T3 : ∀ {w : World}, ModW w → Calls Tryd.prog 23 #[.agg (fps [0, 0])] w fun e w' => e = .returned (.tuple #[.bool true, .int .i64 0]) ∧ Below w.heap.size w w')
    (T1 : ∀ {w : World}, ModW w → Calls Tryd.prog 23 #[.agg (fps [a0, a1])] w fun e w' => e = .returned (.tuple #[.bool false, .int .i64 s]) ∧ Below w.heap.size w w')
    (N1 : ∀ {w : World}, ModW w → Calls Tryd.prog 24 #[.agg (fps [a0, a1])] w fun e w' => e = .returned (.agg (fps [r0.val, r1.val])) ∧ Below w.heap.size w w')
    (T2 : ∀ {w : World}, ModW w → Calls Tryd.prog 23 #[.agg (fps [r0.val, r1.val])] w fun e w' => e = .returned (.tuple #[.bool p, .int .i64 t]) ∧ Below w.heap.size w w')
    (V1 : ∀ {w : World}, ModW w → Calls Tryd.prog 27 #[.agg (fps [a0, a1]), .agg (fps [c0, c1]), .bool false] w fun e w' => e = .returned (.agg (fps [X0.val, X1.val])) ∧ Below w.heap.size w w')
    (E1 : ∀ w : World, (binOp .eql 44 (.agg (dgQ X0.val X1.val)) (.agg (dgQ 0 0))).run Tryd.prog w = .ok (.bool false) w) :
    Calls Tryd.prog 6 #[.agg (fps [a0, a1]), .agg (fps [c0, c1]), .bool false] w fun e w' => e = .returned (.bool true) ∧ Below w.heap.size w w' := by
  go_enter Tryd.func6, Tryd.ntmps6
  go_upto_region 1 with (fail)
  have hB : Below w.heap.size w ((w.alloc (.cells (fps [a0, a1]) 40)).alloc (.cells (fps [c0, c1]) 40)) := nb_alloc (nb_alloc (Below.refl _ _) _) _
  have F0 : ((w.alloc (.cells (fps [a0, a1]) 40)).alloc (.cells (fps [c0, c1]) 40)).heap[w.heap.size]? = some (.cells (fps [a0, a1]) 40 (0, 0)) := hp2_0 (w := w) (.cells (fps [a0, a1]) 40) (.cells (fps [c0, c1]) 40)
  have F1 : ((w.alloc (.cells (fps [a0, a1]) 40)).alloc (.cells (fps [c0, c1]) 40)).heap[w.heap.size + 1]? = some (.cells (fps [c0, c1]) 40 (0, 0)) := hp2_1 (w := w) (.cells (fps [a0, a1]) 40) (.cells (fps [c0, c1]) 40)
  obtain ⟨W0, hW⟩ : ∃ W0 : World, W0 = ((w.alloc (.cells (fps [a0, a1]) 40)).alloc (.cells (fps [c0, c1]) 40)) := ⟨_, rfl⟩
  rw [← hW] at hB F0 F1 ⊢
  clear hW
  replace F0 := Lib.hid F0
  replace F1 := Lib.hid F1
  refine wp_seq_at (opsAt Tryd.f6 1) ((true, 0) :: (true, 1) :: (true, 2) :: (true, 3) :: (true, 4) :: (true, 5) :: (true, 6) :: (true, 7) :: (false, 8) :: (false, 9) :: (true, 10) :: []) (by kernel_rfl) (by kernel_rfl) ?_
  have hS1 : Below W0.heap.size W0 W0 := Below.refl _ _
  refine k_pure (by kernel_rfl) (d := (some 14)) (by kernel_rfl) (v := .pointer (some ⟨w.heap.size, 0, none⟩)) (fun _ => by kernel_rfl) ?_
  refine k_part (by kernel_rfl) (d := (some 15)) (by kernel_rfl) (ty := 22) (x := (.tmp 14)) (by kernel_rfl) (b := w.heap.size) (off := 0) (by kernel_rfl) (all := (fps [a0, a1])) (cs := (fpC a0)) (fun w' hs => ⟨_, nb_heap F0.out w' hs⟩) fps_part0 Tryd.underlying22 rfl (by kernel_rfl) ?_
  refine k_pure (by kernel_rfl) (d := (some 16)) (by kernel_rfl) (v := .pointer (some ⟨w.heap.size, 16, none⟩)) (fun _ => by kernel_rfl) ?_
  refine k_part (by kernel_rfl) (d := (some 17)) (by kernel_rfl) (ty := 22) (x := (.tmp 16)) (by kernel_rfl) (b := w.heap.size) (off := 16) (by kernel_rfl) (all := (fps [a0, a1])) (cs := (fpC a1)) (fun w' hs => ⟨_, nb_heap F0.out w' hs⟩) fps_part1 Tryd.underlying22 rfl (by kernel_rfl) ?_
  refine k_pure (by kernel_rfl) (d := (some 18)) (by kernel_rfl) (v := .pointer (some ⟨w.heap.size + 1, 0, none⟩)) (fun _ => by kernel_rfl) ?_
  refine k_part (by kernel_rfl) (d := (some 19)) (by kernel_rfl) (ty := 22) (x := (.tmp 18)) (by kernel_rfl) (b := w.heap.size + 1) (off := 0) (by kernel_rfl) (all := (fps [c0, c1])) (cs := (fpC c0)) (fun w' hs => ⟨_, nb_heap F1.out w' hs⟩) fps_part0 Tryd.underlying22 rfl (by kernel_rfl) ?_
  refine k_pure (by kernel_rfl) (d := (some 20)) (by kernel_rfl) (v := .pointer (some ⟨w.heap.size + 1, 16, none⟩)) (fun _ => by kernel_rfl) ?_
  refine k_part (by kernel_rfl) (d := (some 21)) (by kernel_rfl) (ty := 22) (x := (.tmp 20)) (by kernel_rfl) (b := w.heap.size + 1) (off := 16) (by kernel_rfl) (all := (fps [c0, c1])) (cs := (fpC c1)) (fun w' hs => ⟨_, nb_heap F1.out w' hs⟩) fps_part1 Tryd.underlying22 rfl (by kernel_rfl) ?_
  refine k_make (by kernel_rfl) (d := (some 22)) (by kernel_rfl) (v := .slice (some ⟨W0.heap.size, 0, none⟩) 4 4) (w' := W0.alloc (.cells (fps [a0, a1, c0, c1]) 22)) (by kernel_rfl) (nb_alloc hS1 _) ?_
  intro w2 hw2 hM2
  refine k_call (by kernel_rfl) (d := (some 23)) (by kernel_rfl) (f := 17) (args := #[.slice (some ⟨W0.heap.size, 0, none⟩) 4 4]) (v := .bool true) (fun _ => by kernel_rfl) (hl ▸ low_c (hw2 ▸ Fps.new _ [a0, a1, c0, c1] _ _ _ rfl rfl) (all4 ha0 ha1 hc0 hc1) (by show 4 < 1000; decide)) (fun w3 hb3 => ⟨nb_trans hM2 hb3, ?_⟩)
  have hS3 := nb_trans hM2 hb3
  refine k_pure (by kernel_rfl) (d := (some 24)) (by kernel_rfl) (v := .bool false) (fun _ => by kernel_rfl) ?_
  refine k_end ?_
  clear hw2
  go_simp
  have hB1 := nb_trans hB hS3
  have F0_1 := Lib.hid (nb_heap F0.out _ hS3)
  have F1_1 := Lib.hid (nb_heap F1.out _ hS3)
  go_upto_region 3 with (fail)
  refine wp_seq_at (opsAt Tryd.f6 3) ((true, 0) :: (false, 1) :: (true, 2) :: (true, 3) :: (true, 4) :: (true, 5) :: (true, 6) :: []) (by kernel_rfl) (by kernel_rfl) ?_
  have hS4 : Below w3.heap.size w3 w3 := Below.refl _ _
  refine k_row (by kernel_rfl) (d := (some 26)) (by kernel_rfl) (ty := 40) (x := (.tmp 3)) (by kernel_rfl) (b := w.heap.size) (by kernel_rfl) (cs := (fps [a0, a1])) (fun w' hs => ⟨_, nb_heap F0_1.out w' hs⟩) Tryd.underlying40 rfl (by kernel_rfl) ?_
  refine k_call (by kernel_rfl) (d := (some 27)) (by kernel_rfl) (f := 23) (args := #[.agg (fps [a0, a1])]) (v := .tuple #[.bool false, .int .i64 s]) (fun _ => by kernel_rfl) (T1 (hm.nb (nb_trans hB1 hS4))) (fun w5 hb5 => ⟨nb_trans hS4 hb5, ?_⟩)
  have hS5 := nb_trans hS4 hb5
  refine k_pure (by kernel_rfl) (d := (some 25)) (by kernel_rfl) (v := .tuple #[.bool false, .int .i64 s]) (fun _ => by kernel_rfl) ?_
  refine k_pure (by kernel_rfl) (d := (some 28)) (by kernel_rfl) (v := .bool false) (fun _ => by kernel_rfl) ?_
  refine k_pure (by kernel_rfl) (d := (some 29)) (by kernel_rfl) (v := .int .i64 s) (fun _ => by kernel_rfl) ?_
  refine k_pure (by kernel_rfl) (d := (some 7)) (by kernel_rfl) (v := .bool false) (fun _ => by kernel_rfl) ?_
  refine k_pure (by kernel_rfl) (d := (some 8)) (by kernel_rfl) (v := .int .i64 s) (fun _ => by kernel_rfl) ?_
  refine k_end ?_
  go_simp
  have hB2 := nb_trans hB1 hS5
  have F0_2 := Lib.hid (nb_heap F0_1.out _ hS5)
  have F1_2 := Lib.hid (nb_heap F1_1.out _ hS5)
  go_upto_region 4 with (fail)
  refine wp_seq_at (opsAt Tryd.f6 4) ((true, 0) :: (false, 1) :: (false, 2) :: (true, 3) :: (true, 4) :: (true, 5) :: (true, 6) :: (true, 7) :: []) (by kernel_rfl) (by kernel_rfl) ?_
  have hS6 : Below w5.heap.size w5 w5 := Below.refl _ _
  refine k_row (by kernel_rfl) (d := (some 31)) (by kernel_rfl) (ty := 40) (x := (.tmp 3)) (by kernel_rfl) (b := w.heap.size) (by kernel_rfl) (cs := (fps [a0, a1])) (fun w' hs => ⟨_, nb_heap F0_2.out w' hs⟩) Tryd.underlying40 rfl (by kernel_rfl) ?_
  refine k_call (by kernel_rfl) (d := (some 32)) (by kernel_rfl) (f := 24) (args := #[.agg (fps [a0, a1])]) (v := .agg (fps [r0.val, r1.val])) (fun _ => by kernel_rfl) (N1 (hm.nb (nb_trans hB2 hS6))) (fun w7 hb7 => ⟨nb_trans hS6 hb7, ?_⟩)
  have hS7 := nb_trans hS6 hb7
  refine k_call (by kernel_rfl) (d := (some 33)) (by kernel_rfl) (f := 23) (args := #[.agg (fps [r0.val, r1.val])]) (v := .tuple #[.bool p, .int .i64 t]) (fun _ => by kernel_rfl) (T2 (hm.nb (nb_trans hB2 hS7))) (fun w8 hb8 => ⟨nb_trans hS7 hb8, ?_⟩)
  have hS8 := nb_trans hS7 hb8
  refine k_pure (by kernel_rfl) (d := (some 30)) (by kernel_rfl) (v := .tuple #[.bool p, .int .i64 t]) (fun _ => by kernel_rfl) ?_
  refine k_pure (by kernel_rfl) (d := (some 34)) (by kernel_rfl) (v := .bool p) (fun _ => by kernel_rfl) ?_
  refine k_pure (by kernel_rfl) (d := (some 35)) (by kernel_rfl) (v := .int .i64 t) (fun _ => by kernel_rfl) ?_
  refine k_pure (by kernel_rfl) (d := (some 9)) (by kernel_rfl) (v := .bool p) (fun _ => by kernel_rfl) ?_
  refine k_pure (by kernel_rfl) (d := (some 10)) (by kernel_rfl) (v := .int .i64 t) (fun _ => by kernel_rfl) ?_
  refine k_end ?_
  go_simp
  have hB3 := nb_trans hB2 hS8
  have F0_3 := Lib.hid (nb_heap F0_2.out _ hS8)
  have F1_3 := Lib.hid (nb_heap F1_2.out _ hS8)
  go_upto_region 5 with (fail)
  refine wp_seq_at (opsAt Tryd.f6 5) ((true, 0) :: (false, 1) :: (false, 2) :: []) (by kernel_rfl) (by kernel_rfl) ?_
  have hS9 : Below w8.heap.size w8 w8 := Below.refl _ _
  refine k_row (by kernel_rfl) (d := (some 36)) (by kernel_rfl) (ty := 40) (x := (.tmp 3)) (by kernel_rfl) (b := w.heap.size) (by kernel_rfl) (cs := (fps [a0, a1])) (fun w' hs => ⟨_, nb_heap F0_3.out w' hs⟩) Tryd.underlying40 rfl (by kernel_rfl) ?_
  refine k_make (by kernel_rfl) (d := (some 11)) (by kernel_rfl) (v := .pointer (some ⟨w8.heap.size, 0, none⟩)) (w' := w8.alloc (.cells (fps [0, 0]) 40)) (by kernel_rfl) (nb_alloc hS9 _) ?_
  intro w10 hw10 hS10
  have G11_10 : w10.heap[w8.heap.size]? = some (.cells (fps [0, 0]) 40 (0, 0)) := hw10 ▸ heap_alloc_new _ _
  refine k_put (by kernel_rfl) (d := none) (by kernel_rfl) (ty := 40) (x := (.tmp 11)) (y := (.tmp 36)) (by kernel_rfl) (g := w8.heap.size) (cells := (fps [a0, a1])) (by kernel_rfl) (by kernel_rfl) G11_10 (by kernel_rfl) (by kernel_rfl) (all_fps2 _ _) (below_setRow hS10 (sizeNb hS9)) ?_
  intro w11 hw11 hS11
  have G11_11 : w11.heap[w8.heap.size]? = some (.cells (fps [a0, a1]) 40 (0, 0)) := hw11 ▸ setRow_heap _ _ _ _ _ _ G11_10
  refine k_end ?_
  clear hw10 hw11
  go_simp
  have hB4 := nb_trans hB3 hS11
  have F0_4 := Lib.hid (nb_heap F0_3.out _ hS11)
  have F1_4 := Lib.hid (nb_heap F1_3.out _ hS11)
  have N11_4 := Lib.hid G11_11
  clear G11_11 G11_10
  go_upto_region 8 with (fail)
  refine wp_seq_at (opsAt Tryd.f6 8) ((true, 0) :: (false, 1) :: (true, 2) :: (true, 3) :: (true, 4) :: (true, 5) :: (true, 6) :: []) (by kernel_rfl) (by kernel_rfl) ?_
  have hS12 : Below w11.heap.size w11 w11 := Below.refl _ _
  refine k_pure (by kernel_rfl) (d := (some 40)) (by kernel_rfl) (v := .agg (fps [0, 0])) (fun _ => by kernel_rfl) ?_
  refine k_call (by kernel_rfl) (d := (some 41)) (by kernel_rfl) (f := 23) (args := #[.agg (fps [0, 0])]) (v := .tuple #[.bool true, .int .i64 0]) (fun _ => by kernel_rfl) (T3 (hm.nb (nb_trans hB4 hS12))) (fun w13 hb13 => ⟨nb_trans hS12 hb13, ?_⟩)
  have hS13 := nb_trans hS12 hb13
  refine k_pure (by kernel_rfl) (d := (some 39)) (by kernel_rfl) (v := .tuple #[.bool true, .int .i64 0]) (fun _ => by kernel_rfl) ?_
  refine k_pure (by kernel_rfl) (d := (some 42)) (by kernel_rfl) (v := .bool true) (fun _ => by kernel_rfl) ?_
  refine k_pure (by kernel_rfl) (d := (some 43)) (by kernel_rfl) (v := .int .i64 0) (fun _ => by kernel_rfl) ?_
  refine k_pure (by kernel_rfl) (d := (some 12)) (by kernel_rfl) (v := .bool true) (fun _ => by kernel_rfl) ?_
  refine k_pure (by kernel_rfl) (d := (some 13)) (by kernel_rfl) (v := .int .i64 0) (fun _ => by kernel_rfl) ?_
  refine k_end ?_
  go_simp
  have hB5 := nb_trans hB4 hS13
  have F0_5 := Lib.hid (nb_heap F0_4.out _ hS13)
  have F1_5 := Lib.hid (nb_heap F1_4.out _ hS13)
  have Fn11_5 := Lib.hid (nb_heap N11_4.out _ hS13)
  go_upto_region 9 with (fail)
  refine wp_region_at (opsAt Tryd.f6 9) ((true, 0) :: (true, 1) :: (true, 2) :: (true, 3) :: (true, 5) :: (false, 4) :: (true, 6) :: (true, 7) :: (true, 8) :: (true, 9) :: (true, 10) :: (true, 11) :: (true, 12) :: (true, 13) :: (true, 14) :: (true, 15) :: (true, 16) :: (true, 17) :: (true, 18) :: (true, 19) :: (true, 20) :: (true, 22) :: (false, 21) :: (false, 23) :: (false, 24) :: (true, 25) :: (true, 26) :: []) (by kernel_rfl) rfl (by kernel_rfl) (fun _ _ d _ _ h => by cases d <;> exact h) (by kernel_rfl) fqTells_plan_9 ?_
  have hS14 : Below w13.heap.size w13 w13.drew := (Below.refl _ _).drew
  refine k_pure (by kernel_rfl) (d := (some 44)) (by kernel_rfl) (v := .bool true) (fun _ => by kernel_rfl) ?_
  refine k_pure (by kernel_rfl) (d := (some 45)) (by kernel_rfl) (v := .bool true) (fun _ => by kernel_rfl) ?_
  refine k_pure (by kernel_rfl) (d := (some 46)) (by kernel_rfl) (v := .bool false) (fun _ => by kernel_rfl) ?_
  refine k_row (by kernel_rfl) (d := (some 47)) (by kernel_rfl) (ty := 40) (x := (.tmp 3)) (by kernel_rfl) (b := w.heap.size) (by kernel_rfl) (cs := (fps [a0, a1])) (fun w' hs => ⟨_, nb_heap F0_5.out w' hs⟩) Tryd.underlying40 rfl (by kernel_rfl) ?_
  refine k_pure (by kernel_rfl) (d := (some 49)) (by kernel_rfl) (v := .agg (dgQ 0 0)) (fun _ => by kernel_rfl) ?_
  refine k_call (by kernel_rfl) (d := (some 48)) (by kernel_rfl) (f := 25) (args := #[.agg (fps [a0, a1])]) (v := .agg (dgQ X0.val X1.val)) (fun _ => by kernel_rfl) (O1) (fun w15 hb15 => ⟨nb_trans hS14 hb15, ?_⟩)
  have hS15 := nb_trans hS14 hb15
  refine k_eql (by kernel_rfl) (d := (some 50)) (by kernel_rfl) (ty := 44) (ty' := 44) (x := (.tmp 48)) (y := (.tmp 49)) (by kernel_rfl) (xs := (dgQ X0.val X1.val)) (ys := (dgQ 0 0)) (b := false) (by kernel_rfl) (by kernel_rfl) (by kernel_rfl) E1 ?_
  refine k_pure (by kernel_rfl) (d := (some 51)) (by kernel_rfl) (v := .bool true) (fun _ => by kernel_rfl) ?_
  refine k_pure (by kernel_rfl) (d := (some 52)) (by kernel_rfl) (v := .bool true) (fun _ => by kernel_rfl) ?_
  refine k_pure (by kernel_rfl) (d := (some 53)) (by kernel_rfl) (v := .bool true) (fun _ => by kernel_rfl) ?_
  refine k_pure (by kernel_rfl) (d := (some 54)) (by kernel_rfl) (v := .bool false) (fun _ => by kernel_rfl) ?_
  refine k_pure (by kernel_rfl) (d := (some 55)) (by kernel_rfl) (v := .bool false) (fun _ => by kernel_rfl) ?_
  refine k_pure (by kernel_rfl) (d := (some 56)) (by kernel_rfl) (v := .int .i64 s) (fun _ => by kernel_rfl) ?_
  refine k_pure (by kernel_rfl) (d := (some 57)) (by kernel_rfl) (v := .int .i64 t) (fun _ => by kernel_rfl) ?_
  refine k_pure (by kernel_rfl) (d := (some 58)) (by kernel_rfl) (v := .bool true) (fun _ => (show _ = Result.ok (Next.value (.bool (s != t))) _ by kernel_rfl).trans (by rw [hst])) ?_
  refine k_pure (by kernel_rfl) (d := (some 59)) (by kernel_rfl) (v := .bool true) (fun _ => by kernel_rfl) ?_
  refine k_pure (by kernel_rfl) (d := (some 60)) (by kernel_rfl) (v := .bool true) (fun _ => by kernel_rfl) ?_
  refine k_pure (by kernel_rfl) (d := (some 61)) (by kernel_rfl) (v := .bool true) (fun _ => by kernel_rfl) ?_
  refine k_row (by kernel_rfl) (d := (some 62)) (by kernel_rfl) (ty := 40) (x := (.tmp 3)) (by kernel_rfl) (b := w.heap.size) (by kernel_rfl) (cs := (fps [a0, a1])) (fun w' hs => ⟨_, nb_heap F0_5.out w' hs⟩) Tryd.underlying40 rfl (by kernel_rfl) ?_
  refine k_row (by kernel_rfl) (d := (some 63)) (by kernel_rfl) (ty := 40) (x := (.tmp 4)) (by kernel_rfl) (b := w.heap.size + 1) (by kernel_rfl) (cs := (fps [c0, c1])) (fun w' hs => ⟨_, nb_heap F1_5.out w' hs⟩) Tryd.underlying40 rfl (by kernel_rfl) ?_
  refine k_pure (by kernel_rfl) (d := (some 64)) (by kernel_rfl) (v := .bool false) (fun _ => by kernel_rfl) ?_
  refine k_row (by kernel_rfl) (d := (some 66)) (by kernel_rfl) (ty := 40) (x := (.tmp 11)) (by kernel_rfl) (b := w8.heap.size) (by kernel_rfl) (cs := (fps [a0, a1])) (fun w' hs => ⟨_, nb_heap Fn11_5.out w' hs⟩) Tryd.underlying40 rfl (by kernel_rfl) ?_
  refine k_call (by kernel_rfl) (d := (some 65)) (by kernel_rfl) (f := 27) (args := #[.agg (fps [a0, a1]), .agg (fps [c0, c1]), .bool false]) (v := .agg (fps [X0.val, X1.val])) (fun _ => by kernel_rfl) (V1 (hm.nb (nb_trans hB5 hS15))) (fun w16 hb16 => ⟨nb_trans hS15 hb16, ?_⟩)
  have hS16 := nb_trans hS15 hb16
  refine k_call (by kernel_rfl) (d := (some 67)) (by kernel_rfl) (f := 25) (args := #[.agg (fps [a0, a1])]) (v := .agg (dgQ X0.val X1.val)) (fun _ => by kernel_rfl) (O1) (fun w17 hb17 => ⟨nb_trans hS16 hb17, ?_⟩)
  have hS17 := nb_trans hS16 hb17
  refine k_call (by kernel_rfl) (d := (some 68)) (by kernel_rfl) (f := 26) (args := #[.agg (fps [X0.val, X1.val]), .agg (dgQ X0.val X1.val)]) (v := .bool true) (fun _ => by kernel_rfl) (isQ_true rfl rfl) (fun w18 hb18 => ⟨nb_trans hS17 hb18, ?_⟩)
  have hS18 := nb_trans hS17 hb18
  refine k_pure (by kernel_rfl) (d := (some 69)) (by kernel_rfl) (v := .bool true) (fun _ => by kernel_rfl) ?_
  refine k_pure (by kernel_rfl) (d := (some 6)) (by kernel_rfl) (v := .bool true) (fun _ => by kernel_rfl) ?_
  refine k_end ?_
  go_simp
  have hB6 := nb_trans hB5 hS18
  have F0_6 := Lib.hid (nb_heap F0_5.out _ hS18)
  have F1_6 := Lib.hid (nb_heap F1_5.out _ hS18)
  have Fn11_6 := Lib.hid (nb_heap Fn11_5.out _ hS18)
  go_wp2_with fail
  exact bodyPost_ret_by (by kernel_rfl) (by kernel_rfl) ⟨rfl, hB6⟩


theorem fqTells_c {w : World} {a0 a1 c0 c1 : Nat} {b : Bool} (hm : ModW w) (ha0 : a0 < 256 ^ 16) (ha1 : a1 < 256 ^ 16) (hc0 : c0 < 256 ^ 16) (hc1 : c1 < 256 ^ 16) :
    Calls Tryd.prog 6 #[.agg (fps [a0, a1]), .agg (fps [c0, c1]), .bool b] w fun e w' => e = .returned (.bool true) ∧ Below w.heap.size w w' := by
  cases hl : lowAll [a0, a1, c0, c1] with
  | false =>
    cases b
    · exact fqTells_high_false ha0 ha1 hc0 hc1 hl
    · exact fqTells_high_true ha0 ha1 hc0 hc1 hl
  | true =>
    have h := lowAll_iff.1 hl
    have la0 : LowB a0 := h a0 (by simp)
    have la1 : LowB a1 := h a1 (by simp)
    have lc0 : LowB c0 := h c0 (by simp)
    have lc1 : LowB c1 := h c1 (by simp)
    have hE := fun w : World => eql_dgQ (P := Tryd.prog) (x := (zp a0).val) (y := (zp a1).val) (x' := 0) (y' := 0) Tryd.underlying44 Tryd.underlying26 (by kernel_rfl) (by kernel_rfl) Tryd.underlying24 (val_lt8 _) (val_lt8 _) (by decide) (by decide) w
    have hT3 : ∀ {w : World}, ModW w → Calls Tryd.prog 23 #[.agg (fps [0, 0])] w fun e w' => e = .returned (.tuple #[.bool true, .int .i64 0]) ∧ Below w.heap.size w w' := fun h => implFqTells h low_zero low_zero
    have hN : ∀ {w : World}, ModW w → Calls Tryd.prog 24 #[.agg (fps [a0, a1])] w fun e w' => e = .returned (.agg (fps [(-zp a0).val, (-zp a1).val])) ∧ Below w.heap.size w w' := fun h => implFqNeg h la0 la1
    have hT2 : ∀ {w : World}, ModW w → Calls Tryd.prog 23 #[.agg (fps [(-zp a0).val, (-zp a1).val])] w fun e w' => e = .returned (.tuple #[.bool (decide (-zp a0 = 0) && decide (-zp a1 = 0)), .int .i64 (sgnQ (-zp a0) (-zp a1))]) ∧ Below w.heap.size w w' := fun h => by
      have := implFqTells h (low_val (-zp a0)) (low_val (-zp a1))
      rwa [zp_val, zp_val] at this
    by_cases h0 : zp a0 = 0 ∧ zp a1 = 0
    · have hT1 : ∀ {w : World}, ModW w → Calls Tryd.prog 23 #[.agg (fps [a0, a1])] w fun e w' => e = .returned (.tuple #[.bool true, .int .i64 (sgnQ (zp a0) (zp a1))]) ∧ Below w.heap.size w w' := fun h => by
        have := implFqTells h la0 la1
        rwa [decide_eq_true h0.1, decide_eq_true h0.2] at this
      have hE1 : ∀ w : World, (binOp .eql 44 (.agg (dgQ (zp a0).val (zp a1).val)) (.agg (dgQ 0 0))).run Tryd.prog w = .ok (.bool true) w := fun w => by
        rw [hE w, h0.1, h0.2, val_zero, decide_eq_true rfl]; rfl
      cases b
      · exact fqTells_false_true hm ha0 ha1 hc0 hc1 hl (ofQ_c ha0 ha1) hT3 hT1 hN hT2 (fun h => implFqCmov0 h la0 la1 lc0 lc1) hE1
      · exact fqTells_true_true hm ha0 ha1 hc0 hc1 hl (ofQ_c ha0 ha1) hT3 hT1 hN hT2 (fun h => implFqCmov1 h la0 la1 lc0 lc1) (ofQ_c hc0 hc1) hE1
    · have hT1 : ∀ {w : World}, ModW w → Calls Tryd.prog 23 #[.agg (fps [a0, a1])] w fun e w' => e = .returned (.tuple #[.bool false, .int .i64 (sgnQ (zp a0) (zp a1))]) ∧ Below w.heap.size w w' := fun h => by
        have := implFqTells h la0 la1
        have e : (decide (zp a0 = 0) && decide (zp a1 = 0)) = false := by
          rw [← Bool.not_eq_true, Bool.and_eq_true, decide_eq_true_eq, decide_eq_true_eq]; exact h0
        rwa [e] at this
      have hE1 : ∀ w : World, (binOp .eql 44 (.agg (dgQ (zp a0).val (zp a1).val)) (.agg (dgQ 0 0))).run Tryd.prog w = .ok (.bool false) w := fun w => by
        rw [hE w]
        have : (decide ((zp a0).val = 0) && decide ((zp a1).val = 0)) = false := by
          rw [← Bool.not_eq_true, Bool.and_eq_true, decide_eq_true_eq, decide_eq_true_eq]
          exact fun q => h0 ⟨Zp.ext q.1, Zp.ext q.2⟩
        rw [this]
      have hst := bne_iff_ne.2 (sgnQ_neg h0)
      cases b
      · exact fqTells_false_false hm ha0 ha1 hc0 hc1 hl hst (ofQ_c ha0 ha1) hT3 hT1 hN hT2 (fun h => implFqCmov0 h la0 la1 lc0 lc1) hE1
      · exact fqTells_true_false hm ha0 ha1 hc0 hc1 hl hst (ofQ_c ha0 ha1) hT3 hT1 hN hT2 (fun h => implFqCmov1 h la0 la1 lc0 lc1) (ofQ_c hc0 hc1) hE1

end Go.Proofs.YtpogbljoohdehaaDoor
