/- FnFpIs: whatever two elements of 16 bytes: true. -/
import Derived.Test.YtpogbljoohdehaaDoorIs
namespace Go.Proofs.YtpogbljoohdehaaDoor
open Go.RowKit Go.FourQ

theorem sub_is {x y : Nat} (hx : LowB x) (hy : LowB y) : (x % pp + (pp - y % pp) % pp) % pp = subN x y % pp := by
  unfold LowB subN pp at *
  split <;> omega
theorem neg_is {x : Nat} (hx : LowB x) : (pp - x % pp) % pp = subN pp x % pp := by
  unfold LowB subN pp at *
  split <;> omega

theorem two_eq : (1 + 1) % pp = 2 := by kernel_rfl
theorem low_two : LowB 2 := by show 2 < 2 ^ 127; decide +kernel

theorem fpIs_plan_4 : planOk .any (opsAt Tryd.f7 4) (Array.replicate (opsAt Tryd.f7 4).size false) ((true, 0) :: (true, 1) :: (true, 3) :: (true, 4) :: (false, 2) :: (false, 5) :: (false, 6) :: (true, 7) :: (true, 8) :: (true, 9) :: (true, 11) :: (true, 12) :: (false, 10) :: (false, 13) :: (false, 14) :: (true, 15) :: (true, 16) :: (true, 17) :: (true, 18) :: (true, 20) :: (true, 21) :: (false, 19) :: (false, 22) :: (false, 23) :: (true, 24) :: (true, 25) :: (true, 26) :: (true, 28) :: (true, 29) :: (false, 27) :: (false, 30) :: (false, 31) :: (true, 32) :: (true, 33) :: (true, 34) :: (true, 36) :: (false, 35) :: (false, 37) :: (false, 38) :: (true, 39) :: (true, 40) :: (true, 41) :: (true, 43) :: (false, 42) :: (false, 44) :: (true, 45) :: (true, 46) :: (true, 50) :: (false, 47) :: (false, 48) :: (false, 49) :: (true, 51) :: (true, 52) :: (true, 53) :: []) = true := by kernel_rfl
set_option maxRecDepth 100000 in
set_option maxHeartbeats 2000000 in
theorem fpIs_high {w : World} {x y : Nat} (hx : x < 256 ^ 16) (hy : y < 256 ^ 16) (hl : lowAll [x, y] = false) :
    Calls Tryd.prog 7 #[.agg (fpC x), .agg (fpC y)] w fun e w' => e = .returned (.bool true) ∧ Below w.heap.size w w' := by
  go_enter Tryd.func7, Tryd.ntmps7
  go_upto_region 1 with (fail)
  have hB : Below w.heap.size w ((w.alloc (.cells (fpC x) 22)).alloc (.cells (fpC y) 22)) := nb_alloc (nb_alloc (Below.refl _ _) _) _
  have F0 : ((w.alloc (.cells (fpC x) 22)).alloc (.cells (fpC y) 22)).heap[w.heap.size]? = some (.cells (fpC x) 22 (0, 0)) := hp2_0 (w := w) (.cells (fpC x) 22) (.cells (fpC y) 22)
  have F1 : ((w.alloc (.cells (fpC x) 22)).alloc (.cells (fpC y) 22)).heap[w.heap.size + 1]? = some (.cells (fpC y) 22 (0, 0)) := hp2_1 (w := w) (.cells (fpC x) 22) (.cells (fpC y) 22)
  obtain ⟨W0, hW⟩ : ∃ W0 : World, W0 = ((w.alloc (.cells (fpC x) 22)).alloc (.cells (fpC y) 22)) := ⟨_, rfl⟩
  rw [← hW] at hB F0 F1 ⊢
  clear hW
  refine wp_seq_at (opsAt Tryd.f7 1) ((true, 0) :: (true, 1) :: (false, 2) :: (false, 3) :: (true, 4) :: []) (by kernel_rfl) (by kernel_rfl) ?_
  have hS1 : Below W0.heap.size W0 W0 := Below.refl _ _
  refine k_row (by kernel_rfl) (d := (some 7)) (by kernel_rfl) (ty := 22) (x := (.tmp 2)) (by kernel_rfl) (b := w.heap.size) (by kernel_rfl) (cs := (fpC x)) (fun w' hs => ⟨_, nb_heap F0 w' hs⟩) Tryd.underlying22 rfl (by kernel_rfl) ?_
  refine k_row (by kernel_rfl) (d := (some 8)) (by kernel_rfl) (ty := 22) (x := (.tmp 3)) (by kernel_rfl) (b := w.heap.size + 1) (by kernel_rfl) (cs := (fpC y)) (fun w' hs => ⟨_, nb_heap F1 w' hs⟩) Tryd.underlying22 rfl (by kernel_rfl) ?_
  refine k_make (by kernel_rfl) (d := (some 9)) (by kernel_rfl) (v := .slice (some ⟨W0.heap.size, 0, none⟩) 2 2) (w' := W0.alloc (.cells (fps [x, y]) 22)) (by kernel_rfl) (nb_alloc hS1 _) ?_
  intro w2 hw2 hM2
  refine k_call (by kernel_rfl) (d := (some 10)) (by kernel_rfl) (f := 17) (args := #[.slice (some ⟨W0.heap.size, 0, none⟩) 2 2]) (v := .bool false) (fun _ => by kernel_rfl) (hl ▸ low_c (hw2 ▸ Fps.new _ [x, y] _ _ _ rfl rfl) (all2 hx hy) (by show 2 < 1000; decide)) (fun w3 hb3 => ⟨nb_trans hM2 hb3, ?_⟩)
  have hS3 := nb_trans hM2 hb3
  refine k_pure (by kernel_rfl) (d := (some 11)) (by kernel_rfl) (v := .bool true) (fun _ => by kernel_rfl) ?_
  refine k_end ?_
  have hB1 := nb_trans hB hS3
  have F0_1 := nb_heap F0 _ hS3
  have F1_1 := nb_heap F1 _ hS3
  go_wp2_with fail
  exact bodyPost_ret_by (by kernel_rfl) (by kernel_rfl) ⟨rfl, hB1⟩

set_option maxRecDepth 100000 in
set_option maxHeartbeats 2000000 in
theorem fpIs_low {w : World} {x y X Y s1 s2 s3 s4 s5 : Nat} (hm : ModW w) (hx : x < 256 ^ 16) (hy : y < 256 ^ 16) (hl : lowAll [x, y] = true) (l1 : LowB s1) (l2 : LowB s2) (l3 : LowB s3) (l4 : LowB s4) (l5 : LowB s5) (lX : LowB X)
    (O1 : ∀ {w : World}, Calls Tryd.prog 14 #[.agg (fpC x)] w fun e w' => e = .returned (.agg (dgA (digs 8 X))) ∧ Below w.heap.size w w')
    (O2 : ∀ {w : World}, Calls Tryd.prog 14 #[.agg (fpC y)] w fun e w' => e = .returned (.agg (dgA (digs 8 Y))) ∧ Below w.heap.size w w')
    (A1 : ∀ {w : World}, ModW w → Calls Tryd.prog 20 #[.agg (fpC x), .agg (fpC y)] w fun e w' => e = .returned (.agg (fpC s1)) ∧ Below w.heap.size w w')
    (A2 : ∀ {w : World}, Calls Tryd.prog 28 #[.agg (dgA (digs 8 X)), .agg (dgA (digs 8 Y))] w fun e w' => e = .returned (.agg (dgA (digs 8 s1))) ∧ Below w.heap.size w w')
    (B1 : ∀ {w : World}, ModW w → Calls Tryd.prog 29 #[.agg (fpC x), .agg (fpC y)] w fun e w' => e = .returned (.agg (fpC s2)) ∧ Below w.heap.size w w')
    (B2 : ∀ {w : World}, Calls Tryd.prog 30 #[.agg (dgA (digs 8 X)), .agg (dgA (digs 8 Y))] w fun e w' => e = .returned (.agg (dgA (digs 8 s2))) ∧ Below w.heap.size w w')
    (M1 : ∀ {w : World}, ModW w → Calls Tryd.prog 21 #[.agg (fpC x), .agg (fpC y)] w fun e w' => e = .returned (.agg (fpC s3)) ∧ Below w.heap.size w w')
    (M2 : ∀ {w : World}, Calls Tryd.prog 31 #[.agg (dgA (digs 8 X)), .agg (dgA (digs 8 Y))] w fun e w' => e = .returned (.agg (dgA (digs 8 s3))) ∧ Below w.heap.size w w')
    (Q1 : ∀ {w : World}, ModW w → Calls Tryd.prog 32 #[.agg (fpC x)] w fun e w' => e = .returned (.agg (fpC s4)) ∧ Below w.heap.size w w')
    (Q2 : ∀ {w : World}, Calls Tryd.prog 31 #[.agg (dgA (digs 8 X)), .agg (dgA (digs 8 X))] w fun e w' => e = .returned (.agg (dgA (digs 8 s4))) ∧ Below w.heap.size w w')
    (N1 : ∀ {w : World}, ModW w → Calls Tryd.prog 19 #[.agg (fpC x)] w fun e w' => e = .returned (.agg (fpC s5)) ∧ Below w.heap.size w w')
    (N2 : ∀ {w : World}, Calls Tryd.prog 33 #[.agg (dgA (digs 8 X))] w fun e w' => e = .returned (.agg (dgA (digs 8 s5))) ∧ Below w.heap.size w w')
    (R1 : ∀ {w : World}, ModW w → Calls Tryd.prog 34 #[.agg (fpC x)] w fun e w' => e = .returned (.agg (fpC X)) ∧ Below w.heap.size w w') :
    Calls Tryd.prog 7 #[.agg (fpC x), .agg (fpC y)] w fun e w' => e = .returned (.bool true) ∧ Below w.heap.size w w' := by
  go_enter Tryd.func7, Tryd.ntmps7
  go_upto_region 1 with (fail)
  have hB : Below w.heap.size w ((w.alloc (.cells (fpC x) 22)).alloc (.cells (fpC y) 22)) := nb_alloc (nb_alloc (Below.refl _ _) _) _
  have F0 : ((w.alloc (.cells (fpC x) 22)).alloc (.cells (fpC y) 22)).heap[w.heap.size]? = some (.cells (fpC x) 22 (0, 0)) := hp2_0 (w := w) (.cells (fpC x) 22) (.cells (fpC y) 22)
  have F1 : ((w.alloc (.cells (fpC x) 22)).alloc (.cells (fpC y) 22)).heap[w.heap.size + 1]? = some (.cells (fpC y) 22 (0, 0)) := hp2_1 (w := w) (.cells (fpC x) 22) (.cells (fpC y) 22)
  obtain ⟨W0, hW⟩ : ∃ W0 : World, W0 = ((w.alloc (.cells (fpC x) 22)).alloc (.cells (fpC y) 22)) := ⟨_, rfl⟩
  rw [← hW] at hB F0 F1 ⊢
  clear hW
  refine wp_seq_at (opsAt Tryd.f7 1) ((true, 0) :: (true, 1) :: (false, 2) :: (false, 3) :: (true, 4) :: []) (by kernel_rfl) (by kernel_rfl) ?_
  have hS1 : Below W0.heap.size W0 W0 := Below.refl _ _
  refine k_row (by kernel_rfl) (d := (some 7)) (by kernel_rfl) (ty := 22) (x := (.tmp 2)) (by kernel_rfl) (b := w.heap.size) (by kernel_rfl) (cs := (fpC x)) (fun w' hs => ⟨_, nb_heap F0 w' hs⟩) Tryd.underlying22 rfl (by kernel_rfl) ?_
  refine k_row (by kernel_rfl) (d := (some 8)) (by kernel_rfl) (ty := 22) (x := (.tmp 3)) (by kernel_rfl) (b := w.heap.size + 1) (by kernel_rfl) (cs := (fpC y)) (fun w' hs => ⟨_, nb_heap F1 w' hs⟩) Tryd.underlying22 rfl (by kernel_rfl) ?_
  refine k_make (by kernel_rfl) (d := (some 9)) (by kernel_rfl) (v := .slice (some ⟨W0.heap.size, 0, none⟩) 2 2) (w' := W0.alloc (.cells (fps [x, y]) 22)) (by kernel_rfl) (nb_alloc hS1 _) ?_
  intro w2 hw2 hM2
  refine k_call (by kernel_rfl) (d := (some 10)) (by kernel_rfl) (f := 17) (args := #[.slice (some ⟨W0.heap.size, 0, none⟩) 2 2]) (v := .bool true) (fun _ => by kernel_rfl) (hl ▸ low_c (hw2 ▸ Fps.new _ [x, y] _ _ _ rfl rfl) (all2 hx hy) (by show 2 < 1000; decide)) (fun w3 hb3 => ⟨nb_trans hM2 hb3, ?_⟩)
  have hS3 := nb_trans hM2 hb3
  refine k_pure (by kernel_rfl) (d := (some 11)) (by kernel_rfl) (v := .bool false) (fun _ => by kernel_rfl) ?_
  refine k_end ?_
  have hB1 := nb_trans hB hS3
  have F0_1 := nb_heap F0 _ hS3
  have F1_1 := nb_heap F1 _ hS3
  go_upto_region 3 with (fail)
  refine wp_meet (fun a' w' => ∃ p5 p6 : Nat, a' = { tmps := #[.agg (fpC x), .agg (fpC y), .pointer (some ⟨w.heap.size, 0, none⟩), .pointer (some ⟨w.heap.size + 1, 0, none⟩), .bool false, .pointer (some ⟨p5, 0, none⟩), .pointer (some ⟨p6, 0, none⟩), .agg (fpC x), .agg (fpC y), .slice (some ⟨W0.heap.size, 0, none⟩) 2 2, .bool true, .bool false, .agg (fpC x), .agg (dgA (digs 8 X)), .agg (fpC y), .agg (dgA (digs 8 Y)), undef, undef, undef, undef, undef, undef, undef, undef, undef, undef, undef, undef, undef, undef, undef, undef, undef, undef, undef, undef, undef, undef, undef, undef, undef, undef, undef, undef, undef, undef, undef, undef, undef, undef, undef, undef, undef, undef, undef, undef, undef, undef, undef, undef, undef, undef, undef, undef, undef, undef, undef, undef, undef], defers := [] } ∧ w'.heap[p5]? = some (.cells (dgA (digs 8 X)) 26 (0, 0)) ∧ w'.heap[p6]? = some (.cells (dgA (digs 8 Y)) 26 (0, 0)) ∧ Below w3.heap.size w3 w') ?_ ?_
  · refine wp_tree_at (opsAt Tryd.f7 3) (.take 0 (.take 2 (.fork 1 (.fork 3 (.fork 4 (.fork 5 (.fork 6 (.fork 7 .done .nil) .nil) .nil) (.fork 5 (.fork 4 (.fork 6 (.fork 7 .done .nil) .nil) .nil) .nil)) (.fork 4 (.fork 3 (.fork 5 (.fork 6 (.fork 7 .done .nil) .nil) .nil) (.fork 5 (.fork 3 (.fork 6 (.fork 7 .done .nil) .nil) .nil) .nil)) (.fork 5 (.fork 3 (.fork 4 (.fork 6 (.fork 7 .done .nil) .nil) .nil) (.fork 4 (.fork 3 (.fork 6 (.fork 7 .done .nil) .nil) .nil) .nil)) .nil))) (.fork 4 (.fork 1 (.fork 3 (.fork 5 (.fork 6 (.fork 7 .done .nil) .nil) .nil) (.fork 5 (.fork 3 (.fork 6 (.fork 7 .done .nil) .nil) .nil) .nil)) (.fork 5 (.fork 1 (.fork 3 (.fork 6 (.fork 7 .done .nil) .nil) .nil) .nil) .nil)) (.fork 5 (.fork 1 (.fork 3 (.fork 4 (.fork 6 (.fork 7 .done .nil) .nil) .nil) (.fork 4 (.fork 3 (.fork 6 (.fork 7 .done .nil) .nil) .nil) .nil)) (.fork 4 (.fork 1 (.fork 3 (.fork 6 (.fork 7 .done .nil) .nil) .nil) .nil) .nil)) .nil))))) (fun w' => Below w3.heap.size w3 w') (by kernel_rfl) rfl (by kernel_rfl) (by intro c a d v w h; exact absurd h.1 (by simp)) (by kernel_rfl) (by kernel_rfl) ((Below.refl _ _).drew) ?_
    have hS4 : Below w3.heap.size w3 w3.drew := (Below.refl _ _).drew
    refine t_row (by kernel_rfl) (d := (some 12)) (by kernel_rfl) (ty := 22) (x := (.tmp 2)) (by kernel_rfl) (b := w.heap.size) (by kernel_rfl) (cs := (fpC x)) (fun w' hs => ⟨_, nb_heap F0_1 w' hs⟩) Tryd.underlying22 rfl (by kernel_rfl) ?_
    refine t_row (by kernel_rfl) (d := (some 14)) (by kernel_rfl) (ty := 22) (x := (.tmp 3)) (by kernel_rfl) (b := w.heap.size + 1) (by kernel_rfl) (cs := (fpC y)) (fun w' hs => ⟨_, nb_heap F1_1 w' hs⟩) Tryd.underlying22 rfl (by kernel_rfl) ?_
    refine t_call (by kernel_rfl) (d := (some 13)) (by kernel_rfl) (f := 14) (args := #[.agg (fpC x)]) (v := .agg (dgA (digs 8 X))) (fun _ => by kernel_rfl) (O1) (fun w5 hb5 => ⟨nb_trans hS4 hb5, ?_⟩) ?_
    · have hS5 := nb_trans hS4 hb5
      refine t_call (by kernel_rfl) (d := (some 15)) (by kernel_rfl) (f := 14) (args := #[.agg (fpC y)]) (v := .agg (dgA (digs 8 Y))) (fun _ => by kernel_rfl) (O2) (fun w6 hb6 => ⟨nb_trans hS5 hb6, ?_⟩) ?_
      · have hS6 := nb_trans hS5 hb6
        refine t_make (by kernel_rfl) (d := (some 5)) (by kernel_rfl) (v := .pointer (some ⟨w6.heap.size, 0, none⟩)) (w' := w6.alloc (.cells (dgA (digs 8 0)) 26)) (by kernel_rfl) (nb_alloc hS6 _) ?_ ?_
        · intro w7 hw7 hS7
          have G5_7 : w7.heap[w6.heap.size]? = some (.cells (dgA (digs 8 0)) 26 (0, 0)) := hw7 ▸ heap_alloc_new _ _
          refine t_make (by kernel_rfl) (d := (some 6)) (by kernel_rfl) (v := .pointer (some ⟨w7.heap.size, 0, none⟩)) (w' := w7.alloc (.cells (dgA (digs 8 0)) 26)) (by kernel_rfl) (nb_alloc hS7 _) ?_ ?_
          · intro w8 hw8 hS8
            have N5_6_8 := lt_of_heap G5_7
            have G5_8 : w8.heap[w6.heap.size]? = some (.cells (dgA (digs 8 0)) 26 (0, 0)) := hw8 ▸ hp_alloc G5_7 _
            have G6_8 : w8.heap[w7.heap.size]? = some (.cells (dgA (digs 8 0)) 26 (0, 0)) := hw8 ▸ heap_alloc_new _ _
            refine t_store (by kernel_rfl) (d := none) (by kernel_rfl) (ty := 26) (x := (.tmp 5)) (y := (.tmp 13)) (by kernel_rfl) (g := w6.heap.size) (cells := (dgA (digs 8 X))) (by kernel_rfl) (by kernel_rfl) G5_8 (by kernel_rfl) (by kernel_rfl) (all_dgA _) (below_setRow hS8 (sizeNb hS6)) ?_ ?_
            · intro w9 hw9 hS9
              have G5_9 : w9.heap[w6.heap.size]? = some (.cells (dgA (digs 8 X)) 26 (0, 0)) := hw9 ▸ setRow_heap _ _ _ _ _ _ G5_8
              have G6_9 : w9.heap[w7.heap.size]? = some (.cells (dgA (digs 8 0)) 26 (0, 0)) := hw9 ▸ (setRow_other _ _ _ _ (by omega)).trans G6_8
              refine t_store (by kernel_rfl) (d := none) (by kernel_rfl) (ty := 26) (x := (.tmp 6)) (y := (.tmp 15)) (by kernel_rfl) (g := w7.heap.size) (cells := (dgA (digs 8 Y))) (by kernel_rfl) (by kernel_rfl) G6_9 (by kernel_rfl) (by kernel_rfl) (all_dgA _) (below_setRow hS9 (sizeNb hS7)) ?_ ?_
              · intro w10 hw10 hS10
                have G5_10 : w10.heap[w6.heap.size]? = some (.cells (dgA (digs 8 X)) 26 (0, 0)) := hw10 ▸ (setRow_other _ _ _ _ (by omega)).trans G5_9
                have G6_10 : w10.heap[w7.heap.size]? = some (.cells (dgA (digs 8 Y)) 26 (0, 0)) := hw10 ▸ setRow_heap _ _ _ _ _ _ G6_9
                exact t_done ⟨rfl, w6.heap.size, w7.heap.size, by kernel_rfl, G5_10, G6_10, hS10⟩
              · -- another
                exact t_nil
            · -- another
              exact t_nil
          · -- another
            exact t_nil
        · -- another
          refine t_make (by kernel_rfl) (d := (some 6)) (by kernel_rfl) (v := .pointer (some ⟨w6.heap.size, 0, none⟩)) (w' := w6.alloc (.cells (dgA (digs 8 0)) 26)) (by kernel_rfl) (nb_alloc hS6 _) ?_ ?_
          · intro w11 hw11 hS11
            have G6_11 : w11.heap[w6.heap.size]? = some (.cells (dgA (digs 8 0)) 26 (0, 0)) := hw11 ▸ heap_alloc_new _ _
            refine t_make (by kernel_rfl) (d := (some 5)) (by kernel_rfl) (v := .pointer (some ⟨w11.heap.size, 0, none⟩)) (w' := w11.alloc (.cells (dgA (digs 8 0)) 26)) (by kernel_rfl) (nb_alloc hS11 _) ?_ ?_
            · intro w12 hw12 hS12
              have N6_5_12 := lt_of_heap G6_11
              have G6_12 : w12.heap[w6.heap.size]? = some (.cells (dgA (digs 8 0)) 26 (0, 0)) := hw12 ▸ hp_alloc G6_11 _
              have G5_12 : w12.heap[w11.heap.size]? = some (.cells (dgA (digs 8 0)) 26 (0, 0)) := hw12 ▸ heap_alloc_new _ _
              refine t_store (by kernel_rfl) (d := none) (by kernel_rfl) (ty := 26) (x := (.tmp 5)) (y := (.tmp 13)) (by kernel_rfl) (g := w11.heap.size) (cells := (dgA (digs 8 X))) (by kernel_rfl) (by kernel_rfl) G5_12 (by kernel_rfl) (by kernel_rfl) (all_dgA _) (below_setRow hS12 (sizeNb hS11)) ?_ ?_
              · intro w13 hw13 hS13
                have G6_13 : w13.heap[w6.heap.size]? = some (.cells (dgA (digs 8 0)) 26 (0, 0)) := hw13 ▸ (setRow_other _ _ _ _ (by omega)).trans G6_12
                have G5_13 : w13.heap[w11.heap.size]? = some (.cells (dgA (digs 8 X)) 26 (0, 0)) := hw13 ▸ setRow_heap _ _ _ _ _ _ G5_12
                refine t_store (by kernel_rfl) (d := none) (by kernel_rfl) (ty := 26) (x := (.tmp 6)) (y := (.tmp 15)) (by kernel_rfl) (g := w6.heap.size) (cells := (dgA (digs 8 Y))) (by kernel_rfl) (by kernel_rfl) G6_13 (by kernel_rfl) (by kernel_rfl) (all_dgA _) (below_setRow hS13 (sizeNb hS6)) ?_ ?_
                · intro w14 hw14 hS14
                  have G6_14 : w14.heap[w6.heap.size]? = some (.cells (dgA (digs 8 Y)) 26 (0, 0)) := hw14 ▸ setRow_heap _ _ _ _ _ _ G6_13
                  have G5_14 : w14.heap[w11.heap.size]? = some (.cells (dgA (digs 8 X)) 26 (0, 0)) := hw14 ▸ (setRow_other _ _ _ _ (by omega)).trans G5_13
                  exact t_done ⟨rfl, w11.heap.size, w6.heap.size, by kernel_rfl, G5_14, G6_14, hS14⟩
                · -- another
                  exact t_nil
              · -- another
                exact t_nil
            · -- another
              exact t_nil
          · -- another
            exact t_nil
      · -- another
        refine t_make (by kernel_rfl) (d := (some 5)) (by kernel_rfl) (v := .pointer (some ⟨w5.heap.size, 0, none⟩)) (w' := w5.alloc (.cells (dgA (digs 8 0)) 26)) (by kernel_rfl) (nb_alloc hS5 _) ?_ ?_
        · intro w15 hw15 hS15
          have G5_15 : w15.heap[w5.heap.size]? = some (.cells (dgA (digs 8 0)) 26 (0, 0)) := hw15 ▸ heap_alloc_new _ _
          refine t_call (by kernel_rfl) (d := (some 15)) (by kernel_rfl) (f := 14) (args := #[.agg (fpC y)]) (v := .agg (dgA (digs 8 Y))) (fun _ => by kernel_rfl) (O2) (fun w16 hb16 => ⟨nb_trans hS15 hb16, ?_⟩) ?_
          · have hS16 := nb_trans hS15 hb16
            have G5_16 := nb_heap G5_15 _ hb16
            refine t_make (by kernel_rfl) (d := (some 6)) (by kernel_rfl) (v := .pointer (some ⟨w16.heap.size, 0, none⟩)) (w' := w16.alloc (.cells (dgA (digs 8 0)) 26)) (by kernel_rfl) (nb_alloc hS16 _) ?_ ?_
            · intro w17 hw17 hS17
              have N5_6_17 := lt_of_heap G5_16
              have G5_17 : w17.heap[w5.heap.size]? = some (.cells (dgA (digs 8 0)) 26 (0, 0)) := hw17 ▸ hp_alloc G5_16 _
              have G6_17 : w17.heap[w16.heap.size]? = some (.cells (dgA (digs 8 0)) 26 (0, 0)) := hw17 ▸ heap_alloc_new _ _
              refine t_store (by kernel_rfl) (d := none) (by kernel_rfl) (ty := 26) (x := (.tmp 5)) (y := (.tmp 13)) (by kernel_rfl) (g := w5.heap.size) (cells := (dgA (digs 8 X))) (by kernel_rfl) (by kernel_rfl) G5_17 (by kernel_rfl) (by kernel_rfl) (all_dgA _) (below_setRow hS17 (sizeNb hS5)) ?_ ?_
              · intro w18 hw18 hS18
                have G5_18 : w18.heap[w5.heap.size]? = some (.cells (dgA (digs 8 X)) 26 (0, 0)) := hw18 ▸ setRow_heap _ _ _ _ _ _ G5_17
                have G6_18 : w18.heap[w16.heap.size]? = some (.cells (dgA (digs 8 0)) 26 (0, 0)) := hw18 ▸ (setRow_other _ _ _ _ (by omega)).trans G6_17
                refine t_store (by kernel_rfl) (d := none) (by kernel_rfl) (ty := 26) (x := (.tmp 6)) (y := (.tmp 15)) (by kernel_rfl) (g := w16.heap.size) (cells := (dgA (digs 8 Y))) (by kernel_rfl) (by kernel_rfl) G6_18 (by kernel_rfl) (by kernel_rfl) (all_dgA _) (below_setRow hS18 (sizeNb hS16)) ?_ ?_
                · intro w19 hw19 hS19
                  have G5_19 : w19.heap[w5.heap.size]? = some (.cells (dgA (digs 8 X)) 26 (0, 0)) := hw19 ▸ (setRow_other _ _ _ _ (by omega)).trans G5_18
                  have G6_19 : w19.heap[w16.heap.size]? = some (.cells (dgA (digs 8 Y)) 26 (0, 0)) := hw19 ▸ setRow_heap _ _ _ _ _ _ G6_18
                  exact t_done ⟨rfl, w5.heap.size, w16.heap.size, by kernel_rfl, G5_19, G6_19, hS19⟩
                · -- another
                  exact t_nil
              · -- another
                exact t_nil
            · -- another
              exact t_nil
          · -- another
            refine t_make (by kernel_rfl) (d := (some 6)) (by kernel_rfl) (v := .pointer (some ⟨w15.heap.size, 0, none⟩)) (w' := w15.alloc (.cells (dgA (digs 8 0)) 26)) (by kernel_rfl) (nb_alloc hS15 _) ?_ ?_
            · intro w20 hw20 hS20
              have N5_6_20 := lt_of_heap G5_15
              have G5_20 : w20.heap[w5.heap.size]? = some (.cells (dgA (digs 8 0)) 26 (0, 0)) := hw20 ▸ hp_alloc G5_15 _
              have G6_20 : w20.heap[w15.heap.size]? = some (.cells (dgA (digs 8 0)) 26 (0, 0)) := hw20 ▸ heap_alloc_new _ _
              refine t_call (by kernel_rfl) (d := (some 15)) (by kernel_rfl) (f := 14) (args := #[.agg (fpC y)]) (v := .agg (dgA (digs 8 Y))) (fun _ => by kernel_rfl) (O2) (fun w21 hb21 => ⟨nb_trans hS20 hb21, ?_⟩) ?_
              · have hS21 := nb_trans hS20 hb21
                have G5_21 := nb_heap G5_20 _ hb21
                have G6_21 := nb_heap G6_20 _ hb21
                refine t_store (by kernel_rfl) (d := none) (by kernel_rfl) (ty := 26) (x := (.tmp 5)) (y := (.tmp 13)) (by kernel_rfl) (g := w5.heap.size) (cells := (dgA (digs 8 X))) (by kernel_rfl) (by kernel_rfl) G5_21 (by kernel_rfl) (by kernel_rfl) (all_dgA _) (below_setRow hS21 (sizeNb hS5)) ?_ ?_
                · intro w22 hw22 hS22
                  have G5_22 : w22.heap[w5.heap.size]? = some (.cells (dgA (digs 8 X)) 26 (0, 0)) := hw22 ▸ setRow_heap _ _ _ _ _ _ G5_21
                  have G6_22 : w22.heap[w15.heap.size]? = some (.cells (dgA (digs 8 0)) 26 (0, 0)) := hw22 ▸ (setRow_other _ _ _ _ (by omega)).trans G6_21
                  refine t_store (by kernel_rfl) (d := none) (by kernel_rfl) (ty := 26) (x := (.tmp 6)) (y := (.tmp 15)) (by kernel_rfl) (g := w15.heap.size) (cells := (dgA (digs 8 Y))) (by kernel_rfl) (by kernel_rfl) G6_22 (by kernel_rfl) (by kernel_rfl) (all_dgA _) (below_setRow hS22 (sizeNb hS15)) ?_ ?_
                  · intro w23 hw23 hS23
                    have G5_23 : w23.heap[w5.heap.size]? = some (.cells (dgA (digs 8 X)) 26 (0, 0)) := hw23 ▸ (setRow_other _ _ _ _ (by omega)).trans G5_22
                    have G6_23 : w23.heap[w15.heap.size]? = some (.cells (dgA (digs 8 Y)) 26 (0, 0)) := hw23 ▸ setRow_heap _ _ _ _ _ _ G6_22
                    exact t_done ⟨rfl, w5.heap.size, w15.heap.size, by kernel_rfl, G5_23, G6_23, hS23⟩
                  · -- another
                    exact t_nil
                · -- another
                  exact t_nil
              · -- another
                exact t_nil
            · -- another
              exact t_nil
        · -- another
          refine t_make (by kernel_rfl) (d := (some 6)) (by kernel_rfl) (v := .pointer (some ⟨w5.heap.size, 0, none⟩)) (w' := w5.alloc (.cells (dgA (digs 8 0)) 26)) (by kernel_rfl) (nb_alloc hS5 _) ?_ ?_
          · intro w24 hw24 hS24
            have G6_24 : w24.heap[w5.heap.size]? = some (.cells (dgA (digs 8 0)) 26 (0, 0)) := hw24 ▸ heap_alloc_new _ _
            refine t_call (by kernel_rfl) (d := (some 15)) (by kernel_rfl) (f := 14) (args := #[.agg (fpC y)]) (v := .agg (dgA (digs 8 Y))) (fun _ => by kernel_rfl) (O2) (fun w25 hb25 => ⟨nb_trans hS24 hb25, ?_⟩) ?_
            · have hS25 := nb_trans hS24 hb25
              have G6_25 := nb_heap G6_24 _ hb25
              refine t_make (by kernel_rfl) (d := (some 5)) (by kernel_rfl) (v := .pointer (some ⟨w25.heap.size, 0, none⟩)) (w' := w25.alloc (.cells (dgA (digs 8 0)) 26)) (by kernel_rfl) (nb_alloc hS25 _) ?_ ?_
              · intro w26 hw26 hS26
                have N6_5_26 := lt_of_heap G6_25
                have G6_26 : w26.heap[w5.heap.size]? = some (.cells (dgA (digs 8 0)) 26 (0, 0)) := hw26 ▸ hp_alloc G6_25 _
                have G5_26 : w26.heap[w25.heap.size]? = some (.cells (dgA (digs 8 0)) 26 (0, 0)) := hw26 ▸ heap_alloc_new _ _
                refine t_store (by kernel_rfl) (d := none) (by kernel_rfl) (ty := 26) (x := (.tmp 5)) (y := (.tmp 13)) (by kernel_rfl) (g := w25.heap.size) (cells := (dgA (digs 8 X))) (by kernel_rfl) (by kernel_rfl) G5_26 (by kernel_rfl) (by kernel_rfl) (all_dgA _) (below_setRow hS26 (sizeNb hS25)) ?_ ?_
                · intro w27 hw27 hS27
                  have G6_27 : w27.heap[w5.heap.size]? = some (.cells (dgA (digs 8 0)) 26 (0, 0)) := hw27 ▸ (setRow_other _ _ _ _ (by omega)).trans G6_26
                  have G5_27 : w27.heap[w25.heap.size]? = some (.cells (dgA (digs 8 X)) 26 (0, 0)) := hw27 ▸ setRow_heap _ _ _ _ _ _ G5_26
                  refine t_store (by kernel_rfl) (d := none) (by kernel_rfl) (ty := 26) (x := (.tmp 6)) (y := (.tmp 15)) (by kernel_rfl) (g := w5.heap.size) (cells := (dgA (digs 8 Y))) (by kernel_rfl) (by kernel_rfl) G6_27 (by kernel_rfl) (by kernel_rfl) (all_dgA _) (below_setRow hS27 (sizeNb hS5)) ?_ ?_
                  · intro w28 hw28 hS28
                    have G6_28 : w28.heap[w5.heap.size]? = some (.cells (dgA (digs 8 Y)) 26 (0, 0)) := hw28 ▸ setRow_heap _ _ _ _ _ _ G6_27
                    have G5_28 : w28.heap[w25.heap.size]? = some (.cells (dgA (digs 8 X)) 26 (0, 0)) := hw28 ▸ (setRow_other _ _ _ _ (by omega)).trans G5_27
                    exact t_done ⟨rfl, w25.heap.size, w5.heap.size, by kernel_rfl, G5_28, G6_28, hS28⟩
                  · -- another
                    exact t_nil
                · -- another
                  exact t_nil
              · -- another
                exact t_nil
            · -- another
              refine t_make (by kernel_rfl) (d := (some 5)) (by kernel_rfl) (v := .pointer (some ⟨w24.heap.size, 0, none⟩)) (w' := w24.alloc (.cells (dgA (digs 8 0)) 26)) (by kernel_rfl) (nb_alloc hS24 _) ?_ ?_
              · intro w29 hw29 hS29
                have N6_5_29 := lt_of_heap G6_24
                have G6_29 : w29.heap[w5.heap.size]? = some (.cells (dgA (digs 8 0)) 26 (0, 0)) := hw29 ▸ hp_alloc G6_24 _
                have G5_29 : w29.heap[w24.heap.size]? = some (.cells (dgA (digs 8 0)) 26 (0, 0)) := hw29 ▸ heap_alloc_new _ _
                refine t_call (by kernel_rfl) (d := (some 15)) (by kernel_rfl) (f := 14) (args := #[.agg (fpC y)]) (v := .agg (dgA (digs 8 Y))) (fun _ => by kernel_rfl) (O2) (fun w30 hb30 => ⟨nb_trans hS29 hb30, ?_⟩) ?_
                · have hS30 := nb_trans hS29 hb30
                  have G6_30 := nb_heap G6_29 _ hb30
                  have G5_30 := nb_heap G5_29 _ hb30
                  refine t_store (by kernel_rfl) (d := none) (by kernel_rfl) (ty := 26) (x := (.tmp 5)) (y := (.tmp 13)) (by kernel_rfl) (g := w24.heap.size) (cells := (dgA (digs 8 X))) (by kernel_rfl) (by kernel_rfl) G5_30 (by kernel_rfl) (by kernel_rfl) (all_dgA _) (below_setRow hS30 (sizeNb hS24)) ?_ ?_
                  · intro w31 hw31 hS31
                    have G6_31 : w31.heap[w5.heap.size]? = some (.cells (dgA (digs 8 0)) 26 (0, 0)) := hw31 ▸ (setRow_other _ _ _ _ (by omega)).trans G6_30
                    have G5_31 : w31.heap[w24.heap.size]? = some (.cells (dgA (digs 8 X)) 26 (0, 0)) := hw31 ▸ setRow_heap _ _ _ _ _ _ G5_30
                    refine t_store (by kernel_rfl) (d := none) (by kernel_rfl) (ty := 26) (x := (.tmp 6)) (y := (.tmp 15)) (by kernel_rfl) (g := w5.heap.size) (cells := (dgA (digs 8 Y))) (by kernel_rfl) (by kernel_rfl) G6_31 (by kernel_rfl) (by kernel_rfl) (all_dgA _) (below_setRow hS31 (sizeNb hS5)) ?_ ?_
                    · intro w32 hw32 hS32
                      have G6_32 : w32.heap[w5.heap.size]? = some (.cells (dgA (digs 8 Y)) 26 (0, 0)) := hw32 ▸ setRow_heap _ _ _ _ _ _ G6_31
                      have G5_32 : w32.heap[w24.heap.size]? = some (.cells (dgA (digs 8 X)) 26 (0, 0)) := hw32 ▸ (setRow_other _ _ _ _ (by omega)).trans G5_31
                      exact t_done ⟨rfl, w24.heap.size, w5.heap.size, by kernel_rfl, G5_32, G6_32, hS32⟩
                    · -- another
                      exact t_nil
                  · -- another
                    exact t_nil
                · -- another
                  exact t_nil
              · -- another
                exact t_nil
          · -- another
            exact t_nil
    · -- another
      refine t_make (by kernel_rfl) (d := (some 5)) (by kernel_rfl) (v := .pointer (some ⟨w3.drew.heap.size, 0, none⟩)) (w' := w3.drew.alloc (.cells (dgA (digs 8 0)) 26)) (by kernel_rfl) (nb_alloc hS4 _) ?_ ?_
      · intro w33 hw33 hS33
        have G5_33 : w33.heap[w3.drew.heap.size]? = some (.cells (dgA (digs 8 0)) 26 (0, 0)) := hw33 ▸ heap_alloc_new _ _
        refine t_call (by kernel_rfl) (d := (some 13)) (by kernel_rfl) (f := 14) (args := #[.agg (fpC x)]) (v := .agg (dgA (digs 8 X))) (fun _ => by kernel_rfl) (O1) (fun w34 hb34 => ⟨nb_trans hS33 hb34, ?_⟩) ?_
        · have hS34 := nb_trans hS33 hb34
          have G5_34 := nb_heap G5_33 _ hb34
          refine t_call (by kernel_rfl) (d := (some 15)) (by kernel_rfl) (f := 14) (args := #[.agg (fpC y)]) (v := .agg (dgA (digs 8 Y))) (fun _ => by kernel_rfl) (O2) (fun w35 hb35 => ⟨nb_trans hS34 hb35, ?_⟩) ?_
          · have hS35 := nb_trans hS34 hb35
            have G5_35 := nb_heap G5_34 _ hb35
            refine t_make (by kernel_rfl) (d := (some 6)) (by kernel_rfl) (v := .pointer (some ⟨w35.heap.size, 0, none⟩)) (w' := w35.alloc (.cells (dgA (digs 8 0)) 26)) (by kernel_rfl) (nb_alloc hS35 _) ?_ ?_
            · intro w36 hw36 hS36
              have N5_6_36 := lt_of_heap G5_35
              have G5_36 : w36.heap[w3.drew.heap.size]? = some (.cells (dgA (digs 8 0)) 26 (0, 0)) := hw36 ▸ hp_alloc G5_35 _
              have G6_36 : w36.heap[w35.heap.size]? = some (.cells (dgA (digs 8 0)) 26 (0, 0)) := hw36 ▸ heap_alloc_new _ _
              refine t_store (by kernel_rfl) (d := none) (by kernel_rfl) (ty := 26) (x := (.tmp 5)) (y := (.tmp 13)) (by kernel_rfl) (g := w3.drew.heap.size) (cells := (dgA (digs 8 X))) (by kernel_rfl) (by kernel_rfl) G5_36 (by kernel_rfl) (by kernel_rfl) (all_dgA _) (below_setRow hS36 (sizeNb hS4)) ?_ ?_
              · intro w37 hw37 hS37
                have G5_37 : w37.heap[w3.drew.heap.size]? = some (.cells (dgA (digs 8 X)) 26 (0, 0)) := hw37 ▸ setRow_heap _ _ _ _ _ _ G5_36
                have G6_37 : w37.heap[w35.heap.size]? = some (.cells (dgA (digs 8 0)) 26 (0, 0)) := hw37 ▸ (setRow_other _ _ _ _ (by omega)).trans G6_36
                refine t_store (by kernel_rfl) (d := none) (by kernel_rfl) (ty := 26) (x := (.tmp 6)) (y := (.tmp 15)) (by kernel_rfl) (g := w35.heap.size) (cells := (dgA (digs 8 Y))) (by kernel_rfl) (by kernel_rfl) G6_37 (by kernel_rfl) (by kernel_rfl) (all_dgA _) (below_setRow hS37 (sizeNb hS35)) ?_ ?_
                · intro w38 hw38 hS38
                  have G5_38 : w38.heap[w3.drew.heap.size]? = some (.cells (dgA (digs 8 X)) 26 (0, 0)) := hw38 ▸ (setRow_other _ _ _ _ (by omega)).trans G5_37
                  have G6_38 : w38.heap[w35.heap.size]? = some (.cells (dgA (digs 8 Y)) 26 (0, 0)) := hw38 ▸ setRow_heap _ _ _ _ _ _ G6_37
                  exact t_done ⟨rfl, w3.drew.heap.size, w35.heap.size, by kernel_rfl, G5_38, G6_38, hS38⟩
                · -- another
                  exact t_nil
              · -- another
                exact t_nil
            · -- another
              exact t_nil
          · -- another
            refine t_make (by kernel_rfl) (d := (some 6)) (by kernel_rfl) (v := .pointer (some ⟨w34.heap.size, 0, none⟩)) (w' := w34.alloc (.cells (dgA (digs 8 0)) 26)) (by kernel_rfl) (nb_alloc hS34 _) ?_ ?_
            · intro w39 hw39 hS39
              have N5_6_39 := lt_of_heap G5_34
              have G5_39 : w39.heap[w3.drew.heap.size]? = some (.cells (dgA (digs 8 0)) 26 (0, 0)) := hw39 ▸ hp_alloc G5_34 _
              have G6_39 : w39.heap[w34.heap.size]? = some (.cells (dgA (digs 8 0)) 26 (0, 0)) := hw39 ▸ heap_alloc_new _ _
              refine t_call (by kernel_rfl) (d := (some 15)) (by kernel_rfl) (f := 14) (args := #[.agg (fpC y)]) (v := .agg (dgA (digs 8 Y))) (fun _ => by kernel_rfl) (O2) (fun w40 hb40 => ⟨nb_trans hS39 hb40, ?_⟩) ?_
              · have hS40 := nb_trans hS39 hb40
                have G5_40 := nb_heap G5_39 _ hb40
                have G6_40 := nb_heap G6_39 _ hb40
                refine t_store (by kernel_rfl) (d := none) (by kernel_rfl) (ty := 26) (x := (.tmp 5)) (y := (.tmp 13)) (by kernel_rfl) (g := w3.drew.heap.size) (cells := (dgA (digs 8 X))) (by kernel_rfl) (by kernel_rfl) G5_40 (by kernel_rfl) (by kernel_rfl) (all_dgA _) (below_setRow hS40 (sizeNb hS4)) ?_ ?_
                · intro w41 hw41 hS41
                  have G5_41 : w41.heap[w3.drew.heap.size]? = some (.cells (dgA (digs 8 X)) 26 (0, 0)) := hw41 ▸ setRow_heap _ _ _ _ _ _ G5_40
                  have G6_41 : w41.heap[w34.heap.size]? = some (.cells (dgA (digs 8 0)) 26 (0, 0)) := hw41 ▸ (setRow_other _ _ _ _ (by omega)).trans G6_40
                  refine t_store (by kernel_rfl) (d := none) (by kernel_rfl) (ty := 26) (x := (.tmp 6)) (y := (.tmp 15)) (by kernel_rfl) (g := w34.heap.size) (cells := (dgA (digs 8 Y))) (by kernel_rfl) (by kernel_rfl) G6_41 (by kernel_rfl) (by kernel_rfl) (all_dgA _) (below_setRow hS41 (sizeNb hS34)) ?_ ?_
                  · intro w42 hw42 hS42
                    have G5_42 : w42.heap[w3.drew.heap.size]? = some (.cells (dgA (digs 8 X)) 26 (0, 0)) := hw42 ▸ (setRow_other _ _ _ _ (by omega)).trans G5_41
                    have G6_42 : w42.heap[w34.heap.size]? = some (.cells (dgA (digs 8 Y)) 26 (0, 0)) := hw42 ▸ setRow_heap _ _ _ _ _ _ G6_41
                    exact t_done ⟨rfl, w3.drew.heap.size, w34.heap.size, by kernel_rfl, G5_42, G6_42, hS42⟩
                  · -- another
                    exact t_nil
                · -- another
                  exact t_nil
              · -- another
                exact t_nil
            · -- another
              exact t_nil
        · -- another
          refine t_make (by kernel_rfl) (d := (some 6)) (by kernel_rfl) (v := .pointer (some ⟨w33.heap.size, 0, none⟩)) (w' := w33.alloc (.cells (dgA (digs 8 0)) 26)) (by kernel_rfl) (nb_alloc hS33 _) ?_ ?_
          · intro w43 hw43 hS43
            have N5_6_43 := lt_of_heap G5_33
            have G5_43 : w43.heap[w3.drew.heap.size]? = some (.cells (dgA (digs 8 0)) 26 (0, 0)) := hw43 ▸ hp_alloc G5_33 _
            have G6_43 : w43.heap[w33.heap.size]? = some (.cells (dgA (digs 8 0)) 26 (0, 0)) := hw43 ▸ heap_alloc_new _ _
            refine t_call (by kernel_rfl) (d := (some 13)) (by kernel_rfl) (f := 14) (args := #[.agg (fpC x)]) (v := .agg (dgA (digs 8 X))) (fun _ => by kernel_rfl) (O1) (fun w44 hb44 => ⟨nb_trans hS43 hb44, ?_⟩) ?_
            · have hS44 := nb_trans hS43 hb44
              have G5_44 := nb_heap G5_43 _ hb44
              have G6_44 := nb_heap G6_43 _ hb44
              refine t_call (by kernel_rfl) (d := (some 15)) (by kernel_rfl) (f := 14) (args := #[.agg (fpC y)]) (v := .agg (dgA (digs 8 Y))) (fun _ => by kernel_rfl) (O2) (fun w45 hb45 => ⟨nb_trans hS44 hb45, ?_⟩) ?_
              · have hS45 := nb_trans hS44 hb45
                have G5_45 := nb_heap G5_44 _ hb45
                have G6_45 := nb_heap G6_44 _ hb45
                refine t_store (by kernel_rfl) (d := none) (by kernel_rfl) (ty := 26) (x := (.tmp 5)) (y := (.tmp 13)) (by kernel_rfl) (g := w3.drew.heap.size) (cells := (dgA (digs 8 X))) (by kernel_rfl) (by kernel_rfl) G5_45 (by kernel_rfl) (by kernel_rfl) (all_dgA _) (below_setRow hS45 (sizeNb hS4)) ?_ ?_
                · intro w46 hw46 hS46
                  have G5_46 : w46.heap[w3.drew.heap.size]? = some (.cells (dgA (digs 8 X)) 26 (0, 0)) := hw46 ▸ setRow_heap _ _ _ _ _ _ G5_45
                  have G6_46 : w46.heap[w33.heap.size]? = some (.cells (dgA (digs 8 0)) 26 (0, 0)) := hw46 ▸ (setRow_other _ _ _ _ (by omega)).trans G6_45
                  refine t_store (by kernel_rfl) (d := none) (by kernel_rfl) (ty := 26) (x := (.tmp 6)) (y := (.tmp 15)) (by kernel_rfl) (g := w33.heap.size) (cells := (dgA (digs 8 Y))) (by kernel_rfl) (by kernel_rfl) G6_46 (by kernel_rfl) (by kernel_rfl) (all_dgA _) (below_setRow hS46 (sizeNb hS33)) ?_ ?_
                  · intro w47 hw47 hS47
                    have G5_47 : w47.heap[w3.drew.heap.size]? = some (.cells (dgA (digs 8 X)) 26 (0, 0)) := hw47 ▸ (setRow_other _ _ _ _ (by omega)).trans G5_46
                    have G6_47 : w47.heap[w33.heap.size]? = some (.cells (dgA (digs 8 Y)) 26 (0, 0)) := hw47 ▸ setRow_heap _ _ _ _ _ _ G6_46
                    exact t_done ⟨rfl, w3.drew.heap.size, w33.heap.size, by kernel_rfl, G5_47, G6_47, hS47⟩
                  · -- another
                    exact t_nil
                · -- another
                  exact t_nil
              · -- another
                exact t_nil
            · -- another
              exact t_nil
          · -- another
            exact t_nil
      · -- another
        refine t_make (by kernel_rfl) (d := (some 6)) (by kernel_rfl) (v := .pointer (some ⟨w3.drew.heap.size, 0, none⟩)) (w' := w3.drew.alloc (.cells (dgA (digs 8 0)) 26)) (by kernel_rfl) (nb_alloc hS4 _) ?_ ?_
        · intro w48 hw48 hS48
          have G6_48 : w48.heap[w3.drew.heap.size]? = some (.cells (dgA (digs 8 0)) 26 (0, 0)) := hw48 ▸ heap_alloc_new _ _
          refine t_call (by kernel_rfl) (d := (some 13)) (by kernel_rfl) (f := 14) (args := #[.agg (fpC x)]) (v := .agg (dgA (digs 8 X))) (fun _ => by kernel_rfl) (O1) (fun w49 hb49 => ⟨nb_trans hS48 hb49, ?_⟩) ?_
          · have hS49 := nb_trans hS48 hb49
            have G6_49 := nb_heap G6_48 _ hb49
            refine t_call (by kernel_rfl) (d := (some 15)) (by kernel_rfl) (f := 14) (args := #[.agg (fpC y)]) (v := .agg (dgA (digs 8 Y))) (fun _ => by kernel_rfl) (O2) (fun w50 hb50 => ⟨nb_trans hS49 hb50, ?_⟩) ?_
            · have hS50 := nb_trans hS49 hb50
              have G6_50 := nb_heap G6_49 _ hb50
              refine t_make (by kernel_rfl) (d := (some 5)) (by kernel_rfl) (v := .pointer (some ⟨w50.heap.size, 0, none⟩)) (w' := w50.alloc (.cells (dgA (digs 8 0)) 26)) (by kernel_rfl) (nb_alloc hS50 _) ?_ ?_
              · intro w51 hw51 hS51
                have N6_5_51 := lt_of_heap G6_50
                have G6_51 : w51.heap[w3.drew.heap.size]? = some (.cells (dgA (digs 8 0)) 26 (0, 0)) := hw51 ▸ hp_alloc G6_50 _
                have G5_51 : w51.heap[w50.heap.size]? = some (.cells (dgA (digs 8 0)) 26 (0, 0)) := hw51 ▸ heap_alloc_new _ _
                refine t_store (by kernel_rfl) (d := none) (by kernel_rfl) (ty := 26) (x := (.tmp 5)) (y := (.tmp 13)) (by kernel_rfl) (g := w50.heap.size) (cells := (dgA (digs 8 X))) (by kernel_rfl) (by kernel_rfl) G5_51 (by kernel_rfl) (by kernel_rfl) (all_dgA _) (below_setRow hS51 (sizeNb hS50)) ?_ ?_
                · intro w52 hw52 hS52
                  have G6_52 : w52.heap[w3.drew.heap.size]? = some (.cells (dgA (digs 8 0)) 26 (0, 0)) := hw52 ▸ (setRow_other _ _ _ _ (by omega)).trans G6_51
                  have G5_52 : w52.heap[w50.heap.size]? = some (.cells (dgA (digs 8 X)) 26 (0, 0)) := hw52 ▸ setRow_heap _ _ _ _ _ _ G5_51
                  refine t_store (by kernel_rfl) (d := none) (by kernel_rfl) (ty := 26) (x := (.tmp 6)) (y := (.tmp 15)) (by kernel_rfl) (g := w3.drew.heap.size) (cells := (dgA (digs 8 Y))) (by kernel_rfl) (by kernel_rfl) G6_52 (by kernel_rfl) (by kernel_rfl) (all_dgA _) (below_setRow hS52 (sizeNb hS4)) ?_ ?_
                  · intro w53 hw53 hS53
                    have G6_53 : w53.heap[w3.drew.heap.size]? = some (.cells (dgA (digs 8 Y)) 26 (0, 0)) := hw53 ▸ setRow_heap _ _ _ _ _ _ G6_52
                    have G5_53 : w53.heap[w50.heap.size]? = some (.cells (dgA (digs 8 X)) 26 (0, 0)) := hw53 ▸ (setRow_other _ _ _ _ (by omega)).trans G5_52
                    exact t_done ⟨rfl, w50.heap.size, w3.drew.heap.size, by kernel_rfl, G5_53, G6_53, hS53⟩
                  · -- another
                    exact t_nil
                · -- another
                  exact t_nil
              · -- another
                exact t_nil
            · -- another
              refine t_make (by kernel_rfl) (d := (some 5)) (by kernel_rfl) (v := .pointer (some ⟨w49.heap.size, 0, none⟩)) (w' := w49.alloc (.cells (dgA (digs 8 0)) 26)) (by kernel_rfl) (nb_alloc hS49 _) ?_ ?_
              · intro w54 hw54 hS54
                have N6_5_54 := lt_of_heap G6_49
                have G6_54 : w54.heap[w3.drew.heap.size]? = some (.cells (dgA (digs 8 0)) 26 (0, 0)) := hw54 ▸ hp_alloc G6_49 _
                have G5_54 : w54.heap[w49.heap.size]? = some (.cells (dgA (digs 8 0)) 26 (0, 0)) := hw54 ▸ heap_alloc_new _ _
                refine t_call (by kernel_rfl) (d := (some 15)) (by kernel_rfl) (f := 14) (args := #[.agg (fpC y)]) (v := .agg (dgA (digs 8 Y))) (fun _ => by kernel_rfl) (O2) (fun w55 hb55 => ⟨nb_trans hS54 hb55, ?_⟩) ?_
                · have hS55 := nb_trans hS54 hb55
                  have G6_55 := nb_heap G6_54 _ hb55
                  have G5_55 := nb_heap G5_54 _ hb55
                  refine t_store (by kernel_rfl) (d := none) (by kernel_rfl) (ty := 26) (x := (.tmp 5)) (y := (.tmp 13)) (by kernel_rfl) (g := w49.heap.size) (cells := (dgA (digs 8 X))) (by kernel_rfl) (by kernel_rfl) G5_55 (by kernel_rfl) (by kernel_rfl) (all_dgA _) (below_setRow hS55 (sizeNb hS49)) ?_ ?_
                  · intro w56 hw56 hS56
                    have G6_56 : w56.heap[w3.drew.heap.size]? = some (.cells (dgA (digs 8 0)) 26 (0, 0)) := hw56 ▸ (setRow_other _ _ _ _ (by omega)).trans G6_55
                    have G5_56 : w56.heap[w49.heap.size]? = some (.cells (dgA (digs 8 X)) 26 (0, 0)) := hw56 ▸ setRow_heap _ _ _ _ _ _ G5_55
                    refine t_store (by kernel_rfl) (d := none) (by kernel_rfl) (ty := 26) (x := (.tmp 6)) (y := (.tmp 15)) (by kernel_rfl) (g := w3.drew.heap.size) (cells := (dgA (digs 8 Y))) (by kernel_rfl) (by kernel_rfl) G6_56 (by kernel_rfl) (by kernel_rfl) (all_dgA _) (below_setRow hS56 (sizeNb hS4)) ?_ ?_
                    · intro w57 hw57 hS57
                      have G6_57 : w57.heap[w3.drew.heap.size]? = some (.cells (dgA (digs 8 Y)) 26 (0, 0)) := hw57 ▸ setRow_heap _ _ _ _ _ _ G6_56
                      have G5_57 : w57.heap[w49.heap.size]? = some (.cells (dgA (digs 8 X)) 26 (0, 0)) := hw57 ▸ (setRow_other _ _ _ _ (by omega)).trans G5_56
                      exact t_done ⟨rfl, w49.heap.size, w3.drew.heap.size, by kernel_rfl, G5_57, G6_57, hS57⟩
                    · -- another
                      exact t_nil
                  · -- another
                    exact t_nil
                · -- another
                  exact t_nil
              · -- another
                exact t_nil
          · -- another
            refine t_make (by kernel_rfl) (d := (some 5)) (by kernel_rfl) (v := .pointer (some ⟨w48.heap.size, 0, none⟩)) (w' := w48.alloc (.cells (dgA (digs 8 0)) 26)) (by kernel_rfl) (nb_alloc hS48 _) ?_ ?_
            · intro w58 hw58 hS58
              have N6_5_58 := lt_of_heap G6_48
              have G6_58 : w58.heap[w3.drew.heap.size]? = some (.cells (dgA (digs 8 0)) 26 (0, 0)) := hw58 ▸ hp_alloc G6_48 _
              have G5_58 : w58.heap[w48.heap.size]? = some (.cells (dgA (digs 8 0)) 26 (0, 0)) := hw58 ▸ heap_alloc_new _ _
              refine t_call (by kernel_rfl) (d := (some 13)) (by kernel_rfl) (f := 14) (args := #[.agg (fpC x)]) (v := .agg (dgA (digs 8 X))) (fun _ => by kernel_rfl) (O1) (fun w59 hb59 => ⟨nb_trans hS58 hb59, ?_⟩) ?_
              · have hS59 := nb_trans hS58 hb59
                have G6_59 := nb_heap G6_58 _ hb59
                have G5_59 := nb_heap G5_58 _ hb59
                refine t_call (by kernel_rfl) (d := (some 15)) (by kernel_rfl) (f := 14) (args := #[.agg (fpC y)]) (v := .agg (dgA (digs 8 Y))) (fun _ => by kernel_rfl) (O2) (fun w60 hb60 => ⟨nb_trans hS59 hb60, ?_⟩) ?_
                · have hS60 := nb_trans hS59 hb60
                  have G6_60 := nb_heap G6_59 _ hb60
                  have G5_60 := nb_heap G5_59 _ hb60
                  refine t_store (by kernel_rfl) (d := none) (by kernel_rfl) (ty := 26) (x := (.tmp 5)) (y := (.tmp 13)) (by kernel_rfl) (g := w48.heap.size) (cells := (dgA (digs 8 X))) (by kernel_rfl) (by kernel_rfl) G5_60 (by kernel_rfl) (by kernel_rfl) (all_dgA _) (below_setRow hS60 (sizeNb hS48)) ?_ ?_
                  · intro w61 hw61 hS61
                    have G6_61 : w61.heap[w3.drew.heap.size]? = some (.cells (dgA (digs 8 0)) 26 (0, 0)) := hw61 ▸ (setRow_other _ _ _ _ (by omega)).trans G6_60
                    have G5_61 : w61.heap[w48.heap.size]? = some (.cells (dgA (digs 8 X)) 26 (0, 0)) := hw61 ▸ setRow_heap _ _ _ _ _ _ G5_60
                    refine t_store (by kernel_rfl) (d := none) (by kernel_rfl) (ty := 26) (x := (.tmp 6)) (y := (.tmp 15)) (by kernel_rfl) (g := w3.drew.heap.size) (cells := (dgA (digs 8 Y))) (by kernel_rfl) (by kernel_rfl) G6_61 (by kernel_rfl) (by kernel_rfl) (all_dgA _) (below_setRow hS61 (sizeNb hS4)) ?_ ?_
                    · intro w62 hw62 hS62
                      have G6_62 : w62.heap[w3.drew.heap.size]? = some (.cells (dgA (digs 8 Y)) 26 (0, 0)) := hw62 ▸ setRow_heap _ _ _ _ _ _ G6_61
                      have G5_62 : w62.heap[w48.heap.size]? = some (.cells (dgA (digs 8 X)) 26 (0, 0)) := hw62 ▸ (setRow_other _ _ _ _ (by omega)).trans G5_61
                      exact t_done ⟨rfl, w48.heap.size, w3.drew.heap.size, by kernel_rfl, G5_62, G6_62, hS62⟩
                    · -- another
                      exact t_nil
                  · -- another
                    exact t_nil
                · -- another
                  exact t_nil
              · -- another
                exact t_nil
            · -- another
              exact t_nil
        · -- another
          exact t_nil
  · rintro _ W63 ⟨p5, p6, rfl, P5_63, P6_63, hS63⟩
    have hB_63 := nb_trans hB1 hS63
    have F0_63 := nb_heap F0_1 _ hS63
    have F1_63 := nb_heap F1_1 _ hS63
    go_upto_region 4 with (fail)
    refine wp_region_at (opsAt Tryd.f7 4) ((true, 0) :: (true, 1) :: (true, 3) :: (true, 4) :: (false, 2) :: (false, 5) :: (false, 6) :: (true, 7) :: (true, 8) :: (true, 9) :: (true, 11) :: (true, 12) :: (false, 10) :: (false, 13) :: (false, 14) :: (true, 15) :: (true, 16) :: (true, 17) :: (true, 18) :: (true, 20) :: (true, 21) :: (false, 19) :: (false, 22) :: (false, 23) :: (true, 24) :: (true, 25) :: (true, 26) :: (true, 28) :: (true, 29) :: (false, 27) :: (false, 30) :: (false, 31) :: (true, 32) :: (true, 33) :: (true, 34) :: (true, 36) :: (false, 35) :: (false, 37) :: (false, 38) :: (true, 39) :: (true, 40) :: (true, 41) :: (true, 43) :: (false, 42) :: (false, 44) :: (true, 45) :: (true, 46) :: (true, 50) :: (false, 47) :: (false, 48) :: (false, 49) :: (true, 51) :: (true, 52) :: (true, 53) :: []) (by kernel_rfl) rfl (by kernel_rfl) (fun _ _ d _ _ h => by cases d <;> exact h) (by kernel_rfl) fpIs_plan_4 ?_
    have hS64 : Below W63.heap.size W63 W63.drew := (Below.refl _ _).drew
    refine k_row (by kernel_rfl) (d := (some 16)) (by kernel_rfl) (ty := 22) (x := (.tmp 2)) (by kernel_rfl) (b := w.heap.size) (by kernel_rfl) (cs := (fpC x)) (fun w' hs => ⟨_, nb_heap F0_63 w' hs⟩) Tryd.underlying22 rfl (by kernel_rfl) ?_
    refine k_row (by kernel_rfl) (d := (some 17)) (by kernel_rfl) (ty := 22) (x := (.tmp 3)) (by kernel_rfl) (b := w.heap.size + 1) (by kernel_rfl) (cs := (fpC y)) (fun w' hs => ⟨_, nb_heap F1_63 w' hs⟩) Tryd.underlying22 rfl (by kernel_rfl) ?_
    refine k_row (by kernel_rfl) (d := (some 19)) (by kernel_rfl) (ty := 26) (x := (.tmp 5)) (by kernel_rfl) (b := p5) (by kernel_rfl) (cs := (dgA (digs 8 X))) (fun w' hs => ⟨_, nb_heap P5_63 w' hs⟩) Tryd.underlying26 rfl (by kernel_rfl) ?_
    refine k_row (by kernel_rfl) (d := (some 20)) (by kernel_rfl) (ty := 26) (x := (.tmp 6)) (by kernel_rfl) (b := p6) (by kernel_rfl) (cs := (dgA (digs 8 Y))) (fun w' hs => ⟨_, nb_heap P6_63 w' hs⟩) Tryd.underlying26 rfl (by kernel_rfl) ?_
    refine k_call (by kernel_rfl) (d := (some 18)) (by kernel_rfl) (f := 20) (args := #[.agg (fpC x), .agg (fpC y)]) (v := .agg (fpC s1)) (fun _ => by kernel_rfl) (A1 (hm.nb (nb_trans hB_63 hS64))) (fun w65 hb65 => ⟨nb_trans hS64 hb65, ?_⟩)
    have hS65 := nb_trans hS64 hb65
    refine k_call (by kernel_rfl) (d := (some 21)) (by kernel_rfl) (f := 28) (args := #[.agg (dgA (digs 8 X)), .agg (dgA (digs 8 Y))]) (v := .agg (dgA (digs 8 s1))) (fun _ => by kernel_rfl) (A2) (fun w66 hb66 => ⟨nb_trans hS65 hb66, ?_⟩)
    have hS66 := nb_trans hS65 hb66
    refine k_call (by kernel_rfl) (d := (some 22)) (by kernel_rfl) (f := 13) (args := #[.agg (fpC s1), .agg (dgA (digs 8 s1))]) (v := .bool true) (fun _ => by kernel_rfl) (is_true rfl l1) (fun w67 hb67 => ⟨nb_trans hS66 hb67, ?_⟩)
    have hS67 := nb_trans hS66 hb67
    refine k_pure (by kernel_rfl) (d := (some 23)) (by kernel_rfl) (v := .bool true) (fun _ => by kernel_rfl) ?_
    refine k_row (by kernel_rfl) (d := (some 24)) (by kernel_rfl) (ty := 22) (x := (.tmp 2)) (by kernel_rfl) (b := w.heap.size) (by kernel_rfl) (cs := (fpC x)) (fun w' hs => ⟨_, nb_heap F0_63 w' hs⟩) Tryd.underlying22 rfl (by kernel_rfl) ?_
    refine k_row (by kernel_rfl) (d := (some 25)) (by kernel_rfl) (ty := 22) (x := (.tmp 3)) (by kernel_rfl) (b := w.heap.size + 1) (by kernel_rfl) (cs := (fpC y)) (fun w' hs => ⟨_, nb_heap F1_63 w' hs⟩) Tryd.underlying22 rfl (by kernel_rfl) ?_
    refine k_row (by kernel_rfl) (d := (some 27)) (by kernel_rfl) (ty := 26) (x := (.tmp 5)) (by kernel_rfl) (b := p5) (by kernel_rfl) (cs := (dgA (digs 8 X))) (fun w' hs => ⟨_, nb_heap P5_63 w' hs⟩) Tryd.underlying26 rfl (by kernel_rfl) ?_
    refine k_row (by kernel_rfl) (d := (some 28)) (by kernel_rfl) (ty := 26) (x := (.tmp 6)) (by kernel_rfl) (b := p6) (by kernel_rfl) (cs := (dgA (digs 8 Y))) (fun w' hs => ⟨_, nb_heap P6_63 w' hs⟩) Tryd.underlying26 rfl (by kernel_rfl) ?_
    refine k_call (by kernel_rfl) (d := (some 26)) (by kernel_rfl) (f := 29) (args := #[.agg (fpC x), .agg (fpC y)]) (v := .agg (fpC s2)) (fun _ => by kernel_rfl) (B1 (hm.nb (nb_trans hB_63 hS67))) (fun w68 hb68 => ⟨nb_trans hS67 hb68, ?_⟩)
    have hS68 := nb_trans hS67 hb68
    refine k_call (by kernel_rfl) (d := (some 29)) (by kernel_rfl) (f := 30) (args := #[.agg (dgA (digs 8 X)), .agg (dgA (digs 8 Y))]) (v := .agg (dgA (digs 8 s2))) (fun _ => by kernel_rfl) (B2) (fun w69 hb69 => ⟨nb_trans hS68 hb69, ?_⟩)
    have hS69 := nb_trans hS68 hb69
    refine k_call (by kernel_rfl) (d := (some 30)) (by kernel_rfl) (f := 13) (args := #[.agg (fpC s2), .agg (dgA (digs 8 s2))]) (v := .bool true) (fun _ => by kernel_rfl) (is_true rfl l2) (fun w70 hb70 => ⟨nb_trans hS69 hb70, ?_⟩)
    have hS70 := nb_trans hS69 hb70
    refine k_pure (by kernel_rfl) (d := (some 31)) (by kernel_rfl) (v := .bool true) (fun _ => by kernel_rfl) ?_
    refine k_pure (by kernel_rfl) (d := (some 32)) (by kernel_rfl) (v := .bool true) (fun _ => by kernel_rfl) ?_
    refine k_row (by kernel_rfl) (d := (some 33)) (by kernel_rfl) (ty := 22) (x := (.tmp 2)) (by kernel_rfl) (b := w.heap.size) (by kernel_rfl) (cs := (fpC x)) (fun w' hs => ⟨_, nb_heap F0_63 w' hs⟩) Tryd.underlying22 rfl (by kernel_rfl) ?_
    refine k_row (by kernel_rfl) (d := (some 34)) (by kernel_rfl) (ty := 22) (x := (.tmp 3)) (by kernel_rfl) (b := w.heap.size + 1) (by kernel_rfl) (cs := (fpC y)) (fun w' hs => ⟨_, nb_heap F1_63 w' hs⟩) Tryd.underlying22 rfl (by kernel_rfl) ?_
    refine k_row (by kernel_rfl) (d := (some 36)) (by kernel_rfl) (ty := 26) (x := (.tmp 5)) (by kernel_rfl) (b := p5) (by kernel_rfl) (cs := (dgA (digs 8 X))) (fun w' hs => ⟨_, nb_heap P5_63 w' hs⟩) Tryd.underlying26 rfl (by kernel_rfl) ?_
    refine k_row (by kernel_rfl) (d := (some 37)) (by kernel_rfl) (ty := 26) (x := (.tmp 6)) (by kernel_rfl) (b := p6) (by kernel_rfl) (cs := (dgA (digs 8 Y))) (fun w' hs => ⟨_, nb_heap P6_63 w' hs⟩) Tryd.underlying26 rfl (by kernel_rfl) ?_
    refine k_call (by kernel_rfl) (d := (some 35)) (by kernel_rfl) (f := 21) (args := #[.agg (fpC x), .agg (fpC y)]) (v := .agg (fpC s3)) (fun _ => by kernel_rfl) (M1 (hm.nb (nb_trans hB_63 hS70))) (fun w71 hb71 => ⟨nb_trans hS70 hb71, ?_⟩)
    have hS71 := nb_trans hS70 hb71
    refine k_call (by kernel_rfl) (d := (some 38)) (by kernel_rfl) (f := 31) (args := #[.agg (dgA (digs 8 X)), .agg (dgA (digs 8 Y))]) (v := .agg (dgA (digs 8 s3))) (fun _ => by kernel_rfl) (M2) (fun w72 hb72 => ⟨nb_trans hS71 hb72, ?_⟩)
    have hS72 := nb_trans hS71 hb72
    refine k_call (by kernel_rfl) (d := (some 39)) (by kernel_rfl) (f := 13) (args := #[.agg (fpC s3), .agg (dgA (digs 8 s3))]) (v := .bool true) (fun _ => by kernel_rfl) (is_true rfl l3) (fun w73 hb73 => ⟨nb_trans hS72 hb73, ?_⟩)
    have hS73 := nb_trans hS72 hb73
    refine k_pure (by kernel_rfl) (d := (some 40)) (by kernel_rfl) (v := .bool true) (fun _ => by kernel_rfl) ?_
    refine k_pure (by kernel_rfl) (d := (some 41)) (by kernel_rfl) (v := .bool true) (fun _ => by kernel_rfl) ?_
    refine k_row (by kernel_rfl) (d := (some 42)) (by kernel_rfl) (ty := 22) (x := (.tmp 2)) (by kernel_rfl) (b := w.heap.size) (by kernel_rfl) (cs := (fpC x)) (fun w' hs => ⟨_, nb_heap F0_63 w' hs⟩) Tryd.underlying22 rfl (by kernel_rfl) ?_
    refine k_row (by kernel_rfl) (d := (some 44)) (by kernel_rfl) (ty := 26) (x := (.tmp 5)) (by kernel_rfl) (b := p5) (by kernel_rfl) (cs := (dgA (digs 8 X))) (fun w' hs => ⟨_, nb_heap P5_63 w' hs⟩) Tryd.underlying26 rfl (by kernel_rfl) ?_
    refine k_row (by kernel_rfl) (d := (some 45)) (by kernel_rfl) (ty := 26) (x := (.tmp 5)) (by kernel_rfl) (b := p5) (by kernel_rfl) (cs := (dgA (digs 8 X))) (fun w' hs => ⟨_, nb_heap P5_63 w' hs⟩) Tryd.underlying26 rfl (by kernel_rfl) ?_
    refine k_call (by kernel_rfl) (d := (some 43)) (by kernel_rfl) (f := 32) (args := #[.agg (fpC x)]) (v := .agg (fpC s4)) (fun _ => by kernel_rfl) (Q1 (hm.nb (nb_trans hB_63 hS73))) (fun w74 hb74 => ⟨nb_trans hS73 hb74, ?_⟩)
    have hS74 := nb_trans hS73 hb74
    refine k_call (by kernel_rfl) (d := (some 46)) (by kernel_rfl) (f := 31) (args := #[.agg (dgA (digs 8 X)), .agg (dgA (digs 8 X))]) (v := .agg (dgA (digs 8 s4))) (fun _ => by kernel_rfl) (Q2) (fun w75 hb75 => ⟨nb_trans hS74 hb75, ?_⟩)
    have hS75 := nb_trans hS74 hb75
    refine k_call (by kernel_rfl) (d := (some 47)) (by kernel_rfl) (f := 13) (args := #[.agg (fpC s4), .agg (dgA (digs 8 s4))]) (v := .bool true) (fun _ => by kernel_rfl) (is_true rfl l4) (fun w76 hb76 => ⟨nb_trans hS75 hb76, ?_⟩)
    have hS76 := nb_trans hS75 hb76
    refine k_pure (by kernel_rfl) (d := (some 48)) (by kernel_rfl) (v := .bool true) (fun _ => by kernel_rfl) ?_
    refine k_pure (by kernel_rfl) (d := (some 49)) (by kernel_rfl) (v := .bool true) (fun _ => by kernel_rfl) ?_
    refine k_row (by kernel_rfl) (d := (some 50)) (by kernel_rfl) (ty := 22) (x := (.tmp 2)) (by kernel_rfl) (b := w.heap.size) (by kernel_rfl) (cs := (fpC x)) (fun w' hs => ⟨_, nb_heap F0_63 w' hs⟩) Tryd.underlying22 rfl (by kernel_rfl) ?_
    refine k_row (by kernel_rfl) (d := (some 52)) (by kernel_rfl) (ty := 26) (x := (.tmp 5)) (by kernel_rfl) (b := p5) (by kernel_rfl) (cs := (dgA (digs 8 X))) (fun w' hs => ⟨_, nb_heap P5_63 w' hs⟩) Tryd.underlying26 rfl (by kernel_rfl) ?_
    refine k_call (by kernel_rfl) (d := (some 51)) (by kernel_rfl) (f := 19) (args := #[.agg (fpC x)]) (v := .agg (fpC s5)) (fun _ => by kernel_rfl) (N1 (hm.nb (nb_trans hB_63 hS76))) (fun w77 hb77 => ⟨nb_trans hS76 hb77, ?_⟩)
    have hS77 := nb_trans hS76 hb77
    refine k_call (by kernel_rfl) (d := (some 53)) (by kernel_rfl) (f := 33) (args := #[.agg (dgA (digs 8 X))]) (v := .agg (dgA (digs 8 s5))) (fun _ => by kernel_rfl) (N2) (fun w78 hb78 => ⟨nb_trans hS77 hb78, ?_⟩)
    have hS78 := nb_trans hS77 hb78
    refine k_call (by kernel_rfl) (d := (some 54)) (by kernel_rfl) (f := 13) (args := #[.agg (fpC s5), .agg (dgA (digs 8 s5))]) (v := .bool true) (fun _ => by kernel_rfl) (is_true rfl l5) (fun w79 hb79 => ⟨nb_trans hS78 hb79, ?_⟩)
    have hS79 := nb_trans hS78 hb79
    refine k_pure (by kernel_rfl) (d := (some 55)) (by kernel_rfl) (v := .bool true) (fun _ => by kernel_rfl) ?_
    refine k_pure (by kernel_rfl) (d := (some 56)) (by kernel_rfl) (v := .bool true) (fun _ => by kernel_rfl) ?_
    refine k_row (by kernel_rfl) (d := (some 57)) (by kernel_rfl) (ty := 22) (x := (.tmp 2)) (by kernel_rfl) (b := w.heap.size) (by kernel_rfl) (cs := (fpC x)) (fun w' hs => ⟨_, nb_heap F0_63 w' hs⟩) Tryd.underlying22 rfl (by kernel_rfl) ?_
    refine k_row (by kernel_rfl) (d := (some 59)) (by kernel_rfl) (ty := 26) (x := (.tmp 5)) (by kernel_rfl) (b := p5) (by kernel_rfl) (cs := (dgA (digs 8 X))) (fun w' hs => ⟨_, nb_heap P5_63 w' hs⟩) Tryd.underlying26 rfl (by kernel_rfl) ?_
    refine k_call (by kernel_rfl) (d := (some 58)) (by kernel_rfl) (f := 34) (args := #[.agg (fpC x)]) (v := .agg (fpC X)) (fun _ => by kernel_rfl) (R1 (hm.nb (nb_trans hB_63 hS79))) (fun w80 hb80 => ⟨nb_trans hS79 hb80, ?_⟩)
    have hS80 := nb_trans hS79 hb80
    refine k_call (by kernel_rfl) (d := (some 60)) (by kernel_rfl) (f := 13) (args := #[.agg (fpC X), .agg (dgA (digs 8 X))]) (v := .bool true) (fun _ => by kernel_rfl) (is_true rfl lX) (fun w81 hb81 => ⟨nb_trans hS80 hb81, ?_⟩)
    have hS81 := nb_trans hS80 hb81
    refine k_pure (by kernel_rfl) (d := (some 61)) (by kernel_rfl) (v := .bool true) (fun _ => by kernel_rfl) ?_
    refine k_pure (by kernel_rfl) (d := (some 62)) (by kernel_rfl) (v := .bool true) (fun _ => by kernel_rfl) ?_
    refine k_pure (by kernel_rfl) (d := (some 66)) (by kernel_rfl) (v := .agg (fpC 2)) (fun _ => by kernel_rfl) ?_
    refine k_call (by kernel_rfl) (d := (some 63)) (by kernel_rfl) (f := 22) (args := #[]) (v := .agg (fpC 1)) (fun _ => by kernel_rfl) (unit_c) (fun w82 hb82 => ⟨nb_trans hS81 hb82, ?_⟩)
    have hS82 := nb_trans hS81 hb82
    refine k_call (by kernel_rfl) (d := (some 64)) (by kernel_rfl) (f := 22) (args := #[]) (v := .agg (fpC 1)) (fun _ => by kernel_rfl) (unit_c) (fun w83 hb83 => ⟨nb_trans hS82 hb83, ?_⟩)
    have hS83 := nb_trans hS82 hb83
    refine k_call (by kernel_rfl) (d := (some 65)) (by kernel_rfl) (f := 20) (args := #[.agg (fpC 1), .agg (fpC 1)]) (v := .agg (fpC 2)) (fun _ => by kernel_rfl) (implAdd (hm.nb (nb_trans hB_63 hS83)) low_one low_one two_eq) (fun w84 hb84 => ⟨nb_trans hS83 hb84, ?_⟩)
    have hS84 := nb_trans hS83 hb84
    refine k_eql (by kernel_rfl) (d := (some 67)) (by kernel_rfl) (ty := 22) (ty' := 22) (x := (.tmp 65)) (y := (.tmp 66)) (by kernel_rfl) (xs := (fpC 2)) (ys := (fpC 2)) (b := true) (by kernel_rfl) (by kernel_rfl) (by kernel_rfl) (fun w' => (eql_fpC Tryd.underlying22 (by kernel_rfl) Tryd.underlying5 (low16 low_two) (low16 low_two) w').trans (by rw [decide_eq_true rfl])) ?_
    refine k_pure (by kernel_rfl) (d := (some 68)) (by kernel_rfl) (v := .bool true) (fun _ => by kernel_rfl) ?_
    refine k_pure (by kernel_rfl) (d := (some 4)) (by kernel_rfl) (v := .bool true) (fun _ => by kernel_rfl) ?_
    refine k_end ?_
    have hB2 := nb_trans hB_63 hS84
    have F0_2 := nb_heap F0_63 _ hS84
    have F1_2 := nb_heap F1_63 _ hS84
    have Fp5_2 := nb_heap P5_63 _ hS84
    have Fp6_2 := nb_heap P6_63 _ hS84
    go_wp2_with fail
    exact bodyPost_ret_by (by kernel_rfl) (by kernel_rfl) ⟨rfl, hB2⟩


theorem fpIs_c {w : World} {x y : Nat} (hm : ModW w) (hx : x < 256 ^ 16) (hy : y < 256 ^ 16) :
    Calls Tryd.prog 7 #[.agg (fpC x), .agg (fpC y)] w fun e w' => e = .returned (.bool true) ∧ Below w.heap.size w w' := by
  cases hl : lowAll [x, y] with
  | false => exact fpIs_high hx hy hl
  | true =>
    have lx : LowB x := lowAll_iff.1 hl x (by simp)
    have ly : LowB y := lowAll_iff.1 hl y (by simp)
    have b8 : ∀ n : Nat, n % pp < 65536 ^ 8 := fun n => Nat.lt_trans (Nat.mod_lt _ (by decide +kernel)) (by decide +kernel)
    refine fpIs_low (X := x % pp) (Y := y % pp) (s1 := (x + y) % pp) (s2 := subN x y % pp) (s3 := x * y % pp) (s4 := x * x % pp) (s5 := subN pp x % pp) hm hx hy hl (low_mod' _) (low_mod' _) (low_mod' _) (low_mod' _) (low_mod' _) (low_mod' _)
      (of_c _ x hx) (of_c _ y hy) (fun h => implAdd h lx ly rfl) ?_ (fun h => implSub h lx ly rfl) ?_ (fun h => implMul h lx ly rfl) ?_ (fun h => implSqr h lx rfl) ?_ (fun h => implNeg h lx rfl) ?_ (fun h => implMod h lx rfl)
    · intro w; have := add_c w (b8 x) (b8 y); rwa [← Nat.add_mod] at this
    · intro w; have := sub_c w (b8 x) (b8 y); rwa [Nat.mod_mod, sub_is lx ly] at this
    · intro w; have := mul_c w (b8 x) (b8 y); rwa [← Nat.mul_mod] at this
    · intro w; have := mul_c w (b8 x) (b8 x); rwa [← Nat.mul_mod] at this
    · intro w; have := neg_c w (b8 x); rwa [Nat.mod_mod, neg_is lx] at this

end Go.Proofs.YtpogbljoohdehaaDoor
