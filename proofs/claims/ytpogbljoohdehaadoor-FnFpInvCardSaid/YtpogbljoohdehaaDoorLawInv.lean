/- FnFpInv: whatever element of 16 bytes: true. -/
import Derived.Test.YtpogbljoohdehaaDoorImpl
import Derived.Test.YtpogbljoohdehaaDoorLawPower
import Derived.Test.YtpogbljoohdehaaDoorLawKit3
import Derived.Test.YtpogbljoohdehaaDoorLawIs
namespace Go.Proofs.YtpogbljoohdehaaDoor
open Go.RowKit Go.FourQ

theorem inv_plan_4 : planOk .any (opsAt Tryd.f10 4) (Array.replicate (opsAt Tryd.f10 4).size false) ((true, 0) :: (true, 1) :: (true, 3) :: (false, 2) :: (false, 4) :: (true, 5) :: (true, 6) :: (true, 10) :: (false, 7) :: (false, 8) :: (false, 9) :: (true, 11) :: (true, 12) :: []) = true := by kernel_rfl
theorem inv_plan_6 : planOk .any (opsAt Tryd.f10 6) (Array.replicate (opsAt Tryd.f10 6).size false) ((true, 0) :: (true, 2) :: (false, 1) :: (true, 3) :: (true, 4) :: (true, 5) :: (true, 6) :: (false, 7) :: (false, 8) :: (false, 9) :: (true, 10) :: (true, 11) :: (true, 12) :: []) = true := by kernel_rfl
set_option maxRecDepth 100000 in
set_option maxHeartbeats 2000000 in
theorem invLaw_high {w : World} {x : Nat} (hx : x < 256 ^ 16) (hl : lowAll [x] = false) :
    Calls Tryd.prog 10 #[.agg (fpC x)] w fun e w' => e = .returned (.bool true) ∧ Below w.heap.size w w' := by
  go_enter Tryd.func10, Tryd.ntmps10
  go_upto_region 1 with (fail)
  have hB : Below w.heap.size w (w.alloc (.cells (fpC x) 22)) := nb_alloc (Below.refl _ _) _
  have F0 : (w.alloc (.cells (fpC x) 22)).heap[w.heap.size]? = some (.cells (fpC x) 22 (0, 0)) := hp1_0 (w := w) (.cells (fpC x) 22)
  obtain ⟨W0, hW⟩ : ∃ W0 : World, W0 = (w.alloc (.cells (fpC x) 22)) := ⟨_, rfl⟩
  rw [← hW] at hB F0 ⊢
  clear hW
  replace F0 := Lib.hid F0
  refine wp_seq_at (opsAt Tryd.f10 1) ((true, 0) :: (false, 1) :: (false, 2) :: (true, 3) :: []) (by kernel_rfl) (by kernel_rfl) ?_
  have hS1 : Below W0.heap.size W0 W0 := Below.refl _ _
  refine k_row (by kernel_rfl) (d := (some 4)) (by kernel_rfl) (ty := 22) (x := (.tmp 1)) (by kernel_rfl) (b := w.heap.size) (by kernel_rfl) (cs := (fpC x)) (fun w' hs => ⟨_, nb_heap F0.out w' hs⟩) Tryd.underlying22 rfl (by kernel_rfl) ?_
  refine k_make (by kernel_rfl) (d := (some 5)) (by kernel_rfl) (v := .slice (some ⟨W0.heap.size, 0, none⟩) 1 1) (w' := W0.alloc (.cells (fps [x]) 22)) (by kernel_rfl) (nb_alloc hS1 _) ?_
  intro w2 hw2 hM2
  refine k_call (by kernel_rfl) (d := (some 6)) (by kernel_rfl) (f := 17) (args := #[.slice (some ⟨W0.heap.size, 0, none⟩) 1 1]) (v := .bool false) (fun _ => by kernel_rfl) (hl ▸ low_c (hw2 ▸ Fps.new _ [x] _ _ _ rfl rfl) (all1 hx) (by show 1 < 1000; decide)) (fun w3 hb3 => ⟨nb_trans hM2 hb3, ?_⟩)
  have hS3 := nb_trans hM2 hb3
  refine k_pure (by kernel_rfl) (d := (some 7)) (by kernel_rfl) (v := .bool true) (fun _ => by kernel_rfl) ?_
  refine k_end ?_
  clear hw2
  go_simp
  have hB1 := nb_trans hB hS3
  have F0_1 := Lib.hid (nb_heap F0.out _ hS3)
  go_wp2_with fail
  exact bodyPost_ret_by (by kernel_rfl) (by kernel_rfl) ⟨rfl, hB1⟩

set_option maxRecDepth 100000 in
set_option maxHeartbeats 2000000 in
theorem invLaw_true {w : World} {x X r : Nat} (hm : ModW w) (hx : x < 256 ^ 16) (hl : lowAll [x] = true) (lX : LowB X)
    (H1 : ∀ {w : World}, ModW w → Calls Tryd.prog 45 #[.agg (fpC x)] w fun e w' => e = .returned (.agg (fpC r)) ∧ Below w.heap.size w w')
    (A1 : ∀ {w : World}, ModW w → Calls Tryd.prog 20 #[.agg (fpC r), .agg (fpC r)] w fun e w' => e = .returned (.agg (fpC X)) ∧ Below w.heap.size w w')
    (R1 : ∀ {w : World}, ModW w → Calls Tryd.prog 34 #[.agg (fpC x)] w fun e w' => e = .returned (.agg (fpC X)) ∧ Below w.heap.size w w')
    (O1 : ∀ {w : World}, Calls Tryd.prog 14 #[.agg (fpC x)] w fun e w' => e = .returned (.agg (dgA (digs 8 X))) ∧ Below w.heap.size w w')
    (E1 : ∀ w : World, (binOp .eql 26 (.agg (dgA (digs 8 X))) (.agg (dgA (digs 8 0)))).run Tryd.prog w = .ok (.bool true) w) :
    Calls Tryd.prog 10 #[.agg (fpC x)] w fun e w' => e = .returned (.bool true) ∧ Below w.heap.size w w' := by
  go_enter Tryd.func10, Tryd.ntmps10
  go_upto_region 1 with (fail)
  have hB : Below w.heap.size w (w.alloc (.cells (fpC x) 22)) := nb_alloc (Below.refl _ _) _
  have F0 : (w.alloc (.cells (fpC x) 22)).heap[w.heap.size]? = some (.cells (fpC x) 22 (0, 0)) := hp1_0 (w := w) (.cells (fpC x) 22)
  obtain ⟨W0, hW⟩ : ∃ W0 : World, W0 = (w.alloc (.cells (fpC x) 22)) := ⟨_, rfl⟩
  rw [← hW] at hB F0 ⊢
  clear hW
  replace F0 := Lib.hid F0
  refine wp_seq_at (opsAt Tryd.f10 1) ((true, 0) :: (false, 1) :: (false, 2) :: (true, 3) :: []) (by kernel_rfl) (by kernel_rfl) ?_
  have hS1 : Below W0.heap.size W0 W0 := Below.refl _ _
  refine k_row (by kernel_rfl) (d := (some 4)) (by kernel_rfl) (ty := 22) (x := (.tmp 1)) (by kernel_rfl) (b := w.heap.size) (by kernel_rfl) (cs := (fpC x)) (fun w' hs => ⟨_, nb_heap F0.out w' hs⟩) Tryd.underlying22 rfl (by kernel_rfl) ?_
  refine k_make (by kernel_rfl) (d := (some 5)) (by kernel_rfl) (v := .slice (some ⟨W0.heap.size, 0, none⟩) 1 1) (w' := W0.alloc (.cells (fps [x]) 22)) (by kernel_rfl) (nb_alloc hS1 _) ?_
  intro w2 hw2 hM2
  refine k_call (by kernel_rfl) (d := (some 6)) (by kernel_rfl) (f := 17) (args := #[.slice (some ⟨W0.heap.size, 0, none⟩) 1 1]) (v := .bool true) (fun _ => by kernel_rfl) (hl ▸ low_c (hw2 ▸ Fps.new _ [x] _ _ _ rfl rfl) (all1 hx) (by show 1 < 1000; decide)) (fun w3 hb3 => ⟨nb_trans hM2 hb3, ?_⟩)
  have hS3 := nb_trans hM2 hb3
  refine k_pure (by kernel_rfl) (d := (some 7)) (by kernel_rfl) (v := .bool false) (fun _ => by kernel_rfl) ?_
  refine k_end ?_
  clear hw2
  go_simp
  have hB1 := nb_trans hB hS3
  have F0_1 := Lib.hid (nb_heap F0.out _ hS3)
  go_upto_region 3 with (fail)
  refine wp_seq_at (opsAt Tryd.f10 3) ((true, 0) :: (false, 1) :: (false, 2) :: (false, 3) :: []) (by kernel_rfl) (by kernel_rfl) ?_
  have hS4 : Below w3.heap.size w3 w3 := Below.refl _ _
  refine k_row (by kernel_rfl) (d := (some 8)) (by kernel_rfl) (ty := 22) (x := (.tmp 1)) (by kernel_rfl) (b := w.heap.size) (by kernel_rfl) (cs := (fpC x)) (fun w' hs => ⟨_, nb_heap F0_1.out w' hs⟩) Tryd.underlying22 rfl (by kernel_rfl) ?_
  refine k_call (by kernel_rfl) (d := (some 9)) (by kernel_rfl) (f := 45) (args := #[.agg (fpC x)]) (v := .agg (fpC r)) (fun _ => by kernel_rfl) (H1 (hm.nb (nb_trans hB1 hS4))) (fun w5 hb5 => ⟨nb_trans hS4 hb5, ?_⟩)
  have hS5 := nb_trans hS4 hb5
  refine k_make (by kernel_rfl) (d := (some 3)) (by kernel_rfl) (v := .pointer (some ⟨w5.heap.size, 0, none⟩)) (w' := w5.alloc (.cells (fpC 0) 22)) (by kernel_rfl) (nb_alloc hS5 _) ?_
  intro w6 hw6 hS6
  have G3_6 : w6.heap[w5.heap.size]? = some (.cells (fpC 0) 22 (0, 0)) := hw6 ▸ heap_alloc_new _ _
  refine k_put (by kernel_rfl) (d := none) (by kernel_rfl) (ty := 22) (x := (.tmp 3)) (y := (.tmp 9)) (by kernel_rfl) (g := w5.heap.size) (cells := (fpC r)) (by kernel_rfl) (by kernel_rfl) G3_6 (by kernel_rfl) (by kernel_rfl) (all_fpC _) (below_setRow hS6 (sizeNb hS5)) ?_
  intro w7 hw7 hS7
  have G3_7 : w7.heap[w5.heap.size]? = some (.cells (fpC r) 22 (0, 0)) := hw7 ▸ setRow_heap _ _ _ _ _ _ G3_6
  refine k_end ?_
  clear hw6 hw7
  go_simp
  have hB2 := nb_trans hB1 hS7
  have F0_2 := Lib.hid (nb_heap F0_1.out _ hS7)
  have N3_2 := Lib.hid G3_7
  clear G3_7 G3_6
  go_upto_region 4 with (fail)
  refine wp_region_at (opsAt Tryd.f10 4) ((true, 0) :: (true, 1) :: (true, 3) :: (false, 2) :: (false, 4) :: (true, 5) :: (true, 6) :: (true, 10) :: (false, 7) :: (false, 8) :: (false, 9) :: (true, 11) :: (true, 12) :: []) (by kernel_rfl) rfl (by kernel_rfl) (fun _ _ d _ _ h => by cases d <;> exact h) (by kernel_rfl) inv_plan_4 ?_
  have hS8 : Below w7.heap.size w7 w7.drew := (Below.refl _ _).drew
  refine k_row (by kernel_rfl) (d := (some 10)) (by kernel_rfl) (ty := 22) (x := (.tmp 3)) (by kernel_rfl) (b := w5.heap.size) (by kernel_rfl) (cs := (fpC r)) (fun w' hs => ⟨_, nb_heap N3_2.out w' hs⟩) Tryd.underlying22 rfl (by kernel_rfl) ?_
  refine k_row (by kernel_rfl) (d := (some 11)) (by kernel_rfl) (ty := 22) (x := (.tmp 3)) (by kernel_rfl) (b := w5.heap.size) (by kernel_rfl) (cs := (fpC r)) (fun w' hs => ⟨_, nb_heap N3_2.out w' hs⟩) Tryd.underlying22 rfl (by kernel_rfl) ?_
  refine k_row (by kernel_rfl) (d := (some 13)) (by kernel_rfl) (ty := 22) (x := (.tmp 1)) (by kernel_rfl) (b := w.heap.size) (by kernel_rfl) (cs := (fpC x)) (fun w' hs => ⟨_, nb_heap F0_2.out w' hs⟩) Tryd.underlying22 rfl (by kernel_rfl) ?_
  refine k_call (by kernel_rfl) (d := (some 12)) (by kernel_rfl) (f := 20) (args := #[.agg (fpC r), .agg (fpC r)]) (v := .agg (fpC X)) (fun _ => by kernel_rfl) (A1 (hm.nb (nb_trans hB2 hS8))) (fun w9 hb9 => ⟨nb_trans hS8 hb9, ?_⟩)
  have hS9 := nb_trans hS8 hb9
  refine k_call (by kernel_rfl) (d := (some 14)) (by kernel_rfl) (f := 34) (args := #[.agg (fpC x)]) (v := .agg (fpC X)) (fun _ => by kernel_rfl) (R1 (hm.nb (nb_trans hB2 hS9))) (fun w10 hb10 => ⟨nb_trans hS9 hb10, ?_⟩)
  have hS10 := nb_trans hS9 hb10
  refine k_neq (by kernel_rfl) (d := (some 15)) (by kernel_rfl) (ty := 22) (ty' := 22) (x := (.tmp 12)) (y := (.tmp 14)) (by kernel_rfl) (xs := (fpC X)) (ys := (fpC X)) (b := false) (by kernel_rfl) (by kernel_rfl) (by kernel_rfl) (fun w' => (neq_fpC Tryd.underlying22 (by kernel_rfl) Tryd.underlying5 (low16 lX) (low16 lX) w').trans (by rw [decide_eq_true rfl]; rfl)) ?_
  refine k_pure (by kernel_rfl) (d := (some 16)) (by kernel_rfl) (v := .bool false) (fun _ => by kernel_rfl) ?_
  refine k_pure (by kernel_rfl) (d := (some 20)) (by kernel_rfl) (v := .agg (fpC 2)) (fun _ => by kernel_rfl) ?_
  refine k_call (by kernel_rfl) (d := (some 17)) (by kernel_rfl) (f := 22) (args := #[]) (v := .agg (fpC 1)) (fun _ => by kernel_rfl) (unit_c) (fun w11 hb11 => ⟨nb_trans hS10 hb11, ?_⟩)
  have hS11 := nb_trans hS10 hb11
  refine k_call (by kernel_rfl) (d := (some 18)) (by kernel_rfl) (f := 22) (args := #[]) (v := .agg (fpC 1)) (fun _ => by kernel_rfl) (unit_c) (fun w12 hb12 => ⟨nb_trans hS11 hb12, ?_⟩)
  have hS12 := nb_trans hS11 hb12
  refine k_call (by kernel_rfl) (d := (some 19)) (by kernel_rfl) (f := 20) (args := #[.agg (fpC 1), .agg (fpC 1)]) (v := .agg (fpC 2)) (fun _ => by kernel_rfl) (implAdd (hm.nb (nb_trans hB2 hS12)) low_one low_one two_eq) (fun w13 hb13 => ⟨nb_trans hS12 hb13, ?_⟩)
  have hS13 := nb_trans hS12 hb13
  refine k_neq (by kernel_rfl) (d := (some 21)) (by kernel_rfl) (ty := 22) (ty' := 22) (x := (.tmp 19)) (y := (.tmp 20)) (by kernel_rfl) (xs := (fpC 2)) (ys := (fpC 2)) (b := false) (by kernel_rfl) (by kernel_rfl) (by kernel_rfl) (fun w' => (neq_fpC Tryd.underlying22 (by kernel_rfl) Tryd.underlying5 (low16 low_two) (low16 low_two) w').trans (by rw [decide_eq_true rfl]; rfl)) ?_
  refine k_pure (by kernel_rfl) (d := (some 22)) (by kernel_rfl) (v := .bool false) (fun _ => by kernel_rfl) ?_
  refine k_end ?_
  go_simp
  have hB3 := nb_trans hB2 hS13
  have F0_3 := Lib.hid (nb_heap F0_2.out _ hS13)
  have Fn3_3 := Lib.hid (nb_heap N3_2.out _ hS13)
  go_upto_region 6 with (fail)
  refine wp_region_at (opsAt Tryd.f10 6) ((true, 0) :: (true, 2) :: (false, 1) :: (true, 3) :: (true, 4) :: (true, 5) :: (true, 6) :: (false, 7) :: (false, 8) :: (false, 9) :: (true, 10) :: (true, 11) :: (true, 12) :: []) (by kernel_rfl) rfl (by kernel_rfl) (fun _ _ d _ _ h => by cases d <;> exact h) (by kernel_rfl) inv_plan_6 ?_
  have hS14 : Below w13.heap.size w13 w13.drew := (Below.refl _ _).drew
  refine k_row (by kernel_rfl) (d := (some 23)) (by kernel_rfl) (ty := 22) (x := (.tmp 1)) (by kernel_rfl) (b := w.heap.size) (by kernel_rfl) (cs := (fpC x)) (fun w' hs => ⟨_, nb_heap F0_3.out w' hs⟩) Tryd.underlying22 rfl (by kernel_rfl) ?_
  refine k_pure (by kernel_rfl) (d := (some 25)) (by kernel_rfl) (v := .agg (dgA (digs 8 0))) (fun _ => by kernel_rfl) ?_
  refine k_call (by kernel_rfl) (d := (some 24)) (by kernel_rfl) (f := 14) (args := #[.agg (fpC x)]) (v := .agg (dgA (digs 8 X))) (fun _ => by kernel_rfl) (O1) (fun w15 hb15 => ⟨nb_trans hS14 hb15, ?_⟩)
  have hS15 := nb_trans hS14 hb15
  refine k_eql (by kernel_rfl) (d := (some 26)) (by kernel_rfl) (ty := 26) (ty' := 26) (x := (.tmp 24)) (y := (.tmp 25)) (by kernel_rfl) (xs := (dgA (digs 8 X))) (ys := (dgA (digs 8 0))) (b := true) (by kernel_rfl) (by kernel_rfl) (by kernel_rfl) E1 ?_
  refine k_pure (by kernel_rfl) (d := (some 27)) (by kernel_rfl) (v := .bool true) (fun _ => by kernel_rfl) ?_
  refine k_skip (by kernel_rfl) (d := (some 28)) (by kernel_rfl) ?_
  refine k_skip (by kernel_rfl) (d := (some 29)) (by kernel_rfl) ?_
  refine k_skip' hS15 (by kernel_rfl) (d := (some 30)) (by kernel_rfl) ?_
  refine k_skip' hS15 (by kernel_rfl) (d := (some 31)) (by kernel_rfl) ?_
  refine k_skip' hS15 (by kernel_rfl) (d := (some 32)) (by kernel_rfl) ?_
  refine k_skip (by kernel_rfl) (d := (some 33)) (by kernel_rfl) ?_
  refine k_pure (by kernel_rfl) (d := (some 34)) (by kernel_rfl) (v := .bool true) (fun _ => by kernel_rfl) ?_
  refine k_pure (by kernel_rfl) (d := (some 2)) (by kernel_rfl) (v := .bool true) (fun _ => by kernel_rfl) ?_
  refine k_end ?_
  go_simp
  have hB4 := nb_trans hB3 hS15
  have F0_4 := Lib.hid (nb_heap F0_3.out _ hS15)
  have Fn3_4 := Lib.hid (nb_heap Fn3_3.out _ hS15)
  go_wp2_with fail
  exact bodyPost_ret_by (by kernel_rfl) (by kernel_rfl) ⟨rfl, hB4⟩

set_option maxRecDepth 100000 in
set_option maxHeartbeats 2000000 in
theorem invLaw_false {w : World} {x X r i : Nat} (hm : ModW w) (hx : x < 256 ^ 16) (hl : lowAll [x] = true) (lX : LowB X)
    (H1 : ∀ {w : World}, ModW w → Calls Tryd.prog 45 #[.agg (fpC x)] w fun e w' => e = .returned (.agg (fpC r)) ∧ Below w.heap.size w w')
    (A1 : ∀ {w : World}, ModW w → Calls Tryd.prog 20 #[.agg (fpC r), .agg (fpC r)] w fun e w' => e = .returned (.agg (fpC X)) ∧ Below w.heap.size w w')
    (R1 : ∀ {w : World}, ModW w → Calls Tryd.prog 34 #[.agg (fpC x)] w fun e w' => e = .returned (.agg (fpC X)) ∧ Below w.heap.size w w')
    (O1 : ∀ {w : World}, Calls Tryd.prog 14 #[.agg (fpC x)] w fun e w' => e = .returned (.agg (dgA (digs 8 X))) ∧ Below w.heap.size w w')
    (I1 : ∀ {w : World}, ModW w → Calls Tryd.prog 46 #[.agg (fpC x)] w fun e w' => e = .returned (.agg (fpC i)) ∧ Below w.heap.size w w')
    (M1 : ∀ {w : World}, ModW w → Calls Tryd.prog 21 #[.agg (fpC x), .agg (fpC i)] w fun e w' => e = .returned (.agg (fpC 1)) ∧ Below w.heap.size w w')
    (E1 : ∀ w : World, (binOp .eql 26 (.agg (dgA (digs 8 X))) (.agg (dgA (digs 8 0)))).run Tryd.prog w = .ok (.bool false) w) :
    Calls Tryd.prog 10 #[.agg (fpC x)] w fun e w' => e = .returned (.bool true) ∧ Below w.heap.size w w' := by
  go_enter Tryd.func10, Tryd.ntmps10
  go_upto_region 1 with (fail)
  have hB : Below w.heap.size w (w.alloc (.cells (fpC x) 22)) := nb_alloc (Below.refl _ _) _
  have F0 : (w.alloc (.cells (fpC x) 22)).heap[w.heap.size]? = some (.cells (fpC x) 22 (0, 0)) := hp1_0 (w := w) (.cells (fpC x) 22)
  obtain ⟨W0, hW⟩ : ∃ W0 : World, W0 = (w.alloc (.cells (fpC x) 22)) := ⟨_, rfl⟩
  rw [← hW] at hB F0 ⊢
  clear hW
  replace F0 := Lib.hid F0
  refine wp_seq_at (opsAt Tryd.f10 1) ((true, 0) :: (false, 1) :: (false, 2) :: (true, 3) :: []) (by kernel_rfl) (by kernel_rfl) ?_
  have hS1 : Below W0.heap.size W0 W0 := Below.refl _ _
  refine k_row (by kernel_rfl) (d := (some 4)) (by kernel_rfl) (ty := 22) (x := (.tmp 1)) (by kernel_rfl) (b := w.heap.size) (by kernel_rfl) (cs := (fpC x)) (fun w' hs => ⟨_, nb_heap F0.out w' hs⟩) Tryd.underlying22 rfl (by kernel_rfl) ?_
  refine k_make (by kernel_rfl) (d := (some 5)) (by kernel_rfl) (v := .slice (some ⟨W0.heap.size, 0, none⟩) 1 1) (w' := W0.alloc (.cells (fps [x]) 22)) (by kernel_rfl) (nb_alloc hS1 _) ?_
  intro w2 hw2 hM2
  refine k_call (by kernel_rfl) (d := (some 6)) (by kernel_rfl) (f := 17) (args := #[.slice (some ⟨W0.heap.size, 0, none⟩) 1 1]) (v := .bool true) (fun _ => by kernel_rfl) (hl ▸ low_c (hw2 ▸ Fps.new _ [x] _ _ _ rfl rfl) (all1 hx) (by show 1 < 1000; decide)) (fun w3 hb3 => ⟨nb_trans hM2 hb3, ?_⟩)
  have hS3 := nb_trans hM2 hb3
  refine k_pure (by kernel_rfl) (d := (some 7)) (by kernel_rfl) (v := .bool false) (fun _ => by kernel_rfl) ?_
  refine k_end ?_
  clear hw2
  go_simp
  have hB1 := nb_trans hB hS3
  have F0_1 := Lib.hid (nb_heap F0.out _ hS3)
  go_upto_region 3 with (fail)
  refine wp_seq_at (opsAt Tryd.f10 3) ((true, 0) :: (false, 1) :: (false, 2) :: (false, 3) :: []) (by kernel_rfl) (by kernel_rfl) ?_
  have hS4 : Below w3.heap.size w3 w3 := Below.refl _ _
  refine k_row (by kernel_rfl) (d := (some 8)) (by kernel_rfl) (ty := 22) (x := (.tmp 1)) (by kernel_rfl) (b := w.heap.size) (by kernel_rfl) (cs := (fpC x)) (fun w' hs => ⟨_, nb_heap F0_1.out w' hs⟩) Tryd.underlying22 rfl (by kernel_rfl) ?_
  refine k_call (by kernel_rfl) (d := (some 9)) (by kernel_rfl) (f := 45) (args := #[.agg (fpC x)]) (v := .agg (fpC r)) (fun _ => by kernel_rfl) (H1 (hm.nb (nb_trans hB1 hS4))) (fun w5 hb5 => ⟨nb_trans hS4 hb5, ?_⟩)
  have hS5 := nb_trans hS4 hb5
  refine k_make (by kernel_rfl) (d := (some 3)) (by kernel_rfl) (v := .pointer (some ⟨w5.heap.size, 0, none⟩)) (w' := w5.alloc (.cells (fpC 0) 22)) (by kernel_rfl) (nb_alloc hS5 _) ?_
  intro w6 hw6 hS6
  have G3_6 : w6.heap[w5.heap.size]? = some (.cells (fpC 0) 22 (0, 0)) := hw6 ▸ heap_alloc_new _ _
  refine k_put (by kernel_rfl) (d := none) (by kernel_rfl) (ty := 22) (x := (.tmp 3)) (y := (.tmp 9)) (by kernel_rfl) (g := w5.heap.size) (cells := (fpC r)) (by kernel_rfl) (by kernel_rfl) G3_6 (by kernel_rfl) (by kernel_rfl) (all_fpC _) (below_setRow hS6 (sizeNb hS5)) ?_
  intro w7 hw7 hS7
  have G3_7 : w7.heap[w5.heap.size]? = some (.cells (fpC r) 22 (0, 0)) := hw7 ▸ setRow_heap _ _ _ _ _ _ G3_6
  refine k_end ?_
  clear hw6 hw7
  go_simp
  have hB2 := nb_trans hB1 hS7
  have F0_2 := Lib.hid (nb_heap F0_1.out _ hS7)
  have N3_2 := Lib.hid G3_7
  clear G3_7 G3_6
  go_upto_region 4 with (fail)
  refine wp_region_at (opsAt Tryd.f10 4) ((true, 0) :: (true, 1) :: (true, 3) :: (false, 2) :: (false, 4) :: (true, 5) :: (true, 6) :: (true, 10) :: (false, 7) :: (false, 8) :: (false, 9) :: (true, 11) :: (true, 12) :: []) (by kernel_rfl) rfl (by kernel_rfl) (fun _ _ d _ _ h => by cases d <;> exact h) (by kernel_rfl) inv_plan_4 ?_
  have hS8 : Below w7.heap.size w7 w7.drew := (Below.refl _ _).drew
  refine k_row (by kernel_rfl) (d := (some 10)) (by kernel_rfl) (ty := 22) (x := (.tmp 3)) (by kernel_rfl) (b := w5.heap.size) (by kernel_rfl) (cs := (fpC r)) (fun w' hs => ⟨_, nb_heap N3_2.out w' hs⟩) Tryd.underlying22 rfl (by kernel_rfl) ?_
  refine k_row (by kernel_rfl) (d := (some 11)) (by kernel_rfl) (ty := 22) (x := (.tmp 3)) (by kernel_rfl) (b := w5.heap.size) (by kernel_rfl) (cs := (fpC r)) (fun w' hs => ⟨_, nb_heap N3_2.out w' hs⟩) Tryd.underlying22 rfl (by kernel_rfl) ?_
  refine k_row (by kernel_rfl) (d := (some 13)) (by kernel_rfl) (ty := 22) (x := (.tmp 1)) (by kernel_rfl) (b := w.heap.size) (by kernel_rfl) (cs := (fpC x)) (fun w' hs => ⟨_, nb_heap F0_2.out w' hs⟩) Tryd.underlying22 rfl (by kernel_rfl) ?_
  refine k_call (by kernel_rfl) (d := (some 12)) (by kernel_rfl) (f := 20) (args := #[.agg (fpC r), .agg (fpC r)]) (v := .agg (fpC X)) (fun _ => by kernel_rfl) (A1 (hm.nb (nb_trans hB2 hS8))) (fun w9 hb9 => ⟨nb_trans hS8 hb9, ?_⟩)
  have hS9 := nb_trans hS8 hb9
  refine k_call (by kernel_rfl) (d := (some 14)) (by kernel_rfl) (f := 34) (args := #[.agg (fpC x)]) (v := .agg (fpC X)) (fun _ => by kernel_rfl) (R1 (hm.nb (nb_trans hB2 hS9))) (fun w10 hb10 => ⟨nb_trans hS9 hb10, ?_⟩)
  have hS10 := nb_trans hS9 hb10
  refine k_neq (by kernel_rfl) (d := (some 15)) (by kernel_rfl) (ty := 22) (ty' := 22) (x := (.tmp 12)) (y := (.tmp 14)) (by kernel_rfl) (xs := (fpC X)) (ys := (fpC X)) (b := false) (by kernel_rfl) (by kernel_rfl) (by kernel_rfl) (fun w' => (neq_fpC Tryd.underlying22 (by kernel_rfl) Tryd.underlying5 (low16 lX) (low16 lX) w').trans (by rw [decide_eq_true rfl]; rfl)) ?_
  refine k_pure (by kernel_rfl) (d := (some 16)) (by kernel_rfl) (v := .bool false) (fun _ => by kernel_rfl) ?_
  refine k_pure (by kernel_rfl) (d := (some 20)) (by kernel_rfl) (v := .agg (fpC 2)) (fun _ => by kernel_rfl) ?_
  refine k_call (by kernel_rfl) (d := (some 17)) (by kernel_rfl) (f := 22) (args := #[]) (v := .agg (fpC 1)) (fun _ => by kernel_rfl) (unit_c) (fun w11 hb11 => ⟨nb_trans hS10 hb11, ?_⟩)
  have hS11 := nb_trans hS10 hb11
  refine k_call (by kernel_rfl) (d := (some 18)) (by kernel_rfl) (f := 22) (args := #[]) (v := .agg (fpC 1)) (fun _ => by kernel_rfl) (unit_c) (fun w12 hb12 => ⟨nb_trans hS11 hb12, ?_⟩)
  have hS12 := nb_trans hS11 hb12
  refine k_call (by kernel_rfl) (d := (some 19)) (by kernel_rfl) (f := 20) (args := #[.agg (fpC 1), .agg (fpC 1)]) (v := .agg (fpC 2)) (fun _ => by kernel_rfl) (implAdd (hm.nb (nb_trans hB2 hS12)) low_one low_one two_eq) (fun w13 hb13 => ⟨nb_trans hS12 hb13, ?_⟩)
  have hS13 := nb_trans hS12 hb13
  refine k_neq (by kernel_rfl) (d := (some 21)) (by kernel_rfl) (ty := 22) (ty' := 22) (x := (.tmp 19)) (y := (.tmp 20)) (by kernel_rfl) (xs := (fpC 2)) (ys := (fpC 2)) (b := false) (by kernel_rfl) (by kernel_rfl) (by kernel_rfl) (fun w' => (neq_fpC Tryd.underlying22 (by kernel_rfl) Tryd.underlying5 (low16 low_two) (low16 low_two) w').trans (by rw [decide_eq_true rfl]; rfl)) ?_
  refine k_pure (by kernel_rfl) (d := (some 22)) (by kernel_rfl) (v := .bool false) (fun _ => by kernel_rfl) ?_
  refine k_end ?_
  go_simp
  have hB3 := nb_trans hB2 hS13
  have F0_3 := Lib.hid (nb_heap F0_2.out _ hS13)
  have Fn3_3 := Lib.hid (nb_heap N3_2.out _ hS13)
  go_upto_region 6 with (fail)
  refine wp_region_at (opsAt Tryd.f10 6) ((true, 0) :: (true, 2) :: (false, 1) :: (true, 3) :: (true, 4) :: (true, 5) :: (true, 6) :: (false, 7) :: (false, 8) :: (false, 9) :: (true, 10) :: (true, 11) :: (true, 12) :: []) (by kernel_rfl) rfl (by kernel_rfl) (fun _ _ d _ _ h => by cases d <;> exact h) (by kernel_rfl) inv_plan_6 ?_
  have hS14 : Below w13.heap.size w13 w13.drew := (Below.refl _ _).drew
  refine k_row (by kernel_rfl) (d := (some 23)) (by kernel_rfl) (ty := 22) (x := (.tmp 1)) (by kernel_rfl) (b := w.heap.size) (by kernel_rfl) (cs := (fpC x)) (fun w' hs => ⟨_, nb_heap F0_3.out w' hs⟩) Tryd.underlying22 rfl (by kernel_rfl) ?_
  refine k_pure (by kernel_rfl) (d := (some 25)) (by kernel_rfl) (v := .agg (dgA (digs 8 0))) (fun _ => by kernel_rfl) ?_
  refine k_call (by kernel_rfl) (d := (some 24)) (by kernel_rfl) (f := 14) (args := #[.agg (fpC x)]) (v := .agg (dgA (digs 8 X))) (fun _ => by kernel_rfl) (O1) (fun w15 hb15 => ⟨nb_trans hS14 hb15, ?_⟩)
  have hS15 := nb_trans hS14 hb15
  refine k_eql (by kernel_rfl) (d := (some 26)) (by kernel_rfl) (ty := 26) (ty' := 26) (x := (.tmp 24)) (y := (.tmp 25)) (by kernel_rfl) (xs := (dgA (digs 8 X))) (ys := (dgA (digs 8 0))) (b := false) (by kernel_rfl) (by kernel_rfl) (by kernel_rfl) E1 ?_
  refine k_pure (by kernel_rfl) (d := (some 27)) (by kernel_rfl) (v := .bool false) (fun _ => by kernel_rfl) ?_
  refine k_row (by kernel_rfl) (d := (some 28)) (by kernel_rfl) (ty := 22) (x := (.tmp 1)) (by kernel_rfl) (b := w.heap.size) (by kernel_rfl) (cs := (fpC x)) (fun w' hs => ⟨_, nb_heap F0_3.out w' hs⟩) Tryd.underlying22 rfl (by kernel_rfl) ?_
  refine k_row (by kernel_rfl) (d := (some 29)) (by kernel_rfl) (ty := 22) (x := (.tmp 1)) (by kernel_rfl) (b := w.heap.size) (by kernel_rfl) (cs := (fpC x)) (fun w' hs => ⟨_, nb_heap F0_3.out w' hs⟩) Tryd.underlying22 rfl (by kernel_rfl) ?_
  refine k_call (by kernel_rfl) (d := (some 30)) (by kernel_rfl) (f := 46) (args := #[.agg (fpC x)]) (v := .agg (fpC i)) (fun _ => by kernel_rfl) (I1 (hm.nb (nb_trans hB3 hS15))) (fun w16 hb16 => ⟨nb_trans hS15 hb16, ?_⟩)
  have hS16 := nb_trans hS15 hb16
  refine k_call (by kernel_rfl) (d := (some 31)) (by kernel_rfl) (f := 21) (args := #[.agg (fpC x), .agg (fpC i)]) (v := .agg (fpC 1)) (fun _ => by kernel_rfl) (M1 (hm.nb (nb_trans hB3 hS16))) (fun w17 hb17 => ⟨nb_trans hS16 hb17, ?_⟩)
  have hS17 := nb_trans hS16 hb17
  refine k_call (by kernel_rfl) (d := (some 32)) (by kernel_rfl) (f := 22) (args := #[]) (v := .agg (fpC 1)) (fun _ => by kernel_rfl) (unit_c) (fun w18 hb18 => ⟨nb_trans hS17 hb18, ?_⟩)
  have hS18 := nb_trans hS17 hb18
  refine k_eql (by kernel_rfl) (d := (some 33)) (by kernel_rfl) (ty := 22) (ty' := 22) (x := (.tmp 31)) (y := (.tmp 32)) (by kernel_rfl) (xs := (fpC 1)) (ys := (fpC 1)) (b := true) (by kernel_rfl) (by kernel_rfl) (by kernel_rfl) (fun w' => (eql_fpC Tryd.underlying22 (by kernel_rfl) Tryd.underlying5 (low16 low_one) (low16 low_one) w').trans (by rw [decide_eq_true rfl])) ?_
  refine k_pure (by kernel_rfl) (d := (some 34)) (by kernel_rfl) (v := .bool true) (fun _ => by kernel_rfl) ?_
  refine k_pure (by kernel_rfl) (d := (some 2)) (by kernel_rfl) (v := .bool true) (fun _ => by kernel_rfl) ?_
  refine k_end ?_
  go_simp
  have hB4 := nb_trans hB3 hS18
  have F0_4 := Lib.hid (nb_heap F0_3.out _ hS18)
  have Fn3_4 := Lib.hid (nb_heap Fn3_3.out _ hS18)
  go_wp2_with fail
  exact bodyPost_ret_by (by kernel_rfl) (by kernel_rfl) ⟨rfl, hB4⟩


theorem invLaw_c {w : World} {x : Nat} (hm : ModW w) (hx : x < 256 ^ 16) :
    Calls Tryd.prog 10 #[.agg (fpC x)] w fun e w' => e = .returned (.bool true) ∧ Below w.heap.size w w' := by
  cases hl : lowAll [x] with
  | false => exact invLaw_high hx hl
  | true =>
    have lx : LowB x := lowAll_iff.1 hl x (by simp)
    have hz : x % pp < 65536 ^ 8 := Nat.lt_trans (Nat.mod_lt _ (by decide +kernel)) (by decide +kernel)
    have hE := fun w : World => eql_digs (P := Tryd.prog) (x := x % pp) (y := 0) Tryd.underlying26 (by kernel_rfl) Tryd.underlying24 hz (by decide) w
    have hA : ∀ {w : World}, ModW w → Calls Tryd.prog 20 #[.agg (fpC (hlfN x % pp)), .agg (fpC (hlfN x % pp))] w fun e w' => e = .returned (.agg (fpC (x % pp))) ∧ Below w.heap.size w w' := fun h =>
      implAdd h (low_mod' _) (low_mod' _) (by rw [← Nat.add_mod, ← Nat.two_mul]; exact hlfN_mod x)
    by_cases h0 : x % pp = 0
    · exact invLaw_true (r := hlfN x % pp) hm hx hl (low_mod' _) (fun h => implHlf h lx rfl) hA (fun h => implMod h lx rfl) (of_c _ x hx) (fun w => by rw [hE w, decide_eq_true h0])
    · have hne : zp x ≠ 0 := fun e => h0 (by have := congrArg Zp.val e; rwa [val_zp, val_zero] at this)
      refine invLaw_false (r := hlfN x % pp) (i := (zp x).inv.val) hm hx hl (low_mod' _) (fun h => implHlf h lx rfl) hA (fun h => implMod h lx rfl) (of_c _ x hx) (fun h => implInv h lx) (fun h => implMul h lx (low_val _) ?_) (fun w => by rw [hE w, decide_eq_false h0])
      have e : zp (x * (zp x).inv.val) = 1 := by rw [zp_mul, zp_val, zmul_inv hne]
      have := congrArg Zp.val e
      rwa [val_zp, val_one] at this

end Go.Proofs.YtpogbljoohdehaaDoor
