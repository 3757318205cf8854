/- FnFpTells: whatever element of 16 bytes: true. -/
import Derived.Test.YtpogbljoohdehaaDoorTells
namespace Go.Proofs.YtpogbljoohdehaaDoor
open Go.RowKit Go.FourQ

theorem sgn_neg {z r : Nat} (hz : z < pp) (h0 : z ≠ 0) (hr : r = pp - z) : sgnN z ≠ sgnN r := by
  subst hr
  unfold sgnN
  unfold pp at *
  rw [if_neg h0, if_neg (by omega)]
  omega
theorem neg_mod {x : Nat} (hx : LowB x) (h0 : x % pp ≠ 0) : subN pp x % pp = pp - x % pp := by
  unfold LowB subN pp at *
  split <;> omega

set_option maxRecDepth 100000 in
set_option maxHeartbeats 2000000 in
theorem tells_high {w : World} {x : Nat} (hx : x < 256 ^ 16) (hl : lowAll [x] = false) :
    Calls Tryd.prog 4 #[.agg (fpC x)] w fun e w' => e = .returned (.bool true) ∧ Below w.heap.size w w' := by
  go_enter Tryd.func4, Tryd.ntmps4
  go_upto_region 1 with (fail)
  have hB : Below w.heap.size w (w.alloc (.cells (fpC x) 22)) := nb_alloc (Below.refl _ _) _
  have F0 : (w.alloc (.cells (fpC x) 22)).heap[w.heap.size]? = some (.cells (fpC x) 22 (0, 0)) := hp1_0 (w := w) (.cells (fpC x) 22)
  obtain ⟨W0, hW⟩ : ∃ W0 : World, W0 = (w.alloc (.cells (fpC x) 22)) := ⟨_, rfl⟩
  rw [← hW] at hB F0 ⊢
  clear hW
  refine wp_seq_at (opsAt Tryd.f4 1) ((true, 0) :: (false, 1) :: (false, 2) :: (true, 3) :: []) (by kernel_rfl) (by kernel_rfl) ?_
  have hS1 : Below W0.heap.size W0 W0 := Below.refl _ _
  refine k_row (by kernel_rfl) (d := (some 9)) (by kernel_rfl) (ty := 22) (x := (.tmp 1)) (by kernel_rfl) (b := w.heap.size) (by kernel_rfl) (cs := (fpC x)) (fun w' hs => ⟨_, nb_heap F0 w' hs⟩) Tryd.underlying22 rfl (by kernel_rfl) ?_
  refine k_make (by kernel_rfl) (d := (some 10)) (by kernel_rfl) (v := .slice (some ⟨W0.heap.size, 0, none⟩) 1 1) (w' := W0.alloc (.cells (fps [x]) 22)) (by kernel_rfl) (nb_alloc hS1 _) ?_
  intro w2 hw2 hM2
  refine k_call (by kernel_rfl) (d := (some 11)) (by kernel_rfl) (f := 17) (args := #[.slice (some ⟨W0.heap.size, 0, none⟩) 1 1]) (v := .bool false) (fun _ => by kernel_rfl) (hl ▸ low_c (hw2 ▸ Fps.new _ [x] _ _ _ rfl rfl) (all1 hx) (by show 1 < 1000; decide)) (fun w3 hb3 => ⟨nb_trans hM2 hb3, ?_⟩)
  have hS3 := nb_trans hM2 hb3
  refine k_pure (by kernel_rfl) (d := (some 12)) (by kernel_rfl) (v := .bool true) (fun _ => by kernel_rfl) ?_
  refine k_end ?_
  have hB1 := nb_trans hB hS3
  have F0_1 := nb_heap F0 _ hS3
  go_wp2_with fail
  exact bodyPost_ret_by (by kernel_rfl) (by kernel_rfl) ⟨rfl, hB1⟩

set_option maxRecDepth 100000 in
set_option maxHeartbeats 2000000 in
theorem tells_true {w : World} {x z r : Nat} {c : Bool} {s t : Int} (hm : ModW w) (hx : x < 256 ^ 16) (hl : lowAll [x] = true)
    (T1 : ∀ {w : World}, ModW w → Calls Tryd.prog 18 #[.agg (fpC x)] w fun e w' => e = .returned (.tuple #[.bool true, .int .i64 s]) ∧ Below w.heap.size w w')
    (T2 : ∀ {w : World}, ModW w → Calls Tryd.prog 18 #[.agg (fpC r)] w fun e w' => e = .returned (.tuple #[.bool c, .int .i64 t]) ∧ Below w.heap.size w w')
    (T3 : ∀ {w : World}, ModW w → Calls Tryd.prog 18 #[.agg (fpC 0)] w fun e w' => e = .returned (.tuple #[.bool true, .int .i64 0]) ∧ Below w.heap.size w w')
    (N1 : ∀ {w : World}, ModW w → Calls Tryd.prog 19 #[.agg (fpC x)] w fun e w' => e = .returned (.agg (fpC r)) ∧ Below w.heap.size w w')
    (O1 : ∀ (w : World), Calls Tryd.prog 14 #[.agg (fpC x)] w fun e w' => e = .returned (.agg (dgA (digs 8 z))) ∧ Below w.heap.size w w')
    (E1 : ∀ w : World, (binOp .eql 26 (.agg (dgA (digs 8 z))) (.agg (dgA (digs 8 0)))).run Tryd.prog w = .ok (.bool true) w) :
    Calls Tryd.prog 4 #[.agg (fpC x)] w fun e w' => e = .returned (.bool true) ∧ Below w.heap.size w w' := by
  go_enter Tryd.func4, Tryd.ntmps4
  go_upto_region 1 with (fail)
  have hB : Below w.heap.size w (w.alloc (.cells (fpC x) 22)) := nb_alloc (Below.refl _ _) _
  have F0 : (w.alloc (.cells (fpC x) 22)).heap[w.heap.size]? = some (.cells (fpC x) 22 (0, 0)) := hp1_0 (w := w) (.cells (fpC x) 22)
  obtain ⟨W0, hW⟩ : ∃ W0 : World, W0 = (w.alloc (.cells (fpC x) 22)) := ⟨_, rfl⟩
  rw [← hW] at hB F0 ⊢
  clear hW
  refine wp_seq_at (opsAt Tryd.f4 1) ((true, 0) :: (false, 1) :: (false, 2) :: (true, 3) :: []) (by kernel_rfl) (by kernel_rfl) ?_
  have hS1 : Below W0.heap.size W0 W0 := Below.refl _ _
  refine k_row (by kernel_rfl) (d := (some 9)) (by kernel_rfl) (ty := 22) (x := (.tmp 1)) (by kernel_rfl) (b := w.heap.size) (by kernel_rfl) (cs := (fpC x)) (fun w' hs => ⟨_, nb_heap F0 w' hs⟩) Tryd.underlying22 rfl (by kernel_rfl) ?_
  refine k_make (by kernel_rfl) (d := (some 10)) (by kernel_rfl) (v := .slice (some ⟨W0.heap.size, 0, none⟩) 1 1) (w' := W0.alloc (.cells (fps [x]) 22)) (by kernel_rfl) (nb_alloc hS1 _) ?_
  intro w2 hw2 hM2
  refine k_call (by kernel_rfl) (d := (some 11)) (by kernel_rfl) (f := 17) (args := #[.slice (some ⟨W0.heap.size, 0, none⟩) 1 1]) (v := .bool true) (fun _ => by kernel_rfl) (hl ▸ low_c (hw2 ▸ Fps.new _ [x] _ _ _ rfl rfl) (all1 hx) (by show 1 < 1000; decide)) (fun w3 hb3 => ⟨nb_trans hM2 hb3, ?_⟩)
  have hS3 := nb_trans hM2 hb3
  refine k_pure (by kernel_rfl) (d := (some 12)) (by kernel_rfl) (v := .bool false) (fun _ => by kernel_rfl) ?_
  refine k_end ?_
  have hB1 := nb_trans hB hS3
  have F0_1 := nb_heap F0 _ hS3
  go_upto_region 3 with (fail)
  refine wp_seq_at (opsAt Tryd.f4 3) ((true, 0) :: (false, 1) :: (true, 2) :: (true, 3) :: (true, 4) :: (true, 5) :: (true, 6) :: []) (by kernel_rfl) (by kernel_rfl) ?_
  have hS4 : Below w3.heap.size w3 w3 := Below.refl _ _
  refine k_row (by kernel_rfl) (d := (some 14)) (by kernel_rfl) (ty := 22) (x := (.tmp 1)) (by kernel_rfl) (b := w.heap.size) (by kernel_rfl) (cs := (fpC x)) (fun w' hs => ⟨_, nb_heap F0_1 w' hs⟩) Tryd.underlying22 rfl (by kernel_rfl) ?_
  refine k_call (by kernel_rfl) (d := (some 15)) (by kernel_rfl) (f := 18) (args := #[.agg (fpC x)]) (v := .tuple #[.bool true, .int .i64 s]) (fun _ => by kernel_rfl) (T1 (hm.nb (nb_trans hB1 hS4))) (fun w5 hb5 => ⟨nb_trans hS4 hb5, ?_⟩)
  have hS5 := nb_trans hS4 hb5
  refine k_pure (by kernel_rfl) (d := (some 13)) (by kernel_rfl) (v := .tuple #[.bool true, .int .i64 s]) (fun _ => by kernel_rfl) ?_
  refine k_pure (by kernel_rfl) (d := (some 16)) (by kernel_rfl) (v := .bool true) (fun _ => by kernel_rfl) ?_
  refine k_pure (by kernel_rfl) (d := (some 17)) (by kernel_rfl) (v := .int .i64 s) (fun _ => by kernel_rfl) ?_
  refine k_pure (by kernel_rfl) (d := (some 3)) (by kernel_rfl) (v := .bool true) (fun _ => by kernel_rfl) ?_
  refine k_pure (by kernel_rfl) (d := (some 4)) (by kernel_rfl) (v := .int .i64 s) (fun _ => by kernel_rfl) ?_
  refine k_end ?_
  have hB2 := nb_trans hB1 hS5
  have F0_2 := nb_heap F0_1 _ hS5
  go_upto_region 4 with (fail)
  refine wp_seq_at (opsAt Tryd.f4 4) ((true, 0) :: (false, 1) :: (false, 2) :: (true, 3) :: (true, 4) :: (true, 5) :: (true, 6) :: (true, 7) :: []) (by kernel_rfl) (by kernel_rfl) ?_
  have hS6 : Below w5.heap.size w5 w5 := Below.refl _ _
  refine k_row (by kernel_rfl) (d := (some 19)) (by kernel_rfl) (ty := 22) (x := (.tmp 1)) (by kernel_rfl) (b := w.heap.size) (by kernel_rfl) (cs := (fpC x)) (fun w' hs => ⟨_, nb_heap F0_2 w' hs⟩) Tryd.underlying22 rfl (by kernel_rfl) ?_
  refine k_call (by kernel_rfl) (d := (some 20)) (by kernel_rfl) (f := 19) (args := #[.agg (fpC x)]) (v := .agg (fpC r)) (fun _ => by kernel_rfl) (N1 (hm.nb (nb_trans hB2 hS6))) (fun w7 hb7 => ⟨nb_trans hS6 hb7, ?_⟩)
  have hS7 := nb_trans hS6 hb7
  refine k_call (by kernel_rfl) (d := (some 21)) (by kernel_rfl) (f := 18) (args := #[.agg (fpC r)]) (v := .tuple #[.bool c, .int .i64 t]) (fun _ => by kernel_rfl) (T2 (hm.nb (nb_trans hB2 hS7))) (fun w8 hb8 => ⟨nb_trans hS7 hb8, ?_⟩)
  have hS8 := nb_trans hS7 hb8
  refine k_pure (by kernel_rfl) (d := (some 18)) (by kernel_rfl) (v := .tuple #[.bool c, .int .i64 t]) (fun _ => by kernel_rfl) ?_
  refine k_pure (by kernel_rfl) (d := (some 22)) (by kernel_rfl) (v := .bool c) (fun _ => by kernel_rfl) ?_
  refine k_pure (by kernel_rfl) (d := (some 23)) (by kernel_rfl) (v := .int .i64 t) (fun _ => by kernel_rfl) ?_
  refine k_pure (by kernel_rfl) (d := (some 5)) (by kernel_rfl) (v := .bool c) (fun _ => by kernel_rfl) ?_
  refine k_pure (by kernel_rfl) (d := (some 6)) (by kernel_rfl) (v := .int .i64 t) (fun _ => by kernel_rfl) ?_
  refine k_end ?_
  have hB3 := nb_trans hB2 hS8
  have F0_3 := nb_heap F0_2 _ hS8
  go_upto_region 5 with (fail)
  refine wp_seq_at (opsAt Tryd.f4 5) ((true, 0) :: (false, 1) :: (true, 2) :: (true, 3) :: (true, 4) :: (true, 5) :: (true, 6) :: []) (by kernel_rfl) (by kernel_rfl) ?_
  have hS9 : Below w8.heap.size w8 w8 := Below.refl _ _
  refine k_pure (by kernel_rfl) (d := (some 25)) (by kernel_rfl) (v := .agg (fpC 0)) (fun _ => by kernel_rfl) ?_
  refine k_call (by kernel_rfl) (d := (some 26)) (by kernel_rfl) (f := 18) (args := #[.agg (fpC 0)]) (v := .tuple #[.bool true, .int .i64 0]) (fun _ => by kernel_rfl) (T3 (hm.nb (nb_trans hB3 hS9))) (fun w10 hb10 => ⟨nb_trans hS9 hb10, ?_⟩)
  have hS10 := nb_trans hS9 hb10
  refine k_pure (by kernel_rfl) (d := (some 24)) (by kernel_rfl) (v := .tuple #[.bool true, .int .i64 0]) (fun _ => by kernel_rfl) ?_
  refine k_pure (by kernel_rfl) (d := (some 27)) (by kernel_rfl) (v := .bool true) (fun _ => by kernel_rfl) ?_
  refine k_pure (by kernel_rfl) (d := (some 28)) (by kernel_rfl) (v := .int .i64 0) (fun _ => by kernel_rfl) ?_
  refine k_pure (by kernel_rfl) (d := (some 7)) (by kernel_rfl) (v := .bool true) (fun _ => by kernel_rfl) ?_
  refine k_pure (by kernel_rfl) (d := (some 8)) (by kernel_rfl) (v := .int .i64 0) (fun _ => by kernel_rfl) ?_
  refine k_end ?_
  have hB4 := nb_trans hB3 hS10
  have F0_4 := nb_heap F0_3 _ hS10
  go_upto_region 6 with (fail)
  refine wp_seq_at (opsAt Tryd.f4 6) ((true, 0) :: (true, 1) :: (true, 2) :: (true, 3) :: (false, 4) :: (true, 5) :: (true, 6) :: (true, 7) :: (true, 8) :: (true, 9) :: (true, 10) :: (true, 11) :: (true, 12) :: (true, 13) :: (true, 14) :: (true, 15) :: (true, 16) :: (true, 17) :: []) (by kernel_rfl) (by kernel_rfl) ?_
  have hS11 : Below w10.heap.size w10 w10 := Below.refl _ _
  refine k_pure (by kernel_rfl) (d := (some 29)) (by kernel_rfl) (v := .bool true) (fun _ => by kernel_rfl) ?_
  refine k_pure (by kernel_rfl) (d := (some 30)) (by kernel_rfl) (v := .bool true) (fun _ => by kernel_rfl) ?_
  refine k_pure (by kernel_rfl) (d := (some 31)) (by kernel_rfl) (v := .bool true) (fun _ => by kernel_rfl) ?_
  refine k_row (by kernel_rfl) (d := (some 32)) (by kernel_rfl) (ty := 22) (x := (.tmp 1)) (by kernel_rfl) (b := w.heap.size) (by kernel_rfl) (cs := (fpC x)) (fun w' hs => ⟨_, nb_heap F0_4 w' hs⟩) Tryd.underlying22 rfl (by kernel_rfl) ?_
  refine k_call (by kernel_rfl) (d := (some 33)) (by kernel_rfl) (f := 14) (args := #[.agg (fpC x)]) (v := .agg (dgA (digs 8 z))) (fun _ => by kernel_rfl) (O1 _) (fun w12 hb12 => ⟨nb_trans hS11 hb12, ?_⟩)
  have hS12 := nb_trans hS11 hb12
  refine k_pure (by kernel_rfl) (d := (some 34)) (by kernel_rfl) (v := .agg (dgA (digs 8 0))) (fun _ => by kernel_rfl) ?_
  refine k_eql (by kernel_rfl) (d := (some 35)) (by kernel_rfl) (ty := 26) (ty' := 26) (x := (.tmp 33)) (y := (.tmp 34)) (by kernel_rfl) (xs := (dgA (digs 8 z))) (ys := (dgA (digs 8 0))) (b := true) (by kernel_rfl) (by kernel_rfl) (by kernel_rfl) E1 ?_
  refine k_pure (by kernel_rfl) (d := (some 36)) (by kernel_rfl) (v := .bool true) (fun _ => by kernel_rfl) ?_
  refine k_pure (by kernel_rfl) (d := (some 37)) (by kernel_rfl) (v := .bool true) (fun _ => by kernel_rfl) ?_
  refine k_pure (by kernel_rfl) (d := (some 38)) (by kernel_rfl) (v := .bool true) (fun _ => by kernel_rfl) ?_
  refine k_pure (by kernel_rfl) (d := (some 39)) (by kernel_rfl) (v := .bool true) (fun _ => by kernel_rfl) ?_
  refine k_pure (by kernel_rfl) (d := (some 40)) (by kernel_rfl) (v := .bool true) (fun _ => by kernel_rfl) ?_
  refine k_skip (by kernel_rfl) (d := (some 41)) (by kernel_rfl) ?_
  refine k_skip (by kernel_rfl) (d := (some 42)) (by kernel_rfl) ?_
  refine k_skip (by kernel_rfl) (d := (some 43)) (by kernel_rfl) ?_
  refine k_pure (by kernel_rfl) (d := (some 44)) (by kernel_rfl) (v := .bool true) (fun _ => by kernel_rfl) ?_
  refine k_pure (by kernel_rfl) (d := (some 45)) (by kernel_rfl) (v := .bool true) (fun _ => by kernel_rfl) ?_
  refine k_pure (by kernel_rfl) (d := (some 2)) (by kernel_rfl) (v := .bool true) (fun _ => by kernel_rfl) ?_
  refine k_end ?_
  have hB5 := nb_trans hB4 hS12
  have F0_5 := nb_heap F0_4 _ hS12
  go_wp2_with fail
  exact bodyPost_ret_by (by kernel_rfl) (by kernel_rfl) ⟨rfl, hB5⟩

set_option maxRecDepth 100000 in
set_option maxHeartbeats 2000000 in
theorem tells_false {w : World} {x z r : Nat} {c : Bool} {s t : Int} (hm : ModW w) (hx : x < 256 ^ 16) (hl : lowAll [x] = true)
    (T1 : ∀ {w : World}, ModW w → Calls Tryd.prog 18 #[.agg (fpC x)] w fun e w' => e = .returned (.tuple #[.bool false, .int .i64 s]) ∧ Below w.heap.size w w')
    (T2 : ∀ {w : World}, ModW w → Calls Tryd.prog 18 #[.agg (fpC r)] w fun e w' => e = .returned (.tuple #[.bool c, .int .i64 t]) ∧ Below w.heap.size w w')
    (T3 : ∀ {w : World}, ModW w → Calls Tryd.prog 18 #[.agg (fpC 0)] w fun e w' => e = .returned (.tuple #[.bool true, .int .i64 0]) ∧ Below w.heap.size w w')
    (N1 : ∀ {w : World}, ModW w → Calls Tryd.prog 19 #[.agg (fpC x)] w fun e w' => e = .returned (.agg (fpC r)) ∧ Below w.heap.size w w')
    (O1 : ∀ (w : World), Calls Tryd.prog 14 #[.agg (fpC x)] w fun e w' => e = .returned (.agg (dgA (digs 8 z))) ∧ Below w.heap.size w w')
    (E1 : ∀ w : World, (binOp .eql 26 (.agg (dgA (digs 8 z))) (.agg (dgA (digs 8 0)))).run Tryd.prog w = .ok (.bool false) w)
    (hst : (s != t) = true) :
    Calls Tryd.prog 4 #[.agg (fpC x)] w fun e w' => e = .returned (.bool true) ∧ Below w.heap.size w w' := by
  go_enter Tryd.func4, Tryd.ntmps4
  go_upto_region 1 with (fail)
  have hB : Below w.heap.size w (w.alloc (.cells (fpC x) 22)) := nb_alloc (Below.refl _ _) _
  have F0 : (w.alloc (.cells (fpC x) 22)).heap[w.heap.size]? = some (.cells (fpC x) 22 (0, 0)) := hp1_0 (w := w) (.cells (fpC x) 22)
  obtain ⟨W0, hW⟩ : ∃ W0 : World, W0 = (w.alloc (.cells (fpC x) 22)) := ⟨_, rfl⟩
  rw [← hW] at hB F0 ⊢
  clear hW
  refine wp_seq_at (opsAt Tryd.f4 1) ((true, 0) :: (false, 1) :: (false, 2) :: (true, 3) :: []) (by kernel_rfl) (by kernel_rfl) ?_
  have hS1 : Below W0.heap.size W0 W0 := Below.refl _ _
  refine k_row (by kernel_rfl) (d := (some 9)) (by kernel_rfl) (ty := 22) (x := (.tmp 1)) (by kernel_rfl) (b := w.heap.size) (by kernel_rfl) (cs := (fpC x)) (fun w' hs => ⟨_, nb_heap F0 w' hs⟩) Tryd.underlying22 rfl (by kernel_rfl) ?_
  refine k_make (by kernel_rfl) (d := (some 10)) (by kernel_rfl) (v := .slice (some ⟨W0.heap.size, 0, none⟩) 1 1) (w' := W0.alloc (.cells (fps [x]) 22)) (by kernel_rfl) (nb_alloc hS1 _) ?_
  intro w2 hw2 hM2
  refine k_call (by kernel_rfl) (d := (some 11)) (by kernel_rfl) (f := 17) (args := #[.slice (some ⟨W0.heap.size, 0, none⟩) 1 1]) (v := .bool true) (fun _ => by kernel_rfl) (hl ▸ low_c (hw2 ▸ Fps.new _ [x] _ _ _ rfl rfl) (all1 hx) (by show 1 < 1000; decide)) (fun w3 hb3 => ⟨nb_trans hM2 hb3, ?_⟩)
  have hS3 := nb_trans hM2 hb3
  refine k_pure (by kernel_rfl) (d := (some 12)) (by kernel_rfl) (v := .bool false) (fun _ => by kernel_rfl) ?_
  refine k_end ?_
  have hB1 := nb_trans hB hS3
  have F0_1 := nb_heap F0 _ hS3
  go_upto_region 3 with (fail)
  refine wp_seq_at (opsAt Tryd.f4 3) ((true, 0) :: (false, 1) :: (true, 2) :: (true, 3) :: (true, 4) :: (true, 5) :: (true, 6) :: []) (by kernel_rfl) (by kernel_rfl) ?_
  have hS4 : Below w3.heap.size w3 w3 := Below.refl _ _
  refine k_row (by kernel_rfl) (d := (some 14)) (by kernel_rfl) (ty := 22) (x := (.tmp 1)) (by kernel_rfl) (b := w.heap.size) (by kernel_rfl) (cs := (fpC x)) (fun w' hs => ⟨_, nb_heap F0_1 w' hs⟩) Tryd.underlying22 rfl (by kernel_rfl) ?_
  refine k_call (by kernel_rfl) (d := (some 15)) (by kernel_rfl) (f := 18) (args := #[.agg (fpC x)]) (v := .tuple #[.bool false, .int .i64 s]) (fun _ => by kernel_rfl) (T1 (hm.nb (nb_trans hB1 hS4))) (fun w5 hb5 => ⟨nb_trans hS4 hb5, ?_⟩)
  have hS5 := nb_trans hS4 hb5
  refine k_pure (by kernel_rfl) (d := (some 13)) (by kernel_rfl) (v := .tuple #[.bool false, .int .i64 s]) (fun _ => by kernel_rfl) ?_
  refine k_pure (by kernel_rfl) (d := (some 16)) (by kernel_rfl) (v := .bool false) (fun _ => by kernel_rfl) ?_
  refine k_pure (by kernel_rfl) (d := (some 17)) (by kernel_rfl) (v := .int .i64 s) (fun _ => by kernel_rfl) ?_
  refine k_pure (by kernel_rfl) (d := (some 3)) (by kernel_rfl) (v := .bool false) (fun _ => by kernel_rfl) ?_
  refine k_pure (by kernel_rfl) (d := (some 4)) (by kernel_rfl) (v := .int .i64 s) (fun _ => by kernel_rfl) ?_
  refine k_end ?_
  have hB2 := nb_trans hB1 hS5
  have F0_2 := nb_heap F0_1 _ hS5
  go_upto_region 4 with (fail)
  refine wp_seq_at (opsAt Tryd.f4 4) ((true, 0) :: (false, 1) :: (false, 2) :: (true, 3) :: (true, 4) :: (true, 5) :: (true, 6) :: (true, 7) :: []) (by kernel_rfl) (by kernel_rfl) ?_
  have hS6 : Below w5.heap.size w5 w5 := Below.refl _ _
  refine k_row (by kernel_rfl) (d := (some 19)) (by kernel_rfl) (ty := 22) (x := (.tmp 1)) (by kernel_rfl) (b := w.heap.size) (by kernel_rfl) (cs := (fpC x)) (fun w' hs => ⟨_, nb_heap F0_2 w' hs⟩) Tryd.underlying22 rfl (by kernel_rfl) ?_
  refine k_call (by kernel_rfl) (d := (some 20)) (by kernel_rfl) (f := 19) (args := #[.agg (fpC x)]) (v := .agg (fpC r)) (fun _ => by kernel_rfl) (N1 (hm.nb (nb_trans hB2 hS6))) (fun w7 hb7 => ⟨nb_trans hS6 hb7, ?_⟩)
  have hS7 := nb_trans hS6 hb7
  refine k_call (by kernel_rfl) (d := (some 21)) (by kernel_rfl) (f := 18) (args := #[.agg (fpC r)]) (v := .tuple #[.bool c, .int .i64 t]) (fun _ => by kernel_rfl) (T2 (hm.nb (nb_trans hB2 hS7))) (fun w8 hb8 => ⟨nb_trans hS7 hb8, ?_⟩)
  have hS8 := nb_trans hS7 hb8
  refine k_pure (by kernel_rfl) (d := (some 18)) (by kernel_rfl) (v := .tuple #[.bool c, .int .i64 t]) (fun _ => by kernel_rfl) ?_
  refine k_pure (by kernel_rfl) (d := (some 22)) (by kernel_rfl) (v := .bool c) (fun _ => by kernel_rfl) ?_
  refine k_pure (by kernel_rfl) (d := (some 23)) (by kernel_rfl) (v := .int .i64 t) (fun _ => by kernel_rfl) ?_
  refine k_pure (by kernel_rfl) (d := (some 5)) (by kernel_rfl) (v := .bool c) (fun _ => by kernel_rfl) ?_
  refine k_pure (by kernel_rfl) (d := (some 6)) (by kernel_rfl) (v := .int .i64 t) (fun _ => by kernel_rfl) ?_
  refine k_end ?_
  have hB3 := nb_trans hB2 hS8
  have F0_3 := nb_heap F0_2 _ hS8
  go_upto_region 5 with (fail)
  refine wp_seq_at (opsAt Tryd.f4 5) ((true, 0) :: (false, 1) :: (true, 2) :: (true, 3) :: (true, 4) :: (true, 5) :: (true, 6) :: []) (by kernel_rfl) (by kernel_rfl) ?_
  have hS9 : Below w8.heap.size w8 w8 := Below.refl _ _
  refine k_pure (by kernel_rfl) (d := (some 25)) (by kernel_rfl) (v := .agg (fpC 0)) (fun _ => by kernel_rfl) ?_
  refine k_call (by kernel_rfl) (d := (some 26)) (by kernel_rfl) (f := 18) (args := #[.agg (fpC 0)]) (v := .tuple #[.bool true, .int .i64 0]) (fun _ => by kernel_rfl) (T3 (hm.nb (nb_trans hB3 hS9))) (fun w10 hb10 => ⟨nb_trans hS9 hb10, ?_⟩)
  have hS10 := nb_trans hS9 hb10
  refine k_pure (by kernel_rfl) (d := (some 24)) (by kernel_rfl) (v := .tuple #[.bool true, .int .i64 0]) (fun _ => by kernel_rfl) ?_
  refine k_pure (by kernel_rfl) (d := (some 27)) (by kernel_rfl) (v := .bool true) (fun _ => by kernel_rfl) ?_
  refine k_pure (by kernel_rfl) (d := (some 28)) (by kernel_rfl) (v := .int .i64 0) (fun _ => by kernel_rfl) ?_
  refine k_pure (by kernel_rfl) (d := (some 7)) (by kernel_rfl) (v := .bool true) (fun _ => by kernel_rfl) ?_
  refine k_pure (by kernel_rfl) (d := (some 8)) (by kernel_rfl) (v := .int .i64 0) (fun _ => by kernel_rfl) ?_
  refine k_end ?_
  have hB4 := nb_trans hB3 hS10
  have F0_4 := nb_heap F0_3 _ hS10
  go_upto_region 6 with (fail)
  refine wp_seq_at (opsAt Tryd.f4 6) ((true, 0) :: (true, 1) :: (true, 2) :: (true, 3) :: (false, 4) :: (true, 5) :: (true, 6) :: (true, 7) :: (true, 8) :: (true, 9) :: (true, 10) :: (true, 11) :: (true, 12) :: (true, 13) :: (true, 14) :: (true, 15) :: (true, 16) :: (true, 17) :: []) (by kernel_rfl) (by kernel_rfl) ?_
  have hS11 : Below w10.heap.size w10 w10 := Below.refl _ _
  refine k_pure (by kernel_rfl) (d := (some 29)) (by kernel_rfl) (v := .bool true) (fun _ => by kernel_rfl) ?_
  refine k_pure (by kernel_rfl) (d := (some 30)) (by kernel_rfl) (v := .bool true) (fun _ => by kernel_rfl) ?_
  refine k_pure (by kernel_rfl) (d := (some 31)) (by kernel_rfl) (v := .bool false) (fun _ => by kernel_rfl) ?_
  refine k_row (by kernel_rfl) (d := (some 32)) (by kernel_rfl) (ty := 22) (x := (.tmp 1)) (by kernel_rfl) (b := w.heap.size) (by kernel_rfl) (cs := (fpC x)) (fun w' hs => ⟨_, nb_heap F0_4 w' hs⟩) Tryd.underlying22 rfl (by kernel_rfl) ?_
  refine k_call (by kernel_rfl) (d := (some 33)) (by kernel_rfl) (f := 14) (args := #[.agg (fpC x)]) (v := .agg (dgA (digs 8 z))) (fun _ => by kernel_rfl) (O1 _) (fun w12 hb12 => ⟨nb_trans hS11 hb12, ?_⟩)
  have hS12 := nb_trans hS11 hb12
  refine k_pure (by kernel_rfl) (d := (some 34)) (by kernel_rfl) (v := .agg (dgA (digs 8 0))) (fun _ => by kernel_rfl) ?_
  refine k_eql (by kernel_rfl) (d := (some 35)) (by kernel_rfl) (ty := 26) (ty' := 26) (x := (.tmp 33)) (y := (.tmp 34)) (by kernel_rfl) (xs := (dgA (digs 8 z))) (ys := (dgA (digs 8 0))) (b := false) (by kernel_rfl) (by kernel_rfl) (by kernel_rfl) E1 ?_
  refine k_pure (by kernel_rfl) (d := (some 36)) (by kernel_rfl) (v := .bool true) (fun _ => by kernel_rfl) ?_
  refine k_pure (by kernel_rfl) (d := (some 37)) (by kernel_rfl) (v := .bool true) (fun _ => by kernel_rfl) ?_
  refine k_pure (by kernel_rfl) (d := (some 38)) (by kernel_rfl) (v := .bool true) (fun _ => by kernel_rfl) ?_
  refine k_pure (by kernel_rfl) (d := (some 39)) (by kernel_rfl) (v := .bool false) (fun _ => by kernel_rfl) ?_
  refine k_pure (by kernel_rfl) (d := (some 40)) (by kernel_rfl) (v := .bool false) (fun _ => by kernel_rfl) ?_
  refine k_pure (by kernel_rfl) (d := (some 41)) (by kernel_rfl) (v := .int .i64 s) (fun _ => by kernel_rfl) ?_
  refine k_pure (by kernel_rfl) (d := (some 42)) (by kernel_rfl) (v := .int .i64 t) (fun _ => by kernel_rfl) ?_
  refine k_pure (by kernel_rfl) (d := (some 43)) (by kernel_rfl) (v := .bool true) (fun _ => (show _ = Result.ok (Next.value (.bool (s != t))) _ by kernel_rfl).trans (by rw [hst])) ?_
  refine k_pure (by kernel_rfl) (d := (some 44)) (by kernel_rfl) (v := .bool true) (fun _ => by kernel_rfl) ?_
  refine k_pure (by kernel_rfl) (d := (some 45)) (by kernel_rfl) (v := .bool true) (fun _ => by kernel_rfl) ?_
  refine k_pure (by kernel_rfl) (d := (some 2)) (by kernel_rfl) (v := .bool true) (fun _ => by kernel_rfl) ?_
  refine k_end ?_
  have hB5 := nb_trans hB4 hS12
  have F0_5 := nb_heap F0_4 _ hS12
  go_wp2_with fail
  exact bodyPost_ret_by (by kernel_rfl) (by kernel_rfl) ⟨rfl, hB5⟩


theorem tells_c {w : World} {x : Nat} (hm : ModW w) (hx : x < 256 ^ 16) :
    Calls Tryd.prog 4 #[.agg (fpC x)] w fun e w' => e = .returned (.bool true) ∧ Below w.heap.size w w' := by
  cases hl : lowAll [x] with
  | false => exact tells_high hx hl
  | true =>
    have hlow : LowB x := lowAll_iff.1 hl x (by simp)
    have hz : x % pp < 65536 ^ 8 := Nat.lt_trans (Nat.mod_lt _ (by decide +kernel)) (by decide +kernel)
    have hE := fun w : World => eql_digs (P := Tryd.prog) (x := x % pp) (y := 0) Tryd.underlying26 (by kernel_rfl) Tryd.underlying24 hz (by decide) w
    have hT3 : ∀ {w : World}, ModW w → Calls Tryd.prog 18 #[.agg (fpC 0)] w fun e w' => e = .returned (.tuple #[.bool true, .int .i64 0]) ∧ Below w.heap.size w w' := fun h => implTells h (x := 0) (by unfold LowB; decide)
    by_cases h0 : x % pp = 0
    · exact tells_true (r := subN pp x % pp) hm hx hl (fun h => by have := implTells h hlow; rwa [isz_pos h0] at this) (fun h => implTells h (low_mod' _)) hT3
        (fun h => implNeg h hlow rfl) (fun w => of_c w x hx) (fun w => by rw [hE w, decide_eq_true h0])
    · exact tells_false (r := subN pp x % pp) hm hx hl (fun h => by have := implTells h hlow; rwa [isz_neg h0] at this) (fun h => implTells h (low_mod' _)) hT3
        (fun h => implNeg h hlow rfl) (fun w => of_c w x hx) (fun w => by rw [hE w, decide_eq_false h0])
        (by rw [Nat.mod_mod]; exact bne_iff_ne.2 (sgn_neg (Nat.mod_lt _ (by decide +kernel)) h0 (neg_mod hlow h0)))

end Go.Proofs.YtpogbljoohdehaaDoor
