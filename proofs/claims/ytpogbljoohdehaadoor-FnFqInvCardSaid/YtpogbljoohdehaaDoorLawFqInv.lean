/- FnFqInv: whatever pair of elements of 16 bytes: true. -/
import Derived.Test.YtpogbljoohdehaaDoorFqInv
import Derived.Test.YtpogbljoohdehaaDoorLawPower
namespace Go.FourQ

theorem neg_one_pow (j : Nat) : (-(1 : Zp)).pow (2 * j + 1) = -1 := by
  have h2 : (-(1 : Zp)).pow 2 = 1 := by decide +kernel
  rw [zpow_add, ← zpow_mul, h2, zone_pow, zpow_one, zone_mul]
theorem zneg_pow (a : Zp) (j : Nat) : (-a).pow (2 * j + 1) = -(a.pow (2 * j + 1)) := by
  have : -a = -1 * a := by rw [zneg_mul, zone_mul]
  rw [this, zmul_pow, neg_one_pow, zneg_mul, zone_mul]

/-- -1 is no square: a sum of two squares is 0 just where both are. -/
theorem sum_sq {x y : Zp} (h : x * x + y * y = 0) : x = 0 ∧ y = 0 := by
  have hx : x * x = -(y * y) := by
    have := zpR.eq_neg (a := y * y) (b := x * x) (by show y * y + x * x = 0; rw [zadd_comm]; exact h)
    exact this
  by_cases hy : y = 0
  · subst hy
    rw [zmul_zero, zneg_zero] at hx
    exact ⟨(zmul_eq_zero hx).elim id id, rfl⟩
  · exfalso
    have hx0 : x ≠ 0 := fun e => by
      subst e
      rw [zmul_zero] at hx
      have : y * y = 0 := by rw [← zneg_neg (y * y), ← hx, zneg_zero]
      exact zmul_ne hy hy this
    have e := congrArg (fun t : Zp => t.pow (2 * 42535295865117307932921825928971026431 + 1)) hx
    replace e : (x * x).pow (2 * 42535295865117307932921825928971026431 + 1) = (-(y * y)).pow (2 * 42535295865117307932921825928971026431 + 1) := e
    have sq : ∀ t : Zp, t * t = t.pow 2 := fun t => pw_two t
    rw [zneg_pow, sq, sq, zpow_mul, zpow_mul, show 2 * (2 * 42535295865117307932921825928971026431 + 1) = pp - 1 by decide +kernel, zfermat hx0, zfermat hy] at e
    exact absurd e (by decide +kernel)

theorem inv_pair {x y : Zp} (h : x * x + y * y ≠ 0) :
    x * (x * (x * x + y * y).inv) - y * (y * -(x * x + y * y).inv) = 1 ∧ x * (y * -(x * x + y * y).inv) + y * (x * (x * x + y * y).inv) = 0 := by
  have hi := zmul_inv h
  generalize (x * x + y * y).inv = t at *
  constructor
  · rw [← hi]
    exact ring_eq zpR (fun i => [x, y, t].getD i 0) (.sub (.mul (.v 0) (.mul (.v 0) (.v 2))) (.mul (.v 1) (.mul (.v 1) (.neg (.v 2))))) (.mul (.add (.mul (.v 0) (.v 0)) (.mul (.v 1) (.v 1))) (.v 2)) (by kernel_rfl)
  · exact ring_eq zpR (fun i => [x, y, t].getD i 0) (.add (.mul (.v 0) (.mul (.v 1) (.neg (.v 2)))) (.mul (.v 1) (.mul (.v 0) (.v 2)))) (.n 0) (by kernel_rfl)
end Go.FourQ
namespace Go.Proofs.YtpogbljoohdehaaDoor
open Go.RowKit Go.FourQ

theorem fqInv_plan_1 : planOk .any (opsAt Tryd.f11 1) (Array.replicate (opsAt Tryd.f11 1).size false) ((true, 0) :: (true, 1) :: (true, 2) :: (true, 3) :: (false, 4) :: (false, 5) :: (true, 6) :: (true, 7) :: (true, 8) :: (true, 10) :: (false, 9) :: (true, 11) :: (true, 12) :: (true, 13) :: (true, 14) :: (true, 15) :: (false, 16) :: (false, 17) :: (false, 18) :: (true, 19) :: (true, 20) :: (true, 21) :: (true, 22) :: []) = true := by kernel_rfl
set_option maxRecDepth 100000 in
set_option maxHeartbeats 2000000 in
theorem fqInvLaw_high {w : World} {a0 a1 : Nat} (ha0 : a0 < 256 ^ 16) (ha1 : a1 < 256 ^ 16) (hl : lowAll [a0, a1] = false) :
    Calls Tryd.prog 11 #[.agg (fps [a0, a1])] w fun e w' => e = .returned (.bool true) ∧ Below w.heap.size w w' := by
  go_enter Tryd.func11, Tryd.ntmps11
  go_upto_region 1 with (fail)
  have hB : Below w.heap.size w (w.alloc (.cells (fps [a0, a1]) 40)) := nb_alloc (Below.refl _ _) _
  have F0 : (w.alloc (.cells (fps [a0, a1]) 40)).heap[w.heap.size]? = some (.cells (fps [a0, a1]) 40 (0, 0)) := hp1_0 (w := w) (.cells (fps [a0, a1]) 40)
  obtain ⟨W0, hW⟩ : ∃ W0 : World, W0 = (w.alloc (.cells (fps [a0, a1]) 40)) := ⟨_, rfl⟩
  rw [← hW] at hB F0 ⊢
  clear hW
  replace F0 := Lib.hid F0
  refine wp_region_at (opsAt Tryd.f11 1) ((true, 0) :: (true, 1) :: (true, 2) :: (true, 3) :: (false, 4) :: (false, 5) :: (true, 6) :: (true, 7) :: (true, 8) :: (true, 10) :: (false, 9) :: (true, 11) :: (true, 12) :: (true, 13) :: (true, 14) :: (true, 15) :: (false, 16) :: (false, 17) :: (false, 18) :: (true, 19) :: (true, 20) :: (true, 21) :: (true, 22) :: []) (by kernel_rfl) rfl (by kernel_rfl) (fun _ _ d _ _ h => by cases d <;> exact h) (by kernel_rfl) fqInv_plan_1 ?_
  have hS1 : Below W0.heap.size W0 W0.drew := (Below.refl _ _).drew
  refine k_pure (by kernel_rfl) (d := (some 3)) (by kernel_rfl) (v := .pointer (some ⟨w.heap.size, 0, none⟩)) (fun _ => by kernel_rfl) ?_
  refine k_part (by kernel_rfl) (d := (some 4)) (by kernel_rfl) (ty := 22) (x := (.tmp 3)) (by kernel_rfl) (b := w.heap.size) (off := 0) (by kernel_rfl) (all := (fps [a0, a1])) (cs := (fpC a0)) (fun w' hs => ⟨_, nb_heap F0.out w' hs⟩) fps_part0 Tryd.underlying22 rfl (by kernel_rfl) ?_
  refine k_pure (by kernel_rfl) (d := (some 5)) (by kernel_rfl) (v := .pointer (some ⟨w.heap.size, 16, none⟩)) (fun _ => by kernel_rfl) ?_
  refine k_part (by kernel_rfl) (d := (some 6)) (by kernel_rfl) (ty := 22) (x := (.tmp 5)) (by kernel_rfl) (b := w.heap.size) (off := 16) (by kernel_rfl) (all := (fps [a0, a1])) (cs := (fpC a1)) (fun w' hs => ⟨_, nb_heap F0.out w' hs⟩) fps_part1 Tryd.underlying22 rfl (by kernel_rfl) ?_
  refine k_make (by kernel_rfl) (d := (some 7)) (by kernel_rfl) (v := .slice (some ⟨W0.drew.heap.size, 0, none⟩) 2 2) (w' := W0.drew.alloc (.cells (fps [a0, a1]) 22)) (by kernel_rfl) (nb_alloc hS1 _) ?_
  intro w2 hw2 hM2
  refine k_call (by kernel_rfl) (d := (some 8)) (by kernel_rfl) (f := 17) (args := #[.slice (some ⟨W0.drew.heap.size, 0, none⟩) 2 2]) (v := .bool false) (fun _ => by kernel_rfl) (hl ▸ low_c (hw2 ▸ Fps.new _ [a0, a1] _ _ _ rfl rfl) (all2 ha0 ha1) (by show 2 < 1000; decide)) (fun w3 hb3 => ⟨nb_trans hM2 hb3, ?_⟩)
  have hS3 := nb_trans hM2 hb3
  refine k_pure (by kernel_rfl) (d := (some 9)) (by kernel_rfl) (v := .bool true) (fun _ => by kernel_rfl) ?_
  refine k_pure (by kernel_rfl) (d := (some 10)) (by kernel_rfl) (v := .bool true) (fun _ => by kernel_rfl) ?_
  refine k_skip (by kernel_rfl) (d := (some 11)) (by kernel_rfl) ?_
  refine k_skip (by kernel_rfl) (d := (some 13)) (by kernel_rfl) ?_
  refine k_skip' hS3 (by kernel_rfl) (d := (some 12)) (by kernel_rfl) ?_
  refine k_skip (by kernel_rfl) (d := (some 14)) (by kernel_rfl) ?_
  refine k_pure (by kernel_rfl) (d := (some 15)) (by kernel_rfl) (v := .bool true) (fun _ => by kernel_rfl) ?_
  refine k_pure (by kernel_rfl) (d := (some 16)) (by kernel_rfl) (v := .bool true) (fun _ => by kernel_rfl) ?_
  refine k_skip (by kernel_rfl) (d := (some 17)) (by kernel_rfl) ?_
  refine k_skip (by kernel_rfl) (d := (some 18)) (by kernel_rfl) ?_
  refine k_skip' hS3 (by kernel_rfl) (d := (some 19)) (by kernel_rfl) ?_
  refine k_skip' hS3 (by kernel_rfl) (d := (some 20)) (by kernel_rfl) ?_
  refine k_skip' hS3 (by kernel_rfl) (d := (some 21)) (by kernel_rfl) ?_
  refine k_skip (by kernel_rfl) (d := (some 22)) (by kernel_rfl) ?_
  refine k_skip (by kernel_rfl) (d := (some 23)) (by kernel_rfl) ?_
  refine k_pure (by kernel_rfl) (d := (some 24)) (by kernel_rfl) (v := .bool true) (fun _ => by kernel_rfl) ?_
  refine k_pure (by kernel_rfl) (d := (some 2)) (by kernel_rfl) (v := .bool true) (fun _ => by kernel_rfl) ?_
  refine k_end ?_
  clear hw2
  go_simp
  have hB1 := nb_trans hB hS3
  have F0_1 := Lib.hid (nb_heap F0.out _ hS3)
  go_wp2_with fail
  exact bodyPost_ret_by (by kernel_rfl) (by kernel_rfl) ⟨rfl, hB1⟩

set_option maxRecDepth 100000 in
set_option maxHeartbeats 2000000 in
theorem fqInvLaw_true {w : World} {a0 a1 : Nat} {X0 X1 : Zp} (ha0 : a0 < 256 ^ 16) (ha1 : a1 < 256 ^ 16) (hl : lowAll [a0, a1] = true)
    (O1 : ∀ {w : World}, Calls Tryd.prog 25 #[.agg (fps [a0, a1])] w fun e w' => e = .returned (.agg (dgQ X0.val X1.val)) ∧ Below w.heap.size w w')
    (E1 : ∀ w : World, (binOp .eql 44 (.agg (dgQ X0.val X1.val)) (.agg (dgQ 0 0))).run Tryd.prog w = .ok (.bool true) w) :
    Calls Tryd.prog 11 #[.agg (fps [a0, a1])] w fun e w' => e = .returned (.bool true) ∧ Below w.heap.size w w' := by
  go_enter Tryd.func11, Tryd.ntmps11
  go_upto_region 1 with (fail)
  have hB : Below w.heap.size w (w.alloc (.cells (fps [a0, a1]) 40)) := nb_alloc (Below.refl _ _) _
  have F0 : (w.alloc (.cells (fps [a0, a1]) 40)).heap[w.heap.size]? = some (.cells (fps [a0, a1]) 40 (0, 0)) := hp1_0 (w := w) (.cells (fps [a0, a1]) 40)
  obtain ⟨W0, hW⟩ : ∃ W0 : World, W0 = (w.alloc (.cells (fps [a0, a1]) 40)) := ⟨_, rfl⟩
  rw [← hW] at hB F0 ⊢
  clear hW
  replace F0 := Lib.hid F0
  refine wp_region_at (opsAt Tryd.f11 1) ((true, 0) :: (true, 1) :: (true, 2) :: (true, 3) :: (false, 4) :: (false, 5) :: (true, 6) :: (true, 7) :: (true, 8) :: (true, 10) :: (false, 9) :: (true, 11) :: (true, 12) :: (true, 13) :: (true, 14) :: (true, 15) :: (false, 16) :: (false, 17) :: (false, 18) :: (true, 19) :: (true, 20) :: (true, 21) :: (true, 22) :: []) (by kernel_rfl) rfl (by kernel_rfl) (fun _ _ d _ _ h => by cases d <;> exact h) (by kernel_rfl) fqInv_plan_1 ?_
  have hS1 : Below W0.heap.size W0 W0.drew := (Below.refl _ _).drew
  refine k_pure (by kernel_rfl) (d := (some 3)) (by kernel_rfl) (v := .pointer (some ⟨w.heap.size, 0, none⟩)) (fun _ => by kernel_rfl) ?_
  refine k_part (by kernel_rfl) (d := (some 4)) (by kernel_rfl) (ty := 22) (x := (.tmp 3)) (by kernel_rfl) (b := w.heap.size) (off := 0) (by kernel_rfl) (all := (fps [a0, a1])) (cs := (fpC a0)) (fun w' hs => ⟨_, nb_heap F0.out w' hs⟩) fps_part0 Tryd.underlying22 rfl (by kernel_rfl) ?_
  refine k_pure (by kernel_rfl) (d := (some 5)) (by kernel_rfl) (v := .pointer (some ⟨w.heap.size, 16, none⟩)) (fun _ => by kernel_rfl) ?_
  refine k_part (by kernel_rfl) (d := (some 6)) (by kernel_rfl) (ty := 22) (x := (.tmp 5)) (by kernel_rfl) (b := w.heap.size) (off := 16) (by kernel_rfl) (all := (fps [a0, a1])) (cs := (fpC a1)) (fun w' hs => ⟨_, nb_heap F0.out w' hs⟩) fps_part1 Tryd.underlying22 rfl (by kernel_rfl) ?_
  refine k_make (by kernel_rfl) (d := (some 7)) (by kernel_rfl) (v := .slice (some ⟨W0.drew.heap.size, 0, none⟩) 2 2) (w' := W0.drew.alloc (.cells (fps [a0, a1]) 22)) (by kernel_rfl) (nb_alloc hS1 _) ?_
  intro w2 hw2 hM2
  refine k_call (by kernel_rfl) (d := (some 8)) (by kernel_rfl) (f := 17) (args := #[.slice (some ⟨W0.drew.heap.size, 0, none⟩) 2 2]) (v := .bool true) (fun _ => by kernel_rfl) (hl ▸ low_c (hw2 ▸ Fps.new _ [a0, a1] _ _ _ rfl rfl) (all2 ha0 ha1) (by show 2 < 1000; decide)) (fun w3 hb3 => ⟨nb_trans hM2 hb3, ?_⟩)
  have hS3 := nb_trans hM2 hb3
  refine k_pure (by kernel_rfl) (d := (some 9)) (by kernel_rfl) (v := .bool false) (fun _ => by kernel_rfl) ?_
  refine k_pure (by kernel_rfl) (d := (some 10)) (by kernel_rfl) (v := .bool false) (fun _ => by kernel_rfl) ?_
  refine k_row (by kernel_rfl) (d := (some 11)) (by kernel_rfl) (ty := 40) (x := (.tmp 1)) (by kernel_rfl) (b := w.heap.size) (by kernel_rfl) (cs := (fps [a0, a1])) (fun w' hs => ⟨_, nb_heap F0.out w' hs⟩) Tryd.underlying40 rfl (by kernel_rfl) ?_
  refine k_pure (by kernel_rfl) (d := (some 13)) (by kernel_rfl) (v := .agg (dgQ 0 0)) (fun _ => by kernel_rfl) ?_
  refine k_call (by kernel_rfl) (d := (some 12)) (by kernel_rfl) (f := 25) (args := #[.agg (fps [a0, a1])]) (v := .agg (dgQ X0.val X1.val)) (fun _ => by kernel_rfl) (O1) (fun w4 hb4 => ⟨nb_trans hS3 hb4, ?_⟩)
  have hS4 := nb_trans hS3 hb4
  refine k_eql (by kernel_rfl) (d := (some 14)) (by kernel_rfl) (ty := 44) (ty' := 44) (x := (.tmp 12)) (y := (.tmp 13)) (by kernel_rfl) (xs := (dgQ X0.val X1.val)) (ys := (dgQ 0 0)) (b := true) (by kernel_rfl) (by kernel_rfl) (by kernel_rfl) E1 ?_
  refine k_pure (by kernel_rfl) (d := (some 15)) (by kernel_rfl) (v := .bool true) (fun _ => by kernel_rfl) ?_
  refine k_pure (by kernel_rfl) (d := (some 16)) (by kernel_rfl) (v := .bool true) (fun _ => by kernel_rfl) ?_
  refine k_skip (by kernel_rfl) (d := (some 17)) (by kernel_rfl) ?_
  refine k_skip (by kernel_rfl) (d := (some 18)) (by kernel_rfl) ?_
  refine k_skip' hS4 (by kernel_rfl) (d := (some 19)) (by kernel_rfl) ?_
  refine k_skip' hS4 (by kernel_rfl) (d := (some 20)) (by kernel_rfl) ?_
  refine k_skip' hS4 (by kernel_rfl) (d := (some 21)) (by kernel_rfl) ?_
  refine k_skip (by kernel_rfl) (d := (some 22)) (by kernel_rfl) ?_
  refine k_skip (by kernel_rfl) (d := (some 23)) (by kernel_rfl) ?_
  refine k_pure (by kernel_rfl) (d := (some 24)) (by kernel_rfl) (v := .bool true) (fun _ => by kernel_rfl) ?_
  refine k_pure (by kernel_rfl) (d := (some 2)) (by kernel_rfl) (v := .bool true) (fun _ => by kernel_rfl) ?_
  refine k_end ?_
  clear hw2
  go_simp
  have hB1 := nb_trans hB hS4
  have F0_1 := Lib.hid (nb_heap F0.out _ hS4)
  go_wp2_with fail
  exact bodyPost_ret_by (by kernel_rfl) (by kernel_rfl) ⟨rfl, hB1⟩

set_option maxRecDepth 100000 in
set_option maxHeartbeats 2000000 in
theorem fqInvLaw_false {w : World} {a0 a1 : Nat} {X0 X1 i0 i1 : Zp} (hm : ModW w) (ha0 : a0 < 256 ^ 16) (ha1 : a1 < 256 ^ 16) (hl : lowAll [a0, a1] = true)
    (O1 : ∀ {w : World}, Calls Tryd.prog 25 #[.agg (fps [a0, a1])] w fun e w' => e = .returned (.agg (dgQ X0.val X1.val)) ∧ Below w.heap.size w w')
    (I1 : ∀ {w : World}, ModW w → Calls Tryd.prog 47 #[.agg (fps [a0, a1])] w fun e w' => e = .returned (.agg (fps [i0.val, i1.val])) ∧ Below w.heap.size w w')
    (M1 : ∀ {w : World}, ModW w → Calls Tryd.prog 41 #[.agg (fps [a0, a1]), .agg (fps [i0.val, i1.val])] w fun e w' => e = .returned (.agg (fps [1, 0])) ∧ Below w.heap.size w w')
    (E1 : ∀ w : World, (binOp .eql 44 (.agg (dgQ X0.val X1.val)) (.agg (dgQ 0 0))).run Tryd.prog w = .ok (.bool false) w) :
    Calls Tryd.prog 11 #[.agg (fps [a0, a1])] w fun e w' => e = .returned (.bool true) ∧ Below w.heap.size w w' := by
  go_enter Tryd.func11, Tryd.ntmps11
  go_upto_region 1 with (fail)
  have hB : Below w.heap.size w (w.alloc (.cells (fps [a0, a1]) 40)) := nb_alloc (Below.refl _ _) _
  have F0 : (w.alloc (.cells (fps [a0, a1]) 40)).heap[w.heap.size]? = some (.cells (fps [a0, a1]) 40 (0, 0)) := hp1_0 (w := w) (.cells (fps [a0, a1]) 40)
  obtain ⟨W0, hW⟩ : ∃ W0 : World, W0 = (w.alloc (.cells (fps [a0, a1]) 40)) := ⟨_, rfl⟩
  rw [← hW] at hB F0 ⊢
  clear hW
  replace F0 := Lib.hid F0
  refine wp_region_at (opsAt Tryd.f11 1) ((true, 0) :: (true, 1) :: (true, 2) :: (true, 3) :: (false, 4) :: (false, 5) :: (true, 6) :: (true, 7) :: (true, 8) :: (true, 10) :: (false, 9) :: (true, 11) :: (true, 12) :: (true, 13) :: (true, 14) :: (true, 15) :: (false, 16) :: (false, 17) :: (false, 18) :: (true, 19) :: (true, 20) :: (true, 21) :: (true, 22) :: []) (by kernel_rfl) rfl (by kernel_rfl) (fun _ _ d _ _ h => by cases d <;> exact h) (by kernel_rfl) fqInv_plan_1 ?_
  have hS1 : Below W0.heap.size W0 W0.drew := (Below.refl _ _).drew
  refine k_pure (by kernel_rfl) (d := (some 3)) (by kernel_rfl) (v := .pointer (some ⟨w.heap.size, 0, none⟩)) (fun _ => by kernel_rfl) ?_
  refine k_part (by kernel_rfl) (d := (some 4)) (by kernel_rfl) (ty := 22) (x := (.tmp 3)) (by kernel_rfl) (b := w.heap.size) (off := 0) (by kernel_rfl) (all := (fps [a0, a1])) (cs := (fpC a0)) (fun w' hs => ⟨_, nb_heap F0.out w' hs⟩) fps_part0 Tryd.underlying22 rfl (by kernel_rfl) ?_
  refine k_pure (by kernel_rfl) (d := (some 5)) (by kernel_rfl) (v := .pointer (some ⟨w.heap.size, 16, none⟩)) (fun _ => by kernel_rfl) ?_
  refine k_part (by kernel_rfl) (d := (some 6)) (by kernel_rfl) (ty := 22) (x := (.tmp 5)) (by kernel_rfl) (b := w.heap.size) (off := 16) (by kernel_rfl) (all := (fps [a0, a1])) (cs := (fpC a1)) (fun w' hs => ⟨_, nb_heap F0.out w' hs⟩) fps_part1 Tryd.underlying22 rfl (by kernel_rfl) ?_
  refine k_make (by kernel_rfl) (d := (some 7)) (by kernel_rfl) (v := .slice (some ⟨W0.drew.heap.size, 0, none⟩) 2 2) (w' := W0.drew.alloc (.cells (fps [a0, a1]) 22)) (by kernel_rfl) (nb_alloc hS1 _) ?_
  intro w2 hw2 hM2
  refine k_call (by kernel_rfl) (d := (some 8)) (by kernel_rfl) (f := 17) (args := #[.slice (some ⟨W0.drew.heap.size, 0, none⟩) 2 2]) (v := .bool true) (fun _ => by kernel_rfl) (hl ▸ low_c (hw2 ▸ Fps.new _ [a0, a1] _ _ _ rfl rfl) (all2 ha0 ha1) (by show 2 < 1000; decide)) (fun w3 hb3 => ⟨nb_trans hM2 hb3, ?_⟩)
  have hS3 := nb_trans hM2 hb3
  refine k_pure (by kernel_rfl) (d := (some 9)) (by kernel_rfl) (v := .bool false) (fun _ => by kernel_rfl) ?_
  refine k_pure (by kernel_rfl) (d := (some 10)) (by kernel_rfl) (v := .bool false) (fun _ => by kernel_rfl) ?_
  refine k_row (by kernel_rfl) (d := (some 11)) (by kernel_rfl) (ty := 40) (x := (.tmp 1)) (by kernel_rfl) (b := w.heap.size) (by kernel_rfl) (cs := (fps [a0, a1])) (fun w' hs => ⟨_, nb_heap F0.out w' hs⟩) Tryd.underlying40 rfl (by kernel_rfl) ?_
  refine k_pure (by kernel_rfl) (d := (some 13)) (by kernel_rfl) (v := .agg (dgQ 0 0)) (fun _ => by kernel_rfl) ?_
  refine k_call (by kernel_rfl) (d := (some 12)) (by kernel_rfl) (f := 25) (args := #[.agg (fps [a0, a1])]) (v := .agg (dgQ X0.val X1.val)) (fun _ => by kernel_rfl) (O1) (fun w4 hb4 => ⟨nb_trans hS3 hb4, ?_⟩)
  have hS4 := nb_trans hS3 hb4
  refine k_eql (by kernel_rfl) (d := (some 14)) (by kernel_rfl) (ty := 44) (ty' := 44) (x := (.tmp 12)) (y := (.tmp 13)) (by kernel_rfl) (xs := (dgQ X0.val X1.val)) (ys := (dgQ 0 0)) (b := false) (by kernel_rfl) (by kernel_rfl) (by kernel_rfl) E1 ?_
  refine k_pure (by kernel_rfl) (d := (some 15)) (by kernel_rfl) (v := .bool false) (fun _ => by kernel_rfl) ?_
  refine k_pure (by kernel_rfl) (d := (some 16)) (by kernel_rfl) (v := .bool false) (fun _ => by kernel_rfl) ?_
  refine k_row (by kernel_rfl) (d := (some 17)) (by kernel_rfl) (ty := 40) (x := (.tmp 1)) (by kernel_rfl) (b := w.heap.size) (by kernel_rfl) (cs := (fps [a0, a1])) (fun w' hs => ⟨_, nb_heap F0.out w' hs⟩) Tryd.underlying40 rfl (by kernel_rfl) ?_
  refine k_row (by kernel_rfl) (d := (some 18)) (by kernel_rfl) (ty := 40) (x := (.tmp 1)) (by kernel_rfl) (b := w.heap.size) (by kernel_rfl) (cs := (fps [a0, a1])) (fun w' hs => ⟨_, nb_heap F0.out w' hs⟩) Tryd.underlying40 rfl (by kernel_rfl) ?_
  refine k_call (by kernel_rfl) (d := (some 19)) (by kernel_rfl) (f := 47) (args := #[.agg (fps [a0, a1])]) (v := .agg (fps [i0.val, i1.val])) (fun _ => by kernel_rfl) (I1 (hm.nb (nb_trans hB hS4))) (fun w5 hb5 => ⟨nb_trans hS4 hb5, ?_⟩)
  have hS5 := nb_trans hS4 hb5
  refine k_call (by kernel_rfl) (d := (some 20)) (by kernel_rfl) (f := 41) (args := #[.agg (fps [a0, a1]), .agg (fps [i0.val, i1.val])]) (v := .agg (fps [1, 0])) (fun _ => by kernel_rfl) (M1 (hm.nb (nb_trans hB hS5))) (fun w6 hb6 => ⟨nb_trans hS5 hb6, ?_⟩)
  have hS6 := nb_trans hS5 hb6
  refine k_call (by kernel_rfl) (d := (some 21)) (by kernel_rfl) (f := 22) (args := #[]) (v := .agg (fpC 1)) (fun _ => by kernel_rfl) (unit_c) (fun w7 hb7 => ⟨nb_trans hS6 hb7, ?_⟩)
  have hS7 := nb_trans hS6 hb7
  refine k_pure (by kernel_rfl) (d := (some 22)) (by kernel_rfl) (v := .agg (fps [1, 0])) (fun _ => by kernel_rfl) ?_
  refine k_eql (by kernel_rfl) (d := (some 23)) (by kernel_rfl) (ty := 40) (ty' := 40) (x := (.tmp 20)) (y := (.tmp 22)) (by kernel_rfl) (xs := (fps [1, 0])) (ys := (fps [1, 0])) (b := true) (by kernel_rfl) (by kernel_rfl) (by kernel_rfl) (fun w' => (eql_fps Tryd.underlying40 Tryd.underlying22 (by kernel_rfl) (by kernel_rfl) Tryd.underlying5 (by decide) (by decide) (by decide) (by decide) w').trans (by rw [decide_eq_true rfl, decide_eq_true rfl]; rfl)) ?_
  refine k_pure (by kernel_rfl) (d := (some 24)) (by kernel_rfl) (v := .bool true) (fun _ => by kernel_rfl) ?_
  refine k_pure (by kernel_rfl) (d := (some 2)) (by kernel_rfl) (v := .bool true) (fun _ => by kernel_rfl) ?_
  refine k_end ?_
  clear hw2
  go_simp
  have hB1 := nb_trans hB hS7
  have F0_1 := Lib.hid (nb_heap F0.out _ hS7)
  go_wp2_with fail
  exact bodyPost_ret_by (by kernel_rfl) (by kernel_rfl) ⟨rfl, hB1⟩


theorem fqInvLaw_c {w : World} {a0 a1 : Nat} (hm : ModW w) (ha0 : a0 < 256 ^ 16) (ha1 : a1 < 256 ^ 16) :
    Calls Tryd.prog 11 #[.agg (fps [a0, a1])] w fun e w' => e = .returned (.bool true) ∧ Below w.heap.size w w' := by
  cases hl : lowAll [a0, a1] with
  | false => exact fqInvLaw_high ha0 ha1 hl
  | true =>
    have h := lowAll_iff.1 hl
    have la0 : LowB a0 := h a0 (by simp)
    have la1 : LowB a1 := h a1 (by simp)
    have hE := fun w : World => eql_dgQ (P := Tryd.prog) (x := (zp a0).val) (y := (zp a1).val) (x' := 0) (y' := 0) Tryd.underlying44 Tryd.underlying26 (by kernel_rfl) (by kernel_rfl) Tryd.underlying24 (val_lt8 _) (val_lt8 _) (by decide) (by decide) w
    by_cases h0 : zp a0 = 0 ∧ zp a1 = 0
    · refine fqInvLaw_true (X0 := zp a0) (X1 := zp a1) ha0 ha1 hl (ofQ_c ha0 ha1) (fun w => ?_)
      rw [hE w, h0.1, h0.2, val_zero, decide_eq_true rfl]; rfl
    · have hs : zp a0 * zp a0 + zp a1 * zp a1 ≠ 0 := fun e => h0 (sum_sq e)
      obtain ⟨e0, e1⟩ := inv_pair hs
      refine fqInvLaw_false (X0 := zp a0) (X1 := zp a1) hm ha0 ha1 hl (ofQ_c ha0 ha1) (fun h => implFqInv h la0 la1) (fun h => ?_) (fun w => ?_)
      · have := implFqMul h la0 la1 (low_val (zp a0 * (zp a0 * zp a0 + zp a1 * zp a1).inv)) (low_val (zp a1 * -(zp a0 * zp a0 + zp a1 * zp a1).inv))
        rwa [zp_val, zp_val, e0, e1, val_one, val_zero] at this
      · rw [hE w]
        have : (decide ((zp a0).val = 0) && decide ((zp a1).val = 0)) = false := by
          rw [← Bool.not_eq_true, Bool.and_eq_true, decide_eq_true_eq, decide_eq_true_eq]
          exact fun q => h0 ⟨Zp.ext q.1, Zp.ext q.2⟩
        rw [this]

end Go.Proofs.YtpogbljoohdehaaDoor
