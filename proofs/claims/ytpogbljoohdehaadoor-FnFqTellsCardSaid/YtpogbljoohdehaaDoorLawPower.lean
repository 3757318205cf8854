/- FnFpPower: whatever element of 16 bytes: true. -/
import Derived.Test.YtpogbljoohdehaaDoorImpl
import Derived.Test.YtpogbljoohdehaaDoorPower
import Derived.Test.YtpogbljoohdehaaDoorLawKit3
namespace Go.Proofs.YtpogbljoohdehaaDoor
open Go.RowKit Go.FourQ

theorem power_plan_1 : planOk .any (opsAt Tryd.f8 1) (Array.replicate (opsAt Tryd.f8 1).size false) ((true, 0) :: (false, 1) :: (false, 2) :: (true, 3) :: (true, 4) :: (true, 5) :: (true, 7) :: (false, 6) :: (false, 8) :: (false, 9) :: (false, 10) :: (true, 11) :: (false, 12) :: (false, 13) :: (false, 14) :: (true, 15) :: (true, 16) :: (true, 17) :: (true, 18) :: []) = true := by kernel_rfl
set_option maxRecDepth 100000 in
set_option maxHeartbeats 2000000 in
theorem powerLaw_high {w : World} {x : Nat} (hx : x < 256 ^ 16) (hl : lowAll [x] = false) :
    Calls Tryd.prog 8 #[.agg (fpC x)] w fun e w' => e = .returned (.bool true) ∧ Below w.heap.size w w' := by
  go_enter Tryd.func8, Tryd.ntmps8
  go_upto_region 1 with (fail)
  have hB : Below w.heap.size w (w.alloc (.cells (fpC x) 22)) := nb_alloc (Below.refl _ _) _
  have F0 : (w.alloc (.cells (fpC x) 22)).heap[w.heap.size]? = some (.cells (fpC x) 22 (0, 0)) := hp1_0 (w := w) (.cells (fpC x) 22)
  obtain ⟨W0, hW⟩ : ∃ W0 : World, W0 = (w.alloc (.cells (fpC x) 22)) := ⟨_, rfl⟩
  rw [← hW] at hB F0 ⊢
  clear hW
  replace F0 := Lib.hid F0
  refine wp_region_at (opsAt Tryd.f8 1) ((true, 0) :: (false, 1) :: (false, 2) :: (true, 3) :: (true, 4) :: (true, 5) :: (true, 7) :: (false, 6) :: (false, 8) :: (false, 9) :: (false, 10) :: (true, 11) :: (false, 12) :: (false, 13) :: (false, 14) :: (true, 15) :: (true, 16) :: (true, 17) :: (true, 18) :: []) (by kernel_rfl) rfl (by kernel_rfl) (fun _ _ d _ _ h => by cases d <;> exact h) (by kernel_rfl) power_plan_1 ?_
  have hS1 : Below W0.heap.size W0 W0.drew := (Below.refl _ _).drew
  refine k_row (by kernel_rfl) (d := (some 3)) (by kernel_rfl) (ty := 22) (x := (.tmp 1)) (by kernel_rfl) (b := w.heap.size) (by kernel_rfl) (cs := (fpC x)) (fun w' hs => ⟨_, nb_heap F0.out w' hs⟩) Tryd.underlying22 rfl (by kernel_rfl) ?_
  refine k_make (by kernel_rfl) (d := (some 4)) (by kernel_rfl) (v := .slice (some ⟨W0.drew.heap.size, 0, none⟩) 1 1) (w' := W0.drew.alloc (.cells (fps [x]) 22)) (by kernel_rfl) (nb_alloc hS1 _) ?_
  intro w2 hw2 hM2
  refine k_call (by kernel_rfl) (d := (some 5)) (by kernel_rfl) (f := 17) (args := #[.slice (some ⟨W0.drew.heap.size, 0, none⟩) 1 1]) (v := .bool false) (fun _ => by kernel_rfl) (hl ▸ low_c (hw2 ▸ Fps.new _ [x] _ _ _ rfl rfl) (all1 hx) (by show 1 < 1000; decide)) (fun w3 hb3 => ⟨nb_trans hM2 hb3, ?_⟩)
  have hS3 := nb_trans hM2 hb3
  refine k_pure (by kernel_rfl) (d := (some 6)) (by kernel_rfl) (v := .bool true) (fun _ => by kernel_rfl) ?_
  refine k_pure (by kernel_rfl) (d := (some 7)) (by kernel_rfl) (v := .bool true) (fun _ => by kernel_rfl) ?_
  refine k_skip (by kernel_rfl) (d := (some 8)) (by kernel_rfl) ?_
  refine k_skip (by kernel_rfl) (d := (some 10)) (by kernel_rfl) ?_
  refine k_skip' hS3 (by kernel_rfl) (d := (some 9)) (by kernel_rfl) ?_
  refine k_skip' hS3 (by kernel_rfl) (d := (some 11)) (by kernel_rfl) ?_
  refine k_skip' hS3 (by kernel_rfl) (d := (some 12)) (by kernel_rfl) ?_
  refine k_skip' hS3 (by kernel_rfl) (d := (some 13)) (by kernel_rfl) ?_
  refine k_skip (by kernel_rfl) (d := (some 14)) (by kernel_rfl) ?_
  refine k_skip' hS3 (by kernel_rfl) (d := (some 15)) (by kernel_rfl) ?_
  refine k_skip' hS3 (by kernel_rfl) (d := (some 16)) (by kernel_rfl) ?_
  refine k_skip' hS3 (by kernel_rfl) (d := (some 17)) (by kernel_rfl) ?_
  refine k_skip (by kernel_rfl) (d := (some 18)) (by kernel_rfl) ?_
  refine k_skip (by kernel_rfl) (d := (some 19)) (by kernel_rfl) ?_
  refine k_pure (by kernel_rfl) (d := (some 20)) (by kernel_rfl) (v := .bool true) (fun _ => by kernel_rfl) ?_
  refine k_pure (by kernel_rfl) (d := (some 2)) (by kernel_rfl) (v := .bool true) (fun _ => by kernel_rfl) ?_
  refine k_end ?_
  clear hw2
  go_simp
  have hB1 := nb_trans hB hS3
  have F0_1 := Lib.hid (nb_heap F0.out _ hS3)
  go_wp2_with fail
  exact bodyPost_ret_by (by kernel_rfl) (by kernel_rfl) ⟨rfl, hB1⟩

set_option maxRecDepth 100000 in
set_option maxHeartbeats 2000000 in
theorem powerLaw_low {w : World} {x X s : Nat} (hm : ModW w) (hx : x < 256 ^ 16) (hl : lowAll [x] = true) (ls : LowB s)
    (T1 : ∀ {w : World}, ModW w → Calls Tryd.prog 35 #[.agg (fpC x)] w fun e w' => e = .returned (.agg (fpC s)) ∧ Below w.heap.size w w')
    (O1 : ∀ {w : World}, Calls Tryd.prog 14 #[.agg (fpC x)] w fun e w' => e = .returned (.agg (dgA (digs 8 X))) ∧ Below w.heap.size w w')
    (T2 : ∀ {w : World}, Calls Tryd.prog 36 #[.agg (dgA (digs 8 X))] w fun e w' => e = .returned (.agg (dgA (digs 8 s))) ∧ Below w.heap.size w w')
    (T3 : ∀ {w : World}, ModW w → Calls Tryd.prog 35 #[.agg (fpC 1)] w fun e w' => e = .returned (.agg (fpC 1)) ∧ Below w.heap.size w w') :
    Calls Tryd.prog 8 #[.agg (fpC x)] w fun e w' => e = .returned (.bool true) ∧ Below w.heap.size w w' := by
  go_enter Tryd.func8, Tryd.ntmps8
  go_upto_region 1 with (fail)
  have hB : Below w.heap.size w (w.alloc (.cells (fpC x) 22)) := nb_alloc (Below.refl _ _) _
  have F0 : (w.alloc (.cells (fpC x) 22)).heap[w.heap.size]? = some (.cells (fpC x) 22 (0, 0)) := hp1_0 (w := w) (.cells (fpC x) 22)
  obtain ⟨W0, hW⟩ : ∃ W0 : World, W0 = (w.alloc (.cells (fpC x) 22)) := ⟨_, rfl⟩
  rw [← hW] at hB F0 ⊢
  clear hW
  replace F0 := Lib.hid F0
  refine wp_region_at (opsAt Tryd.f8 1) ((true, 0) :: (false, 1) :: (false, 2) :: (true, 3) :: (true, 4) :: (true, 5) :: (true, 7) :: (false, 6) :: (false, 8) :: (false, 9) :: (false, 10) :: (true, 11) :: (false, 12) :: (false, 13) :: (false, 14) :: (true, 15) :: (true, 16) :: (true, 17) :: (true, 18) :: []) (by kernel_rfl) rfl (by kernel_rfl) (fun _ _ d _ _ h => by cases d <;> exact h) (by kernel_rfl) power_plan_1 ?_
  have hS1 : Below W0.heap.size W0 W0.drew := (Below.refl _ _).drew
  refine k_row (by kernel_rfl) (d := (some 3)) (by kernel_rfl) (ty := 22) (x := (.tmp 1)) (by kernel_rfl) (b := w.heap.size) (by kernel_rfl) (cs := (fpC x)) (fun w' hs => ⟨_, nb_heap F0.out w' hs⟩) Tryd.underlying22 rfl (by kernel_rfl) ?_
  refine k_make (by kernel_rfl) (d := (some 4)) (by kernel_rfl) (v := .slice (some ⟨W0.drew.heap.size, 0, none⟩) 1 1) (w' := W0.drew.alloc (.cells (fps [x]) 22)) (by kernel_rfl) (nb_alloc hS1 _) ?_
  intro w2 hw2 hM2
  refine k_call (by kernel_rfl) (d := (some 5)) (by kernel_rfl) (f := 17) (args := #[.slice (some ⟨W0.drew.heap.size, 0, none⟩) 1 1]) (v := .bool true) (fun _ => by kernel_rfl) (hl ▸ low_c (hw2 ▸ Fps.new _ [x] _ _ _ rfl rfl) (all1 hx) (by show 1 < 1000; decide)) (fun w3 hb3 => ⟨nb_trans hM2 hb3, ?_⟩)
  have hS3 := nb_trans hM2 hb3
  refine k_pure (by kernel_rfl) (d := (some 6)) (by kernel_rfl) (v := .bool false) (fun _ => by kernel_rfl) ?_
  refine k_pure (by kernel_rfl) (d := (some 7)) (by kernel_rfl) (v := .bool false) (fun _ => by kernel_rfl) ?_
  refine k_row (by kernel_rfl) (d := (some 8)) (by kernel_rfl) (ty := 22) (x := (.tmp 1)) (by kernel_rfl) (b := w.heap.size) (by kernel_rfl) (cs := (fpC x)) (fun w' hs => ⟨_, nb_heap F0.out w' hs⟩) Tryd.underlying22 rfl (by kernel_rfl) ?_
  refine k_row (by kernel_rfl) (d := (some 10)) (by kernel_rfl) (ty := 22) (x := (.tmp 1)) (by kernel_rfl) (b := w.heap.size) (by kernel_rfl) (cs := (fpC x)) (fun w' hs => ⟨_, nb_heap F0.out w' hs⟩) Tryd.underlying22 rfl (by kernel_rfl) ?_
  refine k_call (by kernel_rfl) (d := (some 9)) (by kernel_rfl) (f := 35) (args := #[.agg (fpC x)]) (v := .agg (fpC s)) (fun _ => by kernel_rfl) (T1 (hm.nb (nb_trans hB hS3))) (fun w4 hb4 => ⟨nb_trans hS3 hb4, ?_⟩)
  have hS4 := nb_trans hS3 hb4
  refine k_call (by kernel_rfl) (d := (some 11)) (by kernel_rfl) (f := 14) (args := #[.agg (fpC x)]) (v := .agg (dgA (digs 8 X))) (fun _ => by kernel_rfl) (O1) (fun w5 hb5 => ⟨nb_trans hS4 hb5, ?_⟩)
  have hS5 := nb_trans hS4 hb5
  refine k_call (by kernel_rfl) (d := (some 12)) (by kernel_rfl) (f := 36) (args := #[.agg (dgA (digs 8 X))]) (v := .agg (dgA (digs 8 s))) (fun _ => by kernel_rfl) (T2) (fun w6 hb6 => ⟨nb_trans hS5 hb6, ?_⟩)
  have hS6 := nb_trans hS5 hb6
  refine k_call (by kernel_rfl) (d := (some 13)) (by kernel_rfl) (f := 13) (args := #[.agg (fpC s), .agg (dgA (digs 8 s))]) (v := .bool true) (fun _ => by kernel_rfl) (is_true rfl ls) (fun w7 hb7 => ⟨nb_trans hS6 hb7, ?_⟩)
  have hS7 := nb_trans hS6 hb7
  refine k_pure (by kernel_rfl) (d := (some 14)) (by kernel_rfl) (v := .bool true) (fun _ => by kernel_rfl) ?_
  refine k_call (by kernel_rfl) (d := (some 15)) (by kernel_rfl) (f := 22) (args := #[]) (v := .agg (fpC 1)) (fun _ => by kernel_rfl) (unit_c) (fun w8 hb8 => ⟨nb_trans hS7 hb8, ?_⟩)
  have hS8 := nb_trans hS7 hb8
  refine k_call (by kernel_rfl) (d := (some 16)) (by kernel_rfl) (f := 35) (args := #[.agg (fpC 1)]) (v := .agg (fpC 1)) (fun _ => by kernel_rfl) (T3 (hm.nb (nb_trans hB hS8))) (fun w9 hb9 => ⟨nb_trans hS8 hb9, ?_⟩)
  have hS9 := nb_trans hS8 hb9
  refine k_call (by kernel_rfl) (d := (some 17)) (by kernel_rfl) (f := 22) (args := #[]) (v := .agg (fpC 1)) (fun _ => by kernel_rfl) (unit_c) (fun w10 hb10 => ⟨nb_trans hS9 hb10, ?_⟩)
  have hS10 := nb_trans hS9 hb10
  refine k_eql (by kernel_rfl) (d := (some 18)) (by kernel_rfl) (ty := 22) (ty' := 22) (x := (.tmp 16)) (y := (.tmp 17)) (by kernel_rfl) (xs := (fpC 1)) (ys := (fpC 1)) (b := true) (by kernel_rfl) (by kernel_rfl) (by kernel_rfl) (fun w' => (eql_fpC Tryd.underlying22 (by kernel_rfl) Tryd.underlying5 (low16 low_one) (low16 low_one) w').trans (by rw [decide_eq_true rfl])) ?_
  refine k_pure (by kernel_rfl) (d := (some 19)) (by kernel_rfl) (v := .bool true) (fun _ => by kernel_rfl) ?_
  refine k_pure (by kernel_rfl) (d := (some 20)) (by kernel_rfl) (v := .bool true) (fun _ => by kernel_rfl) ?_
  refine k_pure (by kernel_rfl) (d := (some 2)) (by kernel_rfl) (v := .bool true) (fun _ => by kernel_rfl) ?_
  refine k_end ?_
  clear hw2
  go_simp
  have hB1 := nb_trans hB hS10
  have F0_1 := Lib.hid (nb_heap F0.out _ hS10)
  go_wp2_with fail
  exact bodyPost_ret_by (by kernel_rfl) (by kernel_rfl) ⟨rfl, hB1⟩


theorem low_val (a : Zp) : LowB a.val := Nat.lt_trans a.lt (by decide +kernel)

theorem powerLaw_c {w : World} {x : Nat} (hm : ModW w) (hx : x < 256 ^ 16) :
    Calls Tryd.prog 8 #[.agg (fpC x)] w fun e w' => e = .returned (.bool true) ∧ Below w.heap.size w w' := by
  cases hl : lowAll [x] with
  | false => exact powerLaw_high hx hl
  | true =>
    have lx : LowB x := lowAll_iff.1 hl x (by simp)
    have b8 : x % pp < 65536 ^ 8 := Nat.lt_trans (Nat.mod_lt _ (by decide +kernel)) (by decide +kernel)
    refine powerLaw_low (X := x % pp) (s := ((zp x).pow 42535295865117307932921825928971026431).val) hm hx hl (low_val _) (fun h => implTwo h lx) (of_c _ x hx) ?_ (fun h => ?_)
    · intro w
      have := two1251_c w b8
      rwa [zp_mod] at this
    · have := implTwo h low_one
      rwa [zp_one, zone_pow, val_one] at this

end Go.Proofs.YtpogbljoohdehaaDoor
