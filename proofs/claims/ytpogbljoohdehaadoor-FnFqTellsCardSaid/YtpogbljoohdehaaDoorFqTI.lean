/- FqTells and FqCmov, over values. Elements below 2^127; the package's variable modulusP holds the prime. -/
import Derived.Test.YtpogbljoohdehaaDoorFqT
namespace Go.Proofs.YtpogbljoohdehaaDoor
open Go.RowKit Go.FourQ

section
variable {w : World} {a0 a1 c0 c1 : Nat}

set_option maxRecDepth 100000 in
set_option maxHeartbeats 400000 in
theorem zzFqIsZero (hm : ModW w) (ha0 : LowB a0) (ha1 : LowB a1) : Calls Tryd.prog 61 #[.agg (fps [a0, a1])] w fun e w' => e = .returned (.bool (decide (zp a0 = 0) && decide (zp a1 = 0))) ∧ Below w.heap.size w w' := by
  have HA0 := Lib.hid ha0; have HA1 := Lib.hid ha1; have HM := Lib.hid hm
  clear ha0 ha1 hm
  obtain ⟨r, hr⟩ : ∃ r : Value, .bool (decide (zp a0 = 0) && decide (zp a1 = 0)) = r := ⟨_, rfl⟩
  rw [hr]
  have HR := Lib.hid hr
  clear hr
  go_enter Tryd.func61, Tryd.ntmps61
  go_wp2_with fail
  refine (fqIsZero (HM.out.alloc _) HM.out.lt (FpsZ.two (Fps.new w [a0, a1] _ _ _ rfl rfl) HA0.out HA1.out) (k1 := 0) rfl rfl rfl).mono ?_
  rintro e w' ⟨he, u⟩
  rw [HR.out] at he
  subst he
  have HB := Lib.hid (((Below.refl _ _).alloc (Nat.le_refl _) _).trans (u.below (Nat.le_refl _) (by simp)) : Below w.heap.size w w')
  clear u
  go_wp2_with fail
  go_ret
  exact ⟨rfl, HB.out⟩

set_option maxRecDepth 100000 in
set_option maxHeartbeats 400000 in
theorem zzFqSgn (hm : ModW w) (ha0 : LowB a0) (ha1 : LowB a1) : Calls Tryd.prog 63 #[.agg (fps [a0, a1])] w fun e w' => e = .returned (.int .i64 (sgnQ (zp a0) (zp a1))) ∧ Below w.heap.size w w' := by
  have HA0 := Lib.hid ha0; have HA1 := Lib.hid ha1; have HM := Lib.hid hm
  clear ha0 ha1 hm
  obtain ⟨r, hr⟩ : ∃ r : Value, .int .i64 (sgnQ (zp a0) (zp a1)) = r := ⟨_, rfl⟩
  rw [hr]
  have HR := Lib.hid hr
  clear hr
  go_enter Tryd.func63, Tryd.ntmps63
  go_wp2_with fail
  refine (fqSgn (HM.out.alloc _) HM.out.lt (FpsZ.two (Fps.new w [a0, a1] _ _ _ rfl rfl) HA0.out HA1.out) (k1 := 0) rfl rfl rfl).mono ?_
  rintro e w' ⟨he, u⟩
  rw [HR.out] at he
  subst he
  have HB := Lib.hid (((Below.refl _ _).alloc (Nat.le_refl _) _).trans (u.below (Nat.le_refl _) (by simp)) : Below w.heap.size w w')
  clear u
  go_wp2_with fail
  go_ret
  exact ⟨rfl, HB.out⟩

set_option maxRecDepth 100000 in
set_option maxHeartbeats 400000 in
theorem zzFqCmov1 (ha0 : LowB a0) (ha1 : LowB a1) (hc0 : LowB c0) (hc1 : LowB c1) : Calls Tryd.prog 66 #[.agg (fps [a0, a1]), .agg (fps [c0, c1]), .int .i64 1] w (RetQ (zp c0) (zp c1) w) := by
  have HA0 := Lib.hid ha0; have HA1 := Lib.hid ha1; have HC0 := Lib.hid hc0; have HC1 := Lib.hid hc1
  clear ha0 ha1 hc0 hc1
  have H2 := Lib.hid (hp3_2 (w := w) (.cells (fps [a0, a1]) 73) (.cells (fps [c0, c1]) 73) (.cells (fps [0, 0]) 73))
  go_enter Tryd.func66, Tryd.ntmps66
  go_wp2_with fail
  rw [← zero_fps2]
  refine (fqCmov1 (L1 := [zp a0, zp a1]) (k1 := 0) (FpsZ.two (((Fps.new w [a0, a1] _ _ _ rfl rfl).alloc _).alloc _) HA0.out HA1.out) (FpsZ.two ((Fps.new _ [c0, c1] _ _ _ (by simp) rfl).alloc _) HC0.out HC1.out).pair rfl (by simp) (.inl (by omega)) (.inl (by omega)) (.inl (by omega))).mono ?_
  rintro e w' ⟨rfl, u⟩
  have HR := Lib.hid ((u.other (w.heap.size + 1 + 1) (by simp) (by omega)).trans H2.out)
  obtain ⟨l, hl, hmap, hlow⟩ := u.blk
  obtain ⟨p, q, rfl, hp, hq⟩ := two_list hmap
  obtain ⟨T, hT⟩ := hl
  have HT := Lib.hid hT; have HP := Lib.hid hp; have HQ := Lib.hid hq; have HPL := Lib.hid (hlow p (by simp)); have HQL := Lib.hid (hlow q (by simp))
  have HB := Lib.hid (((((Below.refl _ _).alloc (Nat.le_refl _) _).alloc (by simp) _).alloc (by simp; omega) _).trans (u.below (by omega) (by simp; omega)) : Below w.heap.size w w')
  clear u hT hmap hlow hp hq
  go_wp2_with (first | (refine wpList_load_row rfl 73 _ rfl w.heap.size rfl T (fps [p, q]) _ _ HT.out Tryd.underlying73 rfl (by kernel_rfl) ?_) | (refine wpList_store_row rfl 73 _ _ rfl _ (fps [p, q]) rfl rfl _ _ HR.out (by kernel_rfl) (by kernel_rfl) (all_fps2 _ _) ?_))
  exact bodyPost_ret_by (results_cell_row rfl _ _ (w.heap.size + 1 + 1) _ (fps [p, q]) _ _ rfl (setRow_heap _ _ _ _ _ _ HR.out) Tryd.underlying73 rfl (by kernel_rfl)) rfl ⟨p, q, rfl, HPL.out, HQL.out, HP.out, HQ.out, below_setRow HB.out (by omega)⟩

set_option maxRecDepth 100000 in
set_option maxHeartbeats 400000 in
theorem zzFqCmov0 (ha0 : LowB a0) (ha1 : LowB a1) (hc0 : LowB c0) (hc1 : LowB c1) : Calls Tryd.prog 66 #[.agg (fps [a0, a1]), .agg (fps [c0, c1]), .int .i64 0] w (RetQ (zp a0) (zp a1) w) := by
  have HA0 := Lib.hid ha0; have HA1 := Lib.hid ha1; have HC0 := Lib.hid hc0; have HC1 := Lib.hid hc1
  clear ha0 ha1 hc0 hc1
  have H2 := Lib.hid (hp3_2 (w := w) (.cells (fps [a0, a1]) 73) (.cells (fps [c0, c1]) 73) (.cells (fps [0, 0]) 73))
  go_enter Tryd.func66, Tryd.ntmps66
  go_wp2_with fail
  rw [← zero_fps2]
  refine (fqCmov0 (L1 := [zp a0, zp a1]) (k1 := 0) (FpsZ.two (((Fps.new w [a0, a1] _ _ _ rfl rfl).alloc _).alloc _) HA0.out HA1.out) (FpsZ.two ((Fps.new _ [c0, c1] _ _ _ (by simp) rfl).alloc _) HC0.out HC1.out).pair rfl (by simp) (.inl (by omega)) (.inl (by omega))).mono ?_
  rintro e w' ⟨rfl, u⟩
  have HR := Lib.hid ((u.other (w.heap.size + 1 + 1) (by simp) (by omega)).trans H2.out)
  obtain ⟨l, hl, hmap, hlow⟩ := u.blk
  obtain ⟨p, q, rfl, hp, hq⟩ := two_list hmap
  obtain ⟨T, hT⟩ := hl
  have HT := Lib.hid hT; have HP := Lib.hid hp; have HQ := Lib.hid hq; have HPL := Lib.hid (hlow p (by simp)); have HQL := Lib.hid (hlow q (by simp))
  have HB := Lib.hid (((((Below.refl _ _).alloc (Nat.le_refl _) _).alloc (by simp) _).alloc (by simp; omega) _).trans (u.below (by omega) (by simp; omega)) : Below w.heap.size w w')
  clear u hT hmap hlow hp hq
  go_wp2_with (first | (refine wpList_load_row rfl 73 _ rfl w.heap.size rfl T (fps [p, q]) _ _ HT.out Tryd.underlying73 rfl (by kernel_rfl) ?_) | (refine wpList_store_row rfl 73 _ _ rfl _ (fps [p, q]) rfl rfl _ _ HR.out (by kernel_rfl) (by kernel_rfl) (all_fps2 _ _) ?_))
  exact bodyPost_ret_by (results_cell_row rfl _ _ (w.heap.size + 1 + 1) _ (fps [p, q]) _ _ rfl (setRow_heap _ _ _ _ _ _ HR.out) Tryd.underlying73 rfl (by kernel_rfl)) rfl ⟨p, q, rfl, HPL.out, HQL.out, HP.out, HQ.out, below_setRow HB.out (by omega)⟩

set_option maxRecDepth 100000 in
set_option maxHeartbeats 1000000 in
theorem implFqTells {w : World} {a0 a1 : Nat} (hm : ModW w) (ha0 : LowB a0) (ha1 : LowB a1) :
    Calls Tryd.prog 23 #[.agg (fps [a0, a1])] w fun e w' => e = .returned (.tuple #[.bool (decide (zp a0 = 0) && decide (zp a1 = 0)), .int .i64 (sgnQ (zp a0) (zp a1))]) ∧ Below w.heap.size w w' := by
  go_enter Tryd.func23, Tryd.ntmps23
  go_upto_region 1 with (fail)
  have K0 : Kept w [(w.heap.size, (fps [a0, a1]))] [] (w.alloc (.cells (fps [a0, a1]) 40)) := Kept.zero (nb_alloc (Below.refl _ _) _) (rowsC ⟨_, hp1_0 (w := w) (.cells (fps [a0, a1]) 40)⟩ rows0)
  obtain ⟨W0, hW⟩ : ∃ W0 : World, W0 = (w.alloc (.cells (fps [a0, a1]) 40)) := ⟨_, rfl⟩
  rw [← hW] at K0 ⊢
  clear hW
  refine wp_region_atS (opsAt Tryd.f23 1) ((true, 0) :: (true, 3) :: (false, 1) :: (false, 2) :: (false, 4) :: (false, 5) :: (true, 6) :: (true, 7) :: []) (Kept w [(w.heap.size, (fps [a0, a1]))] []) (by kernel_rfl) rfl (by kernel_rfl) (fun _ _ d _ _ h => by cases d <;> exact h) (by kernel_rfl) (by kernel_rfl) K0.drew ?_
  have K0d := K0.drew
  refine k_row (by kernel_rfl) (d := (some 4)) (by kernel_rfl) (ty := 40) (x := (.tmp 1)) (by kernel_rfl) (b := w.heap.size) (by kernel_rfl) (cs := (fps [a0, a1])) (fun _ hs => hs.at 0 rfl) Tryd.underlying40 rfl (by kernel_rfl) ?_
  refine k_row (by kernel_rfl) (d := (some 7)) (by kernel_rfl) (ty := 40) (x := (.tmp 1)) (by kernel_rfl) (b := w.heap.size) (by kernel_rfl) (cs := (fps [a0, a1])) (fun _ hs => hs.at 0 rfl) Tryd.underlying40 rfl (by kernel_rfl) ?_
  refine k_call (by kernel_rfl) (d := (some 5)) (by kernel_rfl) (f := 62) (args := #[.agg (fps [a0, a1])]) (v := .agg (fps [a0, a1])) (fun _ => by kernel_rfl) (both_c) (fun w1 hb1 => ⟨K0d.go hb1, ?_⟩)
  have K1 := K0d.go hb1
  refine k_call (by kernel_rfl) (d := (some 6)) (by kernel_rfl) (f := 61) (args := #[.agg (fps [a0, a1])]) (v := .bool (decide (zp a0 = 0) && decide (zp a1 = 0))) (fun _ => by kernel_rfl) (zzFqIsZero (hm.nb K1.nb) ha0 ha1) (fun w2 hb2 => ⟨K1.go hb2, ?_⟩)
  have K2 := K1.go hb2
  refine k_call (by kernel_rfl) (d := (some 8)) (by kernel_rfl) (f := 62) (args := #[.agg (fps [a0, a1])]) (v := .agg (fps [a0, a1])) (fun _ => by kernel_rfl) (both_c) (fun w3 hb3 => ⟨K2.go hb3, ?_⟩)
  have K3 := K2.go hb3
  refine k_call (by kernel_rfl) (d := (some 9)) (by kernel_rfl) (f := 63) (args := #[.agg (fps [a0, a1])]) (v := .int .i64 (sgnQ (zp a0) (zp a1))) (fun _ => by kernel_rfl) (zzFqSgn (hm.nb K3.nb) ha0 ha1) (fun w4 hb4 => ⟨K3.go hb4, ?_⟩)
  have K4 := K3.go hb4
  refine k_pure (by kernel_rfl) (d := (some 2)) (by kernel_rfl) (v := .bool (decide (zp a0 = 0) && decide (zp a1 = 0))) (fun _ => by kernel_rfl) ?_
  refine k_pure (by kernel_rfl) (d := (some 3)) (by kernel_rfl) (v := .int .i64 (sgnQ (zp a0) (zp a1))) (fun _ => by kernel_rfl) ?_
  refine k_end ?_
  have KB := K4.nb
  go_simp
  go_wp2_with fail
  exact bodyPost_ret_by (by kernel_rfl) (by kernel_rfl) ⟨rfl, KB⟩

set_option maxRecDepth 100000 in
set_option maxHeartbeats 1000000 in
theorem implFqCmov1 {w : World} {a0 a1 c0 c1 : Nat} (hm : ModW w) (ha0 : LowB a0) (ha1 : LowB a1) (hc0 : LowB c0) (hc1 : LowB c1) :
    Calls Tryd.prog 27 #[.agg (fps [a0, a1]), .agg (fps [c0, c1]), .bool true] w fun e w' => e = .returned (.agg (fps [(zp c0).val, (zp c1).val])) ∧ Below w.heap.size w w' := by
  go_enter Tryd.func27, Tryd.ntmps27
  go_upto_region 4 with (fail)
  have K0 : Kept w [(w.heap.size, (fps [a0, a1])), (w.heap.size + 1, (fps [c0, c1]))] [(w.heap.size + 1 + 1, 32)] (((w.alloc (.cells (fps [a0, a1]) 40)).alloc (.cells (fps [c0, c1]) 40)).alloc (.cells #[.int .u8 0, .int .u8 0, .int .u8 0, .int .u8 0, .int .u8 0, .int .u8 0, .int .u8 0, .int .u8 0, .int .u8 0, .int .u8 0, .int .u8 0, .int .u8 0, .int .u8 0, .int .u8 0, .int .u8 0, .int .u8 0, .int .u8 0, .int .u8 0, .int .u8 0, .int .u8 0, .int .u8 0, .int .u8 0, .int .u8 0, .int .u8 0, .int .u8 0, .int .u8 0, .int .u8 0, .int .u8 0, .int .u8 0, .int .u8 0, .int .u8 0, .int .u8 0] 40)) := Kept.one (nb_alloc (nb_alloc (nb_alloc (Below.refl _ _) _) _) _) (rowsC ⟨_, hp3_0 (w := w) (.cells (fps [a0, a1]) 40) (.cells (fps [c0, c1]) 40) (.cells #[.int .u8 0, .int .u8 0, .int .u8 0, .int .u8 0, .int .u8 0, .int .u8 0, .int .u8 0, .int .u8 0, .int .u8 0, .int .u8 0, .int .u8 0, .int .u8 0, .int .u8 0, .int .u8 0, .int .u8 0, .int .u8 0, .int .u8 0, .int .u8 0, .int .u8 0, .int .u8 0, .int .u8 0, .int .u8 0, .int .u8 0, .int .u8 0, .int .u8 0, .int .u8 0, .int .u8 0, .int .u8 0, .int .u8 0, .int .u8 0, .int .u8 0, .int .u8 0] 40)⟩ (rowsC ⟨_, hp3_1 (w := w) (.cells (fps [a0, a1]) 40) (.cells (fps [c0, c1]) 40) (.cells #[.int .u8 0, .int .u8 0, .int .u8 0, .int .u8 0, .int .u8 0, .int .u8 0, .int .u8 0, .int .u8 0, .int .u8 0, .int .u8 0, .int .u8 0, .int .u8 0, .int .u8 0, .int .u8 0, .int .u8 0, .int .u8 0, .int .u8 0, .int .u8 0, .int .u8 0, .int .u8 0, .int .u8 0, .int .u8 0, .int .u8 0, .int .u8 0, .int .u8 0, .int .u8 0, .int .u8 0, .int .u8 0, .int .u8 0, .int .u8 0, .int .u8 0, .int .u8 0] 40)⟩ rows0)) rfl (hp3_2 (w := w) (.cells (fps [a0, a1]) 40) (.cells (fps [c0, c1]) 40) (.cells #[.int .u8 0, .int .u8 0, .int .u8 0, .int .u8 0, .int .u8 0, .int .u8 0, .int .u8 0, .int .u8 0, .int .u8 0, .int .u8 0, .int .u8 0, .int .u8 0, .int .u8 0, .int .u8 0, .int .u8 0, .int .u8 0, .int .u8 0, .int .u8 0, .int .u8 0, .int .u8 0, .int .u8 0, .int .u8 0, .int .u8 0, .int .u8 0, .int .u8 0, .int .u8 0, .int .u8 0, .int .u8 0, .int .u8 0, .int .u8 0, .int .u8 0, .int .u8 0] 40))
  obtain ⟨W0, hW⟩ : ∃ W0 : World, W0 = (((w.alloc (.cells (fps [a0, a1]) 40)).alloc (.cells (fps [c0, c1]) 40)).alloc (.cells #[.int .u8 0, .int .u8 0, .int .u8 0, .int .u8 0, .int .u8 0, .int .u8 0, .int .u8 0, .int .u8 0, .int .u8 0, .int .u8 0, .int .u8 0, .int .u8 0, .int .u8 0, .int .u8 0, .int .u8 0, .int .u8 0, .int .u8 0, .int .u8 0, .int .u8 0, .int .u8 0, .int .u8 0, .int .u8 0, .int .u8 0, .int .u8 0, .int .u8 0, .int .u8 0, .int .u8 0, .int .u8 0, .int .u8 0, .int .u8 0, .int .u8 0, .int .u8 0] 40)) := ⟨_, rfl⟩
  rw [← hW] at K0 ⊢
  clear hW
  refine wp_region_atS (opsAt Tryd.f27 4) ((true, 0) :: (true, 2) :: (true, 4) :: (false, 1) :: (false, 3) :: (false, 5) :: (false, 6) :: (false, 7) :: []) (Kept w [(w.heap.size, (fps [a0, a1])), (w.heap.size + 1, (fps [c0, c1]))] [(w.heap.size + 1 + 1, 32)]) (by kernel_rfl) rfl (by kernel_rfl) (fun _ _ d _ _ h => by cases d <;> exact h) (by kernel_rfl) (by kernel_rfl) K0.drew ?_
  have K0d := K0.drew
  refine k_row (by kernel_rfl) (d := (some 9)) (by kernel_rfl) (ty := 40) (x := (.tmp 3)) (by kernel_rfl) (b := w.heap.size) (by kernel_rfl) (cs := (fps [a0, a1])) (fun _ hs => hs.at 0 rfl) Tryd.underlying40 rfl (by kernel_rfl) ?_
  refine k_row (by kernel_rfl) (d := (some 11)) (by kernel_rfl) (ty := 40) (x := (.tmp 4)) (by kernel_rfl) (b := w.heap.size + 1) (by kernel_rfl) (cs := (fps [c0, c1])) (fun _ hs => hs.at 1 rfl) Tryd.underlying40 rfl (by kernel_rfl) ?_
  refine k_pure (by kernel_rfl) (d := (some 13)) (by kernel_rfl) (v := .int .i64 1) (fun _ => by kernel_rfl) ?_
  refine k_call (by kernel_rfl) (d := (some 10)) (by kernel_rfl) (f := 62) (args := #[.agg (fps [a0, a1])]) (v := .agg (fps [a0, a1])) (fun _ => by kernel_rfl) (both_c) (fun w1 hb1 => ⟨K0d.go hb1, ?_⟩)
  have K1 := K0d.go hb1
  refine k_call (by kernel_rfl) (d := (some 12)) (by kernel_rfl) (f := 62) (args := #[.agg (fps [c0, c1])]) (v := .agg (fps [c0, c1])) (fun _ => by kernel_rfl) (both_c) (fun w2 hb2 => ⟨K1.go hb2, ?_⟩)
  have K2 := K1.go hb2
  refine k_callR (by kernel_rfl) (d := (some 14)) (by kernel_rfl) (f := 66) (args := #[.agg (fps [a0, a1]), .agg (fps [c0, c1]), .int .i64 1]) (fun _ => by kernel_rfl) (zzFqCmov1 ha0 ha1 hc0 hc1) (fun _ w3 ⟨u, v, he3, hu, hv, zu, zv, hb3⟩ => ⟨_, he3, K2.go hb3, ?_⟩)
  have K3 := K2.go hb3
  refine k_call (by kernel_rfl) (d := (some 15)) (by kernel_rfl) (f := 64) (args := #[.agg (fps [u, v])]) (v := .agg (fps [(zp c0).val, (zp c1).val])) (fun _ => by kernel_rfl) (lowsZ_c (hm.nb K3.nb) hu hv zu zv) (fun w4 hb4 => ⟨K3.go hb4, ?_⟩)
  have K4 := K3.go hb4
  obtain ⟨T, old, hold, hT⟩ := K4.room _ (List.mem_cons_self ..)
  have KF := K4.put (cs := (fps [(zp c0).val, (zp c1).val])) (by kernel_rfl) (by omega) (neC (by omega) (neC (by omega) ne0))
  refine k_store (by kernel_rfl) (d := none) (by kernel_rfl) (ty := 40) (x := (.tmp 6)) (y := (.tmp 15)) (by kernel_rfl) (g := w.heap.size + 1 + 1) (cells := (fps [(zp c0).val, (zp c1).val])) (by kernel_rfl) (by kernel_rfl) hT (by kernel_rfl) (hold.trans (by kernel_rfl)) (all_fps2 _ _) ⟨KF, ?_⟩
  have hR := setRow_heap _ _ _ (fps [(zp c0).val, (zp c1).val]) _ _ hT
  refine k_end ?_
  have KB := KF.nb
  go_simp
  go_wp2_with fail
  exact bodyPost_ret_by (results_cell_row rfl _ _ (w.heap.size + 1 + 1) _ (fps [(zp c0).val, (zp c1).val]) _ _ rfl hR Tryd.underlying40 rfl (by kernel_rfl)) rfl ⟨rfl, KB⟩

set_option maxRecDepth 100000 in
set_option maxHeartbeats 1000000 in
theorem implFqCmov0 {w : World} {a0 a1 c0 c1 : Nat} (hm : ModW w) (ha0 : LowB a0) (ha1 : LowB a1) (hc0 : LowB c0) (hc1 : LowB c1) :
    Calls Tryd.prog 27 #[.agg (fps [a0, a1]), .agg (fps [c0, c1]), .bool false] w fun e w' => e = .returned (.agg (fps [(zp a0).val, (zp a1).val])) ∧ Below w.heap.size w w' := by
  go_enter Tryd.func27, Tryd.ntmps27
  go_upto_region 4 with (fail)
  have K0 : Kept w [(w.heap.size, (fps [a0, a1])), (w.heap.size + 1, (fps [c0, c1]))] [(w.heap.size + 1 + 1, 32)] (((w.alloc (.cells (fps [a0, a1]) 40)).alloc (.cells (fps [c0, c1]) 40)).alloc (.cells #[.int .u8 0, .int .u8 0, .int .u8 0, .int .u8 0, .int .u8 0, .int .u8 0, .int .u8 0, .int .u8 0, .int .u8 0, .int .u8 0, .int .u8 0, .int .u8 0, .int .u8 0, .int .u8 0, .int .u8 0, .int .u8 0, .int .u8 0, .int .u8 0, .int .u8 0, .int .u8 0, .int .u8 0, .int .u8 0, .int .u8 0, .int .u8 0, .int .u8 0, .int .u8 0, .int .u8 0, .int .u8 0, .int .u8 0, .int .u8 0, .int .u8 0, .int .u8 0] 40)) := Kept.one (nb_alloc (nb_alloc (nb_alloc (Below.refl _ _) _) _) _) (rowsC ⟨_, hp3_0 (w := w) (.cells (fps [a0, a1]) 40) (.cells (fps [c0, c1]) 40) (.cells #[.int .u8 0, .int .u8 0, .int .u8 0, .int .u8 0, .int .u8 0, .int .u8 0, .int .u8 0, .int .u8 0, .int .u8 0, .int .u8 0, .int .u8 0, .int .u8 0, .int .u8 0, .int .u8 0, .int .u8 0, .int .u8 0, .int .u8 0, .int .u8 0, .int .u8 0, .int .u8 0, .int .u8 0, .int .u8 0, .int .u8 0, .int .u8 0, .int .u8 0, .int .u8 0, .int .u8 0, .int .u8 0, .int .u8 0, .int .u8 0, .int .u8 0, .int .u8 0] 40)⟩ (rowsC ⟨_, hp3_1 (w := w) (.cells (fps [a0, a1]) 40) (.cells (fps [c0, c1]) 40) (.cells #[.int .u8 0, .int .u8 0, .int .u8 0, .int .u8 0, .int .u8 0, .int .u8 0, .int .u8 0, .int .u8 0, .int .u8 0, .int .u8 0, .int .u8 0, .int .u8 0, .int .u8 0, .int .u8 0, .int .u8 0, .int .u8 0, .int .u8 0, .int .u8 0, .int .u8 0, .int .u8 0, .int .u8 0, .int .u8 0, .int .u8 0, .int .u8 0, .int .u8 0, .int .u8 0, .int .u8 0, .int .u8 0, .int .u8 0, .int .u8 0, .int .u8 0, .int .u8 0] 40)⟩ rows0)) rfl (hp3_2 (w := w) (.cells (fps [a0, a1]) 40) (.cells (fps [c0, c1]) 40) (.cells #[.int .u8 0, .int .u8 0, .int .u8 0, .int .u8 0, .int .u8 0, .int .u8 0, .int .u8 0, .int .u8 0, .int .u8 0, .int .u8 0, .int .u8 0, .int .u8 0, .int .u8 0, .int .u8 0, .int .u8 0, .int .u8 0, .int .u8 0, .int .u8 0, .int .u8 0, .int .u8 0, .int .u8 0, .int .u8 0, .int .u8 0, .int .u8 0, .int .u8 0, .int .u8 0, .int .u8 0, .int .u8 0, .int .u8 0, .int .u8 0, .int .u8 0, .int .u8 0] 40))
  obtain ⟨W0, hW⟩ : ∃ W0 : World, W0 = (((w.alloc (.cells (fps [a0, a1]) 40)).alloc (.cells (fps [c0, c1]) 40)).alloc (.cells #[.int .u8 0, .int .u8 0, .int .u8 0, .int .u8 0, .int .u8 0, .int .u8 0, .int .u8 0, .int .u8 0, .int .u8 0, .int .u8 0, .int .u8 0, .int .u8 0, .int .u8 0, .int .u8 0, .int .u8 0, .int .u8 0, .int .u8 0, .int .u8 0, .int .u8 0, .int .u8 0, .int .u8 0, .int .u8 0, .int .u8 0, .int .u8 0, .int .u8 0, .int .u8 0, .int .u8 0, .int .u8 0, .int .u8 0, .int .u8 0, .int .u8 0, .int .u8 0] 40)) := ⟨_, rfl⟩
  rw [← hW] at K0 ⊢
  clear hW
  refine wp_region_atS (opsAt Tryd.f27 4) ((true, 0) :: (true, 2) :: (true, 4) :: (false, 1) :: (false, 3) :: (false, 5) :: (false, 6) :: (false, 7) :: []) (Kept w [(w.heap.size, (fps [a0, a1])), (w.heap.size + 1, (fps [c0, c1]))] [(w.heap.size + 1 + 1, 32)]) (by kernel_rfl) rfl (by kernel_rfl) (fun _ _ d _ _ h => by cases d <;> exact h) (by kernel_rfl) (by kernel_rfl) K0.drew ?_
  have K0d := K0.drew
  refine k_row (by kernel_rfl) (d := (some 9)) (by kernel_rfl) (ty := 40) (x := (.tmp 3)) (by kernel_rfl) (b := w.heap.size) (by kernel_rfl) (cs := (fps [a0, a1])) (fun _ hs => hs.at 0 rfl) Tryd.underlying40 rfl (by kernel_rfl) ?_
  refine k_row (by kernel_rfl) (d := (some 11)) (by kernel_rfl) (ty := 40) (x := (.tmp 4)) (by kernel_rfl) (b := w.heap.size + 1) (by kernel_rfl) (cs := (fps [c0, c1])) (fun _ hs => hs.at 1 rfl) Tryd.underlying40 rfl (by kernel_rfl) ?_
  refine k_pure (by kernel_rfl) (d := (some 13)) (by kernel_rfl) (v := .int .i64 0) (fun _ => by kernel_rfl) ?_
  refine k_call (by kernel_rfl) (d := (some 10)) (by kernel_rfl) (f := 62) (args := #[.agg (fps [a0, a1])]) (v := .agg (fps [a0, a1])) (fun _ => by kernel_rfl) (both_c) (fun w1 hb1 => ⟨K0d.go hb1, ?_⟩)
  have K1 := K0d.go hb1
  refine k_call (by kernel_rfl) (d := (some 12)) (by kernel_rfl) (f := 62) (args := #[.agg (fps [c0, c1])]) (v := .agg (fps [c0, c1])) (fun _ => by kernel_rfl) (both_c) (fun w2 hb2 => ⟨K1.go hb2, ?_⟩)
  have K2 := K1.go hb2
  refine k_callR (by kernel_rfl) (d := (some 14)) (by kernel_rfl) (f := 66) (args := #[.agg (fps [a0, a1]), .agg (fps [c0, c1]), .int .i64 0]) (fun _ => by kernel_rfl) (zzFqCmov0 ha0 ha1 hc0 hc1) (fun _ w3 ⟨u, v, he3, hu, hv, zu, zv, hb3⟩ => ⟨_, he3, K2.go hb3, ?_⟩)
  have K3 := K2.go hb3
  refine k_call (by kernel_rfl) (d := (some 15)) (by kernel_rfl) (f := 64) (args := #[.agg (fps [u, v])]) (v := .agg (fps [(zp a0).val, (zp a1).val])) (fun _ => by kernel_rfl) (lowsZ_c (hm.nb K3.nb) hu hv zu zv) (fun w4 hb4 => ⟨K3.go hb4, ?_⟩)
  have K4 := K3.go hb4
  obtain ⟨T, old, hold, hT⟩ := K4.room _ (List.mem_cons_self ..)
  have KF := K4.put (cs := (fps [(zp a0).val, (zp a1).val])) (by kernel_rfl) (by omega) (neC (by omega) (neC (by omega) ne0))
  refine k_store (by kernel_rfl) (d := none) (by kernel_rfl) (ty := 40) (x := (.tmp 6)) (y := (.tmp 15)) (by kernel_rfl) (g := w.heap.size + 1 + 1) (cells := (fps [(zp a0).val, (zp a1).val])) (by kernel_rfl) (by kernel_rfl) hT (by kernel_rfl) (hold.trans (by kernel_rfl)) (all_fps2 _ _) ⟨KF, ?_⟩
  have hR := setRow_heap _ _ _ (fps [(zp a0).val, (zp a1).val]) _ _ hT
  refine k_end ?_
  have KB := KF.nb
  go_simp
  go_wp2_with fail
  exact bodyPost_ret_by (results_cell_row rfl _ _ (w.heap.size + 1 + 1) _ (fps [(zp a0).val, (zp a1).val]) _ _ rfl hR Tryd.underlying40 rfl (by kernel_rfl)) rfl ⟨rfl, KB⟩

end
end Go.Proofs.YtpogbljoohdehaaDoor
