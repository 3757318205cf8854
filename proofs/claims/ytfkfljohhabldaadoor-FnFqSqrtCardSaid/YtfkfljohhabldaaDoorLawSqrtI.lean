/- FqSqrt over values; FnFqSqrt: whatever elements, true. modulusP holds the prime. -/
import Derived.Test.YtfkfljohhabldaaDoorSqrtF
import Derived.Test.YtfkfljohhabldaaDoorQc
namespace Go.Proofs.YtfkfljohhabldaaDoor
open Go.RowKit Go.FourQ

section
variable {w : World} {a0 a1 c0 c1 : Nat}

set_option maxRecDepth 100000 in
set_option maxHeartbeats 400000 in
theorem zzFqSqrt {f : Zq} {sg : Int} (hf : SqV ⟨zp a0, zp a1⟩ ⟨zp c0, zp c1⟩ sg f) (hm : ModW w) (ha0 : LowB a0) (ha1 : LowB a1) (hc0 : LowB c0) (hc1 : LowB c1) :
    Calls Tryd.prog 63 #[.agg (fps [a0, a1]), .agg (fps [c0, c1]), .int .i64 sg] w (RetQ f.re f.im w) := by
  have HA0 := Lib.hid ha0; have HA1 := Lib.hid ha1; have HC0 := Lib.hid hc0; have HC1 := Lib.hid hc1; have HM := Lib.hid hm; have HF := Lib.hid hf
  clear ha0 ha1 hc0 hc1 hm hf
  go_enter Tryd.func63, Tryd.ntmps63
  go_wp2_with fail
  refine (fqSqrt HF.out (HM.out.alloc _ |>.alloc _ |>.alloc _) (by have := HM.out.lt; simp; omega) (L1 := [0, 0].map zp) (k1 := 0) (FpsZ.ofFps (l := [0, 0]) (Fps.new _ [0, 0] _ _ _ (by simp) zero_fps2.symm) (all2L low_zero low_zero)) (FpsZ.two (((Fps.new w [a0, a1] _ _ _ rfl rfl).alloc _).alloc _) HA0.out HA1.out).pair (FpsZ.two ((Fps.new _ [c0, c1] _ _ _ (by simp) rfl).alloc _) HC0.out HC1.out).pair rfl (by simp) (by omega) (by omega)).mono ?_
  rintro e w' ⟨rfl, u⟩
  obtain ⟨l, hl, hmap, hlow⟩ := u.blk
  obtain ⟨p, q, rfl, hp, hq⟩ := two_list hmap
  have HL := Lib.hid hl; have HP := Lib.hid hp; have HQ := Lib.hid hq; have HPL := Lib.hid (hlow p (by simp)); have HQL := Lib.hid (hlow q (by simp))
  have HB := Lib.hid (((((Below.refl _ _).alloc (Nat.le_refl _) _).alloc (by simp) _).alloc (by simp; omega) _).trans (u.below (by omega) (by simp; omega)) : Below w.heap.size w w')
  clear u hl hmap hlow hp hq
  go_wp2_with fail
  exact bodyPost_ret_by (results_fps rfl _ (w.heap.size + 1 + 1) [p, q] _ rfl HL.out Tryd.underlying83 rfl (by kernel_rfl)) rfl ⟨p, q, rfl, HPL.out, HQL.out, HP.out, HQ.out, HB.out⟩

set_option maxRecDepth 100000 in
set_option maxHeartbeats 1000000 in
theorem implFqSqrtP {f : Zq} (hf : SqV ⟨zp a0, zp a1⟩ ⟨zp c0, zp c1⟩ (1) f) (hm : ModW w) (ha0 : LowB a0) (ha1 : LowB a1) (hc0 : LowB c0) (hc1 : LowB c1) :
    Calls Tryd.prog 26 #[.agg (fps [a0, a1]), .agg (fps [c0, c1]), .int .i64 1] w fun e w' => e = .returned (.agg (fps [f.re.val, f.im.val])) ∧ Below w.heap.size w w' := by
  go_enter Tryd.func26, Tryd.ntmps26
  go_upto_region 3 with (fail)
  have K0 : Kept w [(w.heap.size, (fps [a0, a1])), (w.heap.size + 1, (fps [c0, c1])), (w.heap.size + 1 + 1, (fps [0, 0]))] [] (((w.alloc (.cells (fps [a0, a1]) 33)).alloc (.cells (fps [c0, c1]) 33)).alloc (.cells #[.int .u8 0, .int .u8 0, .int .u8 0, .int .u8 0, .int .u8 0, .int .u8 0, .int .u8 0, .int .u8 0, .int .u8 0, .int .u8 0, .int .u8 0, .int .u8 0, .int .u8 0, .int .u8 0, .int .u8 0, .int .u8 0, .int .u8 0, .int .u8 0, .int .u8 0, .int .u8 0, .int .u8 0, .int .u8 0, .int .u8 0, .int .u8 0, .int .u8 0, .int .u8 0, .int .u8 0, .int .u8 0, .int .u8 0, .int .u8 0, .int .u8 0, .int .u8 0] 33)) := Kept.zero (nb_alloc (nb_alloc (nb_alloc (Below.refl _ _) _) _) _) (rowsC ⟨_, hp3_0 (w := w) (.cells (fps [a0, a1]) 33) (.cells (fps [c0, c1]) 33) (.cells #[.int .u8 0, .int .u8 0, .int .u8 0, .int .u8 0, .int .u8 0, .int .u8 0, .int .u8 0, .int .u8 0, .int .u8 0, .int .u8 0, .int .u8 0, .int .u8 0, .int .u8 0, .int .u8 0, .int .u8 0, .int .u8 0, .int .u8 0, .int .u8 0, .int .u8 0, .int .u8 0, .int .u8 0, .int .u8 0, .int .u8 0, .int .u8 0, .int .u8 0, .int .u8 0, .int .u8 0, .int .u8 0, .int .u8 0, .int .u8 0, .int .u8 0, .int .u8 0] 33)⟩ (rowsC ⟨_, hp3_1 (w := w) (.cells (fps [a0, a1]) 33) (.cells (fps [c0, c1]) 33) (.cells #[.int .u8 0, .int .u8 0, .int .u8 0, .int .u8 0, .int .u8 0, .int .u8 0, .int .u8 0, .int .u8 0, .int .u8 0, .int .u8 0, .int .u8 0, .int .u8 0, .int .u8 0, .int .u8 0, .int .u8 0, .int .u8 0, .int .u8 0, .int .u8 0, .int .u8 0, .int .u8 0, .int .u8 0, .int .u8 0, .int .u8 0, .int .u8 0, .int .u8 0, .int .u8 0, .int .u8 0, .int .u8 0, .int .u8 0, .int .u8 0, .int .u8 0, .int .u8 0] 33)⟩ (rowsC ⟨_, hp3_2 (w := w) (.cells (fps [a0, a1]) 33) (.cells (fps [c0, c1]) 33) (.cells #[.int .u8 0, .int .u8 0, .int .u8 0, .int .u8 0, .int .u8 0, .int .u8 0, .int .u8 0, .int .u8 0, .int .u8 0, .int .u8 0, .int .u8 0, .int .u8 0, .int .u8 0, .int .u8 0, .int .u8 0, .int .u8 0, .int .u8 0, .int .u8 0, .int .u8 0, .int .u8 0, .int .u8 0, .int .u8 0, .int .u8 0, .int .u8 0, .int .u8 0, .int .u8 0, .int .u8 0, .int .u8 0, .int .u8 0, .int .u8 0, .int .u8 0, .int .u8 0] 33)⟩ rows0)))
  obtain ⟨W0, hW⟩ : ∃ W0 : World, W0 = (((w.alloc (.cells (fps [a0, a1]) 33)).alloc (.cells (fps [c0, c1]) 33)).alloc (.cells #[.int .u8 0, .int .u8 0, .int .u8 0, .int .u8 0, .int .u8 0, .int .u8 0, .int .u8 0, .int .u8 0, .int .u8 0, .int .u8 0, .int .u8 0, .int .u8 0, .int .u8 0, .int .u8 0, .int .u8 0, .int .u8 0, .int .u8 0, .int .u8 0, .int .u8 0, .int .u8 0, .int .u8 0, .int .u8 0, .int .u8 0, .int .u8 0, .int .u8 0, .int .u8 0, .int .u8 0, .int .u8 0, .int .u8 0, .int .u8 0, .int .u8 0, .int .u8 0] 33)) := ⟨_, rfl⟩
  rw [← hW] at K0 ⊢
  clear hW
  have O2K1 := K0.at 2 rfl
  obtain ⟨T2K1, O2K1⟩ := O2K1
  have K1 : Kept w [(w.heap.size, (fps [a0, a1])), (w.heap.size + 1, (fps [c0, c1]))] [(w.heap.size + 1 + 1, 32)] W0 := Kept.mks K0.nb (rowsC (K0.at 0 rfl) (rowsC (K0.at 1 rfl) rows0)) (roomsC (by kernel_rfl) O2K1 rooms0)
  refine wp_region_atS (opsAt Tryd.f26 3) ((true, 0) :: (true, 2) :: (true, 4) :: (false, 1) :: (false, 3) :: (false, 5) :: (false, 6) :: (false, 7) :: []) (Kept w [(w.heap.size, (fps [a0, a1])), (w.heap.size + 1, (fps [c0, c1]))] [(w.heap.size + 1 + 1, 32)]) (by kernel_rfl) rfl (by kernel_rfl) (fun _ _ d _ _ h => by cases d <;> exact h) (by kernel_rfl) (by kernel_rfl) K1.drew ?_
  have K2 := K1.drew
  have DK2 : W0.heap.size ≤ W0.drew.heap.size := Nat.le_refl _
  have GO2K1 : W0.drew.heap[w.heap.size + 1 + 1]? = some (.cells (fps [0, 0]) _ (0, 0)) := O2K1
  refine k_row (by kernel_rfl) (d := (some 14)) (by kernel_rfl) (ty := 33) (x := (.tmp 3)) (by kernel_rfl) (b := w.heap.size) (by kernel_rfl) (cs := (fps [a0, a1])) (fun _ hs => hs.at 0 rfl) Tryd.underlying33 rfl (by kernel_rfl) ?_
  refine k_row (by kernel_rfl) (d := (some 16)) (by kernel_rfl) (ty := 33) (x := (.tmp 4)) (by kernel_rfl) (b := w.heap.size + 1) (by kernel_rfl) (cs := (fps [c0, c1])) (fun _ hs => hs.at 1 rfl) Tryd.underlying33 rfl (by kernel_rfl) ?_
  refine k_pure (by kernel_rfl) (d := (some 18)) (by kernel_rfl) (v := .int .i64 1) (fun _ => by kernel_rfl) ?_
  refine k_call (by kernel_rfl) (d := (some 15)) (by kernel_rfl) (f := 64) (args := #[.agg (fps [a0, a1])]) (v := .agg (fps [a0, a1])) (fun _ => by kernel_rfl) (both_c) (fun w3 hb3 => ⟨K2.go hb3, ?_⟩)
  have K3 := K2.go hb3
  have G3_10 := nb_heap GO2K1 _ hb3
  have L3 := hb3.size
  refine k_call (by kernel_rfl) (d := (some 17)) (by kernel_rfl) (f := 64) (args := #[.agg (fps [c0, c1])]) (v := .agg (fps [c0, c1])) (fun _ => by kernel_rfl) (both_c) (fun w4 hb4 => ⟨K3.go hb4, ?_⟩)
  have K4 := K3.go hb4
  have G4_10 := nb_heap G3_10 _ hb4
  have L4 := hb4.size
  refine k_callR (by kernel_rfl) (d := (some 19)) (by kernel_rfl) (f := 63) (args := #[.agg (fps [a0, a1]), .agg (fps [c0, c1]), .int .i64 1]) (fun _ => by kernel_rfl) (zzFqSqrt hf (hm.nb K4.nb) ha0 ha1 hc0 hc1) (fun _ w5 ⟨u, v, he5, hu, hv, zu, zv, hb5⟩ => ⟨_, he5, K4.go hb5, ?_⟩)
  have K5 := K4.go hb5
  have G5_10 := nb_heap G4_10 _ hb5
  have L5 := hb5.size
  refine k_call (by kernel_rfl) (d := (some 20)) (by kernel_rfl) (f := 62) (args := #[.agg (fps [u, v])]) (v := .agg (fps [f.re.val, f.im.val])) (fun _ => by kernel_rfl) (lowsZ_c (hm.nb K5.nb) hu hv zu zv) (fun w6 hb6 => ⟨K5.go hb6, ?_⟩)
  have K6 := K5.go hb6
  have G6_10 := nb_heap G5_10 _ hb6
  have L6 := hb6.size
  refine k_put (by kernel_rfl) (d := none) (by kernel_rfl) (ty := 33) (x := (.tmp 6)) (y := (.tmp 20)) (by kernel_rfl) (g := w.heap.size + 1 + 1) (cells := (fps [f.re.val, f.im.val])) (by kernel_rfl) (by kernel_rfl) G6_10 (by kernel_rfl) (by kernel_rfl) (all_fps _) (K6.puti (n := 32) (by kernel_rfl) (by omega) (neC (by omega) (neC (by omega) ne0)) (nsE ns0)) ?_
  intro w7 hw7 K7
  have G7_s : w7.heap[w.heap.size + 1 + 1]? = some (.cells (fps [f.re.val, f.im.val]) _ (0, 0)) := hw7 ▸ setRow_heap _ _ _ _ _ _ G6_10
  have L7 : w6.heap.size ≤ w7.heap.size := by rw [hw7]; exact Nat.le_of_eq (size_setRow _ _ _).symm
  clear hw7
  have K8 : Kept w [(w.heap.size, (fps [a0, a1])), (w.heap.size + 1, (fps [c0, c1])), (w.heap.size + 1 + 1, (fps [f.re.val, f.im.val]))] [] w7 := Kept.zero K7.nb (rowsC (K7.at 0 rfl) (rowsC (K7.at 1 rfl) (rowsC ⟨_, G7_s⟩ rows0)))
  clear O2K1 G7_s G6_10 G5_10 G4_10 G3_10 GO2K1
  refine k_end ?_
  go_simp
  go_wp2_with fail
  obtain ⟨TR, hR⟩ := K8.at 2 rfl
  exact bodyPost_ret_by (results_cell_row rfl _ _ (w.heap.size + 1 + 1) _ (fps [f.re.val, f.im.val]) _ _ rfl hR Tryd.underlying33 rfl (by kernel_rfl)) rfl ⟨rfl, K8.nb⟩

set_option maxRecDepth 100000 in
set_option maxHeartbeats 1000000 in
theorem implFqSqrtM {f : Zq} (hf : SqV ⟨zp a0, zp a1⟩ ⟨zp c0, zp c1⟩ (-1) f) (hm : ModW w) (ha0 : LowB a0) (ha1 : LowB a1) (hc0 : LowB c0) (hc1 : LowB c1) :
    Calls Tryd.prog 26 #[.agg (fps [a0, a1]), .agg (fps [c0, c1]), .int .i64 (-1)] w fun e w' => e = .returned (.agg (fps [f.re.val, f.im.val])) ∧ Below w.heap.size w w' := by
  go_enter Tryd.func26, Tryd.ntmps26
  go_upto_region 3 with (fail)
  have K0 : Kept w [(w.heap.size, (fps [a0, a1])), (w.heap.size + 1, (fps [c0, c1])), (w.heap.size + 1 + 1, (fps [0, 0]))] [] (((w.alloc (.cells (fps [a0, a1]) 33)).alloc (.cells (fps [c0, c1]) 33)).alloc (.cells #[.int .u8 0, .int .u8 0, .int .u8 0, .int .u8 0, .int .u8 0, .int .u8 0, .int .u8 0, .int .u8 0, .int .u8 0, .int .u8 0, .int .u8 0, .int .u8 0, .int .u8 0, .int .u8 0, .int .u8 0, .int .u8 0, .int .u8 0, .int .u8 0, .int .u8 0, .int .u8 0, .int .u8 0, .int .u8 0, .int .u8 0, .int .u8 0, .int .u8 0, .int .u8 0, .int .u8 0, .int .u8 0, .int .u8 0, .int .u8 0, .int .u8 0, .int .u8 0] 33)) := Kept.zero (nb_alloc (nb_alloc (nb_alloc (Below.refl _ _) _) _) _) (rowsC ⟨_, hp3_0 (w := w) (.cells (fps [a0, a1]) 33) (.cells (fps [c0, c1]) 33) (.cells #[.int .u8 0, .int .u8 0, .int .u8 0, .int .u8 0, .int .u8 0, .int .u8 0, .int .u8 0, .int .u8 0, .int .u8 0, .int .u8 0, .int .u8 0, .int .u8 0, .int .u8 0, .int .u8 0, .int .u8 0, .int .u8 0, .int .u8 0, .int .u8 0, .int .u8 0, .int .u8 0, .int .u8 0, .int .u8 0, .int .u8 0, .int .u8 0, .int .u8 0, .int .u8 0, .int .u8 0, .int .u8 0, .int .u8 0, .int .u8 0, .int .u8 0, .int .u8 0] 33)⟩ (rowsC ⟨_, hp3_1 (w := w) (.cells (fps [a0, a1]) 33) (.cells (fps [c0, c1]) 33) (.cells #[.int .u8 0, .int .u8 0, .int .u8 0, .int .u8 0, .int .u8 0, .int .u8 0, .int .u8 0, .int .u8 0, .int .u8 0, .int .u8 0, .int .u8 0, .int .u8 0, .int .u8 0, .int .u8 0, .int .u8 0, .int .u8 0, .int .u8 0, .int .u8 0, .int .u8 0, .int .u8 0, .int .u8 0, .int .u8 0, .int .u8 0, .int .u8 0, .int .u8 0, .int .u8 0, .int .u8 0, .int .u8 0, .int .u8 0, .int .u8 0, .int .u8 0, .int .u8 0] 33)⟩ (rowsC ⟨_, hp3_2 (w := w) (.cells (fps [a0, a1]) 33) (.cells (fps [c0, c1]) 33) (.cells #[.int .u8 0, .int .u8 0, .int .u8 0, .int .u8 0, .int .u8 0, .int .u8 0, .int .u8 0, .int .u8 0, .int .u8 0, .int .u8 0, .int .u8 0, .int .u8 0, .int .u8 0, .int .u8 0, .int .u8 0, .int .u8 0, .int .u8 0, .int .u8 0, .int .u8 0, .int .u8 0, .int .u8 0, .int .u8 0, .int .u8 0, .int .u8 0, .int .u8 0, .int .u8 0, .int .u8 0, .int .u8 0, .int .u8 0, .int .u8 0, .int .u8 0, .int .u8 0] 33)⟩ rows0)))
  obtain ⟨W0, hW⟩ : ∃ W0 : World, W0 = (((w.alloc (.cells (fps [a0, a1]) 33)).alloc (.cells (fps [c0, c1]) 33)).alloc (.cells #[.int .u8 0, .int .u8 0, .int .u8 0, .int .u8 0, .int .u8 0, .int .u8 0, .int .u8 0, .int .u8 0, .int .u8 0, .int .u8 0, .int .u8 0, .int .u8 0, .int .u8 0, .int .u8 0, .int .u8 0, .int .u8 0, .int .u8 0, .int .u8 0, .int .u8 0, .int .u8 0, .int .u8 0, .int .u8 0, .int .u8 0, .int .u8 0, .int .u8 0, .int .u8 0, .int .u8 0, .int .u8 0, .int .u8 0, .int .u8 0, .int .u8 0, .int .u8 0] 33)) := ⟨_, rfl⟩
  rw [← hW] at K0 ⊢
  clear hW
  have O2K1 := K0.at 2 rfl
  obtain ⟨T2K1, O2K1⟩ := O2K1
  have K1 : Kept w [(w.heap.size, (fps [a0, a1])), (w.heap.size + 1, (fps [c0, c1]))] [(w.heap.size + 1 + 1, 32)] W0 := Kept.mks K0.nb (rowsC (K0.at 0 rfl) (rowsC (K0.at 1 rfl) rows0)) (roomsC (by kernel_rfl) O2K1 rooms0)
  refine wp_region_atS (opsAt Tryd.f26 3) ((true, 0) :: (true, 2) :: (true, 4) :: (false, 1) :: (false, 3) :: (false, 5) :: (false, 6) :: (false, 7) :: []) (Kept w [(w.heap.size, (fps [a0, a1])), (w.heap.size + 1, (fps [c0, c1]))] [(w.heap.size + 1 + 1, 32)]) (by kernel_rfl) rfl (by kernel_rfl) (fun _ _ d _ _ h => by cases d <;> exact h) (by kernel_rfl) (by kernel_rfl) K1.drew ?_
  have K2 := K1.drew
  have DK2 : W0.heap.size ≤ W0.drew.heap.size := Nat.le_refl _
  have GO2K1 : W0.drew.heap[w.heap.size + 1 + 1]? = some (.cells (fps [0, 0]) _ (0, 0)) := O2K1
  refine k_row (by kernel_rfl) (d := (some 14)) (by kernel_rfl) (ty := 33) (x := (.tmp 3)) (by kernel_rfl) (b := w.heap.size) (by kernel_rfl) (cs := (fps [a0, a1])) (fun _ hs => hs.at 0 rfl) Tryd.underlying33 rfl (by kernel_rfl) ?_
  refine k_row (by kernel_rfl) (d := (some 16)) (by kernel_rfl) (ty := 33) (x := (.tmp 4)) (by kernel_rfl) (b := w.heap.size + 1) (by kernel_rfl) (cs := (fps [c0, c1])) (fun _ hs => hs.at 1 rfl) Tryd.underlying33 rfl (by kernel_rfl) ?_
  refine k_pure (by kernel_rfl) (d := (some 18)) (by kernel_rfl) (v := .int .i64 (-1)) (fun _ => by kernel_rfl) ?_
  refine k_call (by kernel_rfl) (d := (some 15)) (by kernel_rfl) (f := 64) (args := #[.agg (fps [a0, a1])]) (v := .agg (fps [a0, a1])) (fun _ => by kernel_rfl) (both_c) (fun w3 hb3 => ⟨K2.go hb3, ?_⟩)
  have K3 := K2.go hb3
  have G3_10 := nb_heap GO2K1 _ hb3
  have L3 := hb3.size
  refine k_call (by kernel_rfl) (d := (some 17)) (by kernel_rfl) (f := 64) (args := #[.agg (fps [c0, c1])]) (v := .agg (fps [c0, c1])) (fun _ => by kernel_rfl) (both_c) (fun w4 hb4 => ⟨K3.go hb4, ?_⟩)
  have K4 := K3.go hb4
  have G4_10 := nb_heap G3_10 _ hb4
  have L4 := hb4.size
  refine k_callR (by kernel_rfl) (d := (some 19)) (by kernel_rfl) (f := 63) (args := #[.agg (fps [a0, a1]), .agg (fps [c0, c1]), .int .i64 (-1)]) (fun _ => by kernel_rfl) (zzFqSqrt hf (hm.nb K4.nb) ha0 ha1 hc0 hc1) (fun _ w5 ⟨u, v, he5, hu, hv, zu, zv, hb5⟩ => ⟨_, he5, K4.go hb5, ?_⟩)
  have K5 := K4.go hb5
  have G5_10 := nb_heap G4_10 _ hb5
  have L5 := hb5.size
  refine k_call (by kernel_rfl) (d := (some 20)) (by kernel_rfl) (f := 62) (args := #[.agg (fps [u, v])]) (v := .agg (fps [f.re.val, f.im.val])) (fun _ => by kernel_rfl) (lowsZ_c (hm.nb K5.nb) hu hv zu zv) (fun w6 hb6 => ⟨K5.go hb6, ?_⟩)
  have K6 := K5.go hb6
  have G6_10 := nb_heap G5_10 _ hb6
  have L6 := hb6.size
  refine k_put (by kernel_rfl) (d := none) (by kernel_rfl) (ty := 33) (x := (.tmp 6)) (y := (.tmp 20)) (by kernel_rfl) (g := w.heap.size + 1 + 1) (cells := (fps [f.re.val, f.im.val])) (by kernel_rfl) (by kernel_rfl) G6_10 (by kernel_rfl) (by kernel_rfl) (all_fps _) (K6.puti (n := 32) (by kernel_rfl) (by omega) (neC (by omega) (neC (by omega) ne0)) (nsE ns0)) ?_
  intro w7 hw7 K7
  have G7_s : w7.heap[w.heap.size + 1 + 1]? = some (.cells (fps [f.re.val, f.im.val]) _ (0, 0)) := hw7 ▸ setRow_heap _ _ _ _ _ _ G6_10
  have L7 : w6.heap.size ≤ w7.heap.size := by rw [hw7]; exact Nat.le_of_eq (size_setRow _ _ _).symm
  clear hw7
  have K8 : Kept w [(w.heap.size, (fps [a0, a1])), (w.heap.size + 1, (fps [c0, c1])), (w.heap.size + 1 + 1, (fps [f.re.val, f.im.val]))] [] w7 := Kept.zero K7.nb (rowsC (K7.at 0 rfl) (rowsC (K7.at 1 rfl) (rowsC ⟨_, G7_s⟩ rows0)))
  clear O2K1 G7_s G6_10 G5_10 G4_10 G3_10 GO2K1
  refine k_end ?_
  go_simp
  go_wp2_with fail
  obtain ⟨TR, hR⟩ := K8.at 2 rfl
  exact bodyPost_ret_by (results_cell_row rfl _ _ (w.heap.size + 1 + 1) _ (fps [f.re.val, f.im.val]) _ _ rfl hR Tryd.underlying33 rfl (by kernel_rfl)) rfl ⟨rfl, K8.nb⟩

theorem implFqSqrt_P {u v f : Zq} (hf : SqV u v 1 f) (hm : ModW w) : Calls Tryd.prog 26 #[.agg (fps [u.re.val, u.im.val]), .agg (fps [v.re.val, v.im.val]), .int .i64 1] w fun e w' => e = .returned (.agg (fps [f.re.val, f.im.val])) ∧ Below w.heap.size w w' :=
  implFqSqrtP (by rw [zp_val, zp_val, zp_val, zp_val]; exact hf) hm (low_val _) (low_val _) (low_val _) (low_val _)
theorem implFqSqrt_M {u v f : Zq} (hf : SqV u v (-1) f) (hm : ModW w) : Calls Tryd.prog 26 #[.agg (fps [u.re.val, u.im.val]), .agg (fps [v.re.val, v.im.val]), .int .i64 (-1)] w fun e w' => e = .returned (.agg (fps [f.re.val, f.im.val])) ∧ Below w.heap.size w w' :=
  implFqSqrtM (by rw [zp_val, zp_val, zp_val, zp_val]; exact hf) hm (low_val _) (low_val _) (low_val _) (low_val _)
end
end Go.Proofs.YtfkfljohhabldaaDoor
