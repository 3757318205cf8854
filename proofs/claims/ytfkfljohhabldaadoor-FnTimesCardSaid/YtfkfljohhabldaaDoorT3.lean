/- Part 3 of what the laws lean on: arithmetic, walks through the functions, the curve. -/
import Derived.Test.YtfkfljohhabldaaDoorT2
import Derived.Laws.CopyRow
namespace Go.Proofs.YtfkfljohhabldaaDoor
open Go.RowKit Go.FourQ
theorem number_z {w : World} {hi lo : Nat} {x : Zp} (hl : lo < 18446744073709551616) (hh : hi < 18446744073709551616) (hx : x.val = lo + 18446744073709551616 * hi) :
   Calls Tryd.prog 67 #[.int .u64 (hi : Int), .int .u64 (lo : Int)] w fun e w' => e = .returned (.agg (dgA (digs 8 x.val))) ∧ Below w.heap.size w w' := by
 rw [hx]; exact number_c w hi lo hl hh
set_option maxRecDepth 100000 in
set_option maxHeartbeats 1000000 in
theorem one_c {w : World}  :
   Calls Tryd.prog 53 #[] w fun e w' => e = .returned (.agg (dgQ 1 0)) ∧ Below w.heap.size w w' := by
 go_enter Tryd.func53, Tryd.ntmps53
 go_upto_region 1 with (fail)
 refine wp_gen (fun WW => Kept w [(w.heap.size, (dgQ 0 0))] [] WW) (Kept.zero (nb_alloc (Below.refl _ _) _) (rowsC (row_as (hp1_0 (w := w) _) (by kernel_rfl)) rows0)) ?_
 intro W0 K0
 have O0K1 := K0.at 0 rfl
 obtain ⟨T0K1, O0K1⟩ := O0K1
 have K1 : Kept w [] [(w.heap.size, 16)] W0 := Kept.mks K0.nb rows0 (roomsC (by kernel_rfl) O0K1 rooms0)
 refine wsA (opsAt Tryd.f53 1) ((true, 0) :: (true, 1) :: (false, 2) :: []) (Kept w [] [(w.heap.size, 16)]) K1 ?_
 refine kp (d := some 1) (v := .agg (dgA (digs 8 1))) ?_
 refine kp (d := some 2) (v := .agg (dgQ 1 0)) ?_
 refine k_put (by kernel_rfl) (d := none) (by kernel_rfl) (ty := 39) (x := (.tmp 0)) (y := (.tmp 2)) (by kernel_rfl) (g := w.heap.size) (cells := (dgQ 1 0)) (by kernel_rfl) (by kernel_rfl) O0K1 (by kernel_rfl) (by kernel_rfl) (all_dgA _) (K1.puti (n := 16) (by kernel_rfl) (by omega) ne0 (nsE ns0)) ?_
 intro w2 hw2 K2
 have G2_s : w2.heap[w.heap.size]? = some (.cells (dgQ 1 0) _ (0, 0)) := hw2 ▸ setRow_heap _ _ _ _ _ _ O0K1
 have L2 : W0.heap.size ≤ w2.heap.size := by rw [hw2]; exact Nat.le_of_eq (size_setRow _ _ _).symm
 clear hw2
 have K3 : Kept w [(w.heap.size, (dgQ 1 0))] [] w2 := Kept.zero K2.nb (rowsC ⟨_, G2_s⟩ rows0)
 clear O0K1 G2_s
 refine k_end ?_
 go_simp
 go_wp2_with fail
 obtain ⟨TR, hR⟩ := K3.at 0 rfl
 exact bodyPost_ret_by (results_cell_row rfl _ _ (w.heap.size) _ (dgQ 1 0) _ _ rfl hR Tryd.underlying39 rfl (by kernel_rfl)) rfl ⟨rfl, K3.nb⟩
theorem one_q {w : World} : Calls Tryd.prog 53 #[] w fun e w' => e = .returned (.agg (dgQ (1 : Zq).re.val (1 : Zq).im.val)) ∧ Below w.heap.size w w' := one_c
set_option maxRecDepth 100000 in
set_option maxHeartbeats 1000000 in
theorem atP_c {w : World} {x y : Zq} :
   Calls Tryd.prog 52 #[.agg (dgQ x.re.val x.im.val), .agg (dgQ y.re.val y.im.val)] w fun e w' => e = .returned (.agg (dgL [x.re.val, x.im.val, y.re.val, y.im.val, ((1 : Zq)).re.val, ((1 : Zq)).im.val])) ∧ Below w.heap.size w w' := by
 go_enter Tryd.func52, Tryd.ntmps52
 go_upto_region 1 with (fail)
 refine wp_gen (fun WW => Kept w [(w.heap.size, (dgQ x.re.val x.im.val)), (w.heap.size + 1, (dgQ y.re.val y.im.val)), (w.heap.size + 1 + 1, (dgL [0, 0, 0, 0, 0, 0]))] [] WW) (Kept.zero (nb_alloc (nb_alloc (nb_alloc (Below.refl _ _) _) _) _) (rowsC (row_as (hp3_0 (w := w) _ _ _) (by kernel_rfl)) (rowsC (row_as (hp3_1 (w := w) _ _ _) (by kernel_rfl)) (rowsC (row_as (hp3_2 (w := w) _ _ _) (by kernel_rfl)) rows0)))) ?_
 intro W0 K0
 have O2K1 := K0.at 2 rfl
 obtain ⟨T2K1, O2K1⟩ := O2K1
 have K1 : Kept w [(w.heap.size, (dgQ x.re.val x.im.val)), (w.heap.size + 1, (dgQ y.re.val y.im.val))] [(w.heap.size + 1 + 1, 48)] W0 := Kept.mks K0.nb (rowsC (K0.at 0 rfl) (rowsC (K0.at 1 rfl) rows0)) (roomsC (by kernel_rfl) O2K1 rooms0)
 refine wrA (opsAt Tryd.f52 1) ((true, 0) :: (true, 1) :: (false, 2) :: (true, 3) :: (false, 4) :: []) (Kept w [(w.heap.size, (dgQ x.re.val x.im.val)), (w.heap.size + 1, (dgQ y.re.val y.im.val))] [(w.heap.size + 1 + 1, 48)]) K1.drew ?_
 have K2 := K1.drew
 have DK2 : W0.heap.size ≤ W0.drew.heap.size := Nat.le_refl _
 have GO2K1 : W0.drew.heap[w.heap.size + 1 + 1]? = some (.cells (dgL [0, 0, 0, 0, 0, 0]) _ (0, 0)) := O2K1
 refine k_row (by kernel_rfl) (d := (some 5)) (by kernel_rfl) (ty := 39) (x := (.tmp 2)) (by kernel_rfl) (b := w.heap.size) (by kernel_rfl) (cs := (dgQ x.re.val x.im.val)) (fun _ hs => hs.at 0 rfl) Tryd.underlying39 rfl (by kernel_rfl) ?_
 refine k_row (by kernel_rfl) (d := (some 6)) (by kernel_rfl) (ty := 39) (x := (.tmp 3)) (by kernel_rfl) (b := w.heap.size + 1) (by kernel_rfl) (cs := (dgQ y.re.val y.im.val)) (fun _ hs => hs.at 1 rfl) Tryd.underlying39 rfl (by kernel_rfl) ?_
 refine kc (d := some 7) (f := 53) (args := #[]) (v := .agg (dgQ (((1 : Zq)).re.val) (((1 : Zq)).im.val))) (one_q) (fun w3 hb3 => ⟨K2.go hb3, ?_⟩)
 have K3 := K2.go hb3
 have G3_10 := nb_heap GO2K1 _ hb3
 have L3 := hb3.size
 refine kp (d := some 8) (v := .agg (dgL [x.re.val, x.im.val, y.re.val, y.im.val, ((1 : Zq)).re.val, ((1 : Zq)).im.val])) ?_
 refine k_put (by kernel_rfl) (d := none) (by kernel_rfl) (ty := 41) (x := (.tmp 4)) (y := (.tmp 8)) (by kernel_rfl) (g := w.heap.size + 1 + 1) (cells := (dgL [x.re.val, x.im.val, y.re.val, y.im.val, ((1 : Zq)).re.val, ((1 : Zq)).im.val])) (by kernel_rfl) (by kernel_rfl) G3_10 (by kernel_rfl) (by kernel_rfl) (all_dgA _) (K3.puti (n := 48) (by kernel_rfl) (by omega) (neC (by omega) (neC (by omega) ne0)) (nsE ns0)) ?_
 intro w4 hw4 K4
 have G4_s : w4.heap[w.heap.size + 1 + 1]? = some (.cells (dgL [x.re.val, x.im.val, y.re.val, y.im.val, ((1 : Zq)).re.val, ((1 : Zq)).im.val]) _ (0, 0)) := hw4 ▸ setRow_heap _ _ _ _ _ _ G3_10
 have L4 : w3.heap.size ≤ w4.heap.size := by rw [hw4]; exact Nat.le_of_eq (size_setRow _ _ _).symm
 clear hw4
 have K5 : Kept w [(w.heap.size, (dgQ x.re.val x.im.val)), (w.heap.size + 1, (dgQ y.re.val y.im.val)), (w.heap.size + 1 + 1, (dgL [x.re.val, x.im.val, y.re.val, y.im.val, ((1 : Zq)).re.val, ((1 : Zq)).im.val]))] [] w4 := Kept.zero K4.nb (rowsC (K4.at 0 rfl) (rowsC (K4.at 1 rfl) (rowsC ⟨_, G4_s⟩ rows0)))
 clear O2K1 G4_s G3_10 GO2K1
 refine k_end ?_
 go_simp
 go_wp2_with fail
 obtain ⟨TR, hR⟩ := K5.at 2 rfl
 exact bodyPost_ret_by (results_cell_row rfl _ _ (w.heap.size + 1 + 1) _ (dgL [x.re.val, x.im.val, y.re.val, y.im.val, ((1 : Zq)).re.val, ((1 : Zq)).im.val]) _ _ rfl hR Tryd.underlying41 rfl (by kernel_rfl)) rfl ⟨rfl, K5.nb⟩
set_option maxRecDepth 100000 in
set_option maxHeartbeats 1000000 in
theorem dD_c {w : World}  :
   Calls Tryd.prog 32 #[] w fun e w' => e = .returned (.agg (dgQ dd.re.val dd.im.val)) ∧ Below w.heap.size w w' := by
 go_enter Tryd.func32, Tryd.ntmps32
 go_upto_region 1 with (fail)
 refine wp_gen (fun WW => Kept w [(w.heap.size, (dgQ 0 0))] [] WW) (Kept.zero (nb_alloc (Below.refl _ _) _) (rowsC (row_as (hp1_0 (w := w) _) (by kernel_rfl)) rows0)) ?_
 intro W0 K0
 have O0K1 := K0.at 0 rfl
 obtain ⟨T0K1, O0K1⟩ := O0K1
 have K1 : Kept w [] [(w.heap.size, 16)] W0 := Kept.mks K0.nb rows0 (roomsC (by kernel_rfl) O0K1 rooms0)
 refine wsA (opsAt Tryd.f32 1) ((false, 0) :: (false, 1) :: (true, 2) :: (false, 3) :: []) (Kept w [] [(w.heap.size, 16)]) K1 ?_
 refine kc (d := some 1) (f := 67) (args := #[.int .u64 228, .int .u64 322]) (v := .agg (dgA (digs 8 dd.re.val))) (number_z (hi := 228) (lo := 322) (x := dd.re) (by decide) (by decide) (by decide +kernel)) (fun w2 hb2 => ⟨K1.go hb2, ?_⟩)
 have K2 := K1.go hb2
 have G2_10 := nb_heap O0K1 _ hb2
 have L2 := hb2.size
 refine kc (d := some 2) (f := 67) (args := #[.int .u64 6793450808610906364, .int .u64 12934923658169420941]) (v := .agg (dgA (digs 8 dd.im.val))) (number_z (hi := 6793450808610906364) (lo := 12934923658169420941) (x := dd.im) (by decide) (by decide) (by decide +kernel)) (fun w3 hb3 => ⟨K2.go hb3, ?_⟩)
 have K3 := K2.go hb3
 have G3_10 := nb_heap G2_10 _ hb3
 have L3 := hb3.size
 refine kp (d := some 3) (v := .agg (dgQ dd.re.val dd.im.val)) ?_
 refine k_put (by kernel_rfl) (d := none) (by kernel_rfl) (ty := 39) (x := (.tmp 0)) (y := (.tmp 3)) (by kernel_rfl) (g := w.heap.size) (cells := (dgQ dd.re.val dd.im.val)) (by kernel_rfl) (by kernel_rfl) G3_10 (by kernel_rfl) (by kernel_rfl) (all_dgA _) (K3.puti (n := 16) (by kernel_rfl) (by omega) ne0 (nsE ns0)) ?_
 intro w4 hw4 K4
 have G4_s : w4.heap[w.heap.size]? = some (.cells (dgQ dd.re.val dd.im.val) _ (0, 0)) := hw4 ▸ setRow_heap _ _ _ _ _ _ G3_10
 have L4 : w3.heap.size ≤ w4.heap.size := by rw [hw4]; exact Nat.le_of_eq (size_setRow _ _ _).symm
 clear hw4
 have K5 : Kept w [(w.heap.size, (dgQ dd.re.val dd.im.val))] [] w4 := Kept.zero K4.nb (rowsC ⟨_, G4_s⟩ rows0)
 clear O0K1 G4_s G3_10 G2_10
 refine k_end ?_
 go_simp
 go_wp2_with fail
 obtain ⟨TR, hR⟩ := K5.at 0 rfl
 exact bodyPost_ret_by (results_cell_row rfl _ _ (w.heap.size) _ (dgQ dd.re.val dd.im.val) _ _ rfl hR Tryd.underlying39 rfl (by kernel_rfl)) rfl ⟨rfl, K5.nb⟩
set_option maxRecDepth 100000 in
set_option maxHeartbeats 1000000 in
theorem zeroP_c {w : World}  :
   Calls Tryd.prog 17 #[] w fun e w' => e = .returned (.agg (dgL [((0 : Zq)).re.val, ((0 : Zq)).im.val, ((1 : Zq)).re.val, ((1 : Zq)).im.val, ((1 : Zq)).re.val, ((1 : Zq)).im.val])) ∧ Below w.heap.size w w' := by
 go_enter Tryd.func17, Tryd.ntmps17
 go_upto_region 1 with (fail)
 refine wp_gen (fun WW => Kept w [(w.heap.size, (dgL [0, 0, 0, 0, 0, 0]))] [] WW) (Kept.zero (nb_alloc (Below.refl _ _) _) (rowsC (row_as (hp1_0 (w := w) _) (by kernel_rfl)) rows0)) ?_
 intro W0 K0
 have O0K1 := K0.at 0 rfl
 obtain ⟨T0K1, O0K1⟩ := O0K1
 have K1 : Kept w [] [(w.heap.size, 48)] W0 := Kept.mks K0.nb rows0 (roomsC (by kernel_rfl) O0K1 rooms0)
 refine wsA (opsAt Tryd.f17 1) ((true, 0) :: (false, 1) :: (false, 2) :: (false, 3) :: []) (Kept w [] [(w.heap.size, 48)]) K1 ?_
 refine kp (d := some 1) (v := .agg (dgQ (((0 : Zq)).re.val) (((0 : Zq)).im.val))) ?_
 refine kc (d := some 2) (f := 53) (args := #[]) (v := .agg (dgQ (((1 : Zq)).re.val) (((1 : Zq)).im.val))) (one_q) (fun w2 hb2 => ⟨K1.go hb2, ?_⟩)
 have K2 := K1.go hb2
 have G2_10 := nb_heap O0K1 _ hb2
 have L2 := hb2.size
 refine kc (d := some 3) (f := 52) (args := #[.agg (dgQ (((0 : Zq)).re.val) (((0 : Zq)).im.val)), .agg (dgQ (((1 : Zq)).re.val) (((1 : Zq)).im.val))]) (v := .agg (dgL [((0 : Zq)).re.val, ((0 : Zq)).im.val, ((1 : Zq)).re.val, ((1 : Zq)).im.val, ((1 : Zq)).re.val, ((1 : Zq)).im.val])) (atP_c (x := 0) (y := 1)) (fun w3 hb3 => ⟨K2.go hb3, ?_⟩)
 have K3 := K2.go hb3
 have G3_10 := nb_heap G2_10 _ hb3
 have L3 := hb3.size
 refine k_put (by kernel_rfl) (d := none) (by kernel_rfl) (ty := 41) (x := (.tmp 0)) (y := (.tmp 3)) (by kernel_rfl) (g := w.heap.size) (cells := (dgL [((0 : Zq)).re.val, ((0 : Zq)).im.val, ((1 : Zq)).re.val, ((1 : Zq)).im.val, ((1 : Zq)).re.val, ((1 : Zq)).im.val])) (by kernel_rfl) (by kernel_rfl) G3_10 (by kernel_rfl) (by kernel_rfl) (all_dgA _) (K3.puti (n := 48) (by kernel_rfl) (by omega) ne0 (nsE ns0)) ?_
 intro w4 hw4 K4
 have G4_s : w4.heap[w.heap.size]? = some (.cells (dgL [((0 : Zq)).re.val, ((0 : Zq)).im.val, ((1 : Zq)).re.val, ((1 : Zq)).im.val, ((1 : Zq)).re.val, ((1 : Zq)).im.val]) _ (0, 0)) := hw4 ▸ setRow_heap _ _ _ _ _ _ G3_10
 have L4 : w3.heap.size ≤ w4.heap.size := by rw [hw4]; exact Nat.le_of_eq (size_setRow _ _ _).symm
 clear hw4
 have K5 : Kept w [(w.heap.size, (dgL [((0 : Zq)).re.val, ((0 : Zq)).im.val, ((1 : Zq)).re.val, ((1 : Zq)).im.val, ((1 : Zq)).re.val, ((1 : Zq)).im.val]))] [] w4 := Kept.zero K4.nb (rowsC ⟨_, G4_s⟩ rows0)
 clear O0K1 G4_s G3_10 G2_10
 refine k_end ?_
 go_simp
 go_wp2_with fail
 obtain ⟨TR, hR⟩ := K5.at 0 rfl
 exact bodyPost_ret_by (results_cell_row rfl _ _ (w.heap.size) _ (dgL [((0 : Zq)).re.val, ((0 : Zq)).im.val, ((1 : Zq)).re.val, ((1 : Zq)).im.val, ((1 : Zq)).re.val, ((1 : Zq)).im.val]) _ _ rfl hR Tryd.underlying41 rfl (by kernel_rfl)) rfl ⟨rfl, K5.nb⟩
set_option maxRecDepth 100000 in
set_option maxHeartbeats 1000000 in
theorem isPoint_t {w : World} {x y : Zq} (h : OnC x y) :
   Calls Tryd.prog 38 #[.agg (dgQ x.re.val x.im.val), .agg (dgQ y.re.val y.im.val)] w fun e w' => e = .returned (.bool true) ∧ Below w.heap.size w w' := by
 go_enter Tryd.func38, Tryd.ntmps38
 go_upto_region 1 with (fail)
 refine wp_gen (fun WW => Kept w [(w.heap.size, (dgQ x.re.val x.im.val)), (w.heap.size + 1, (dgQ y.re.val y.im.val))] [] WW) (Kept.zero (nb_alloc (nb_alloc (Below.refl _ _) _) _) (rowsC (row_as (hp2_0 (w := w) _ _) (by kernel_rfl)) (rowsC (row_as (hp2_1 (w := w) _ _) (by kernel_rfl)) rows0))) ?_
 intro W0 K0
 have K1 : Kept w [(w.heap.size, (dgQ x.re.val x.im.val)), (w.heap.size + 1, (dgQ y.re.val y.im.val))] [] W0 := Kept.mks K0.nb (rowsC (K0.at 0 rfl) (rowsC (K0.at 1 rfl) rows0)) rooms0
 have RK1_0 : w.heap.size < W0.heap.size := (by obtain ⟨T, h⟩ := K0.at 0 rfl; exact lt_of_heap h)
 have RK1_1 : w.heap.size + 1 < W0.heap.size := (by obtain ⟨T, h⟩ := K0.at 1 rfl; exact lt_of_heap h)
 refine wp_meet (fun a' w' => ∃ p5 p6 : Nat, a' = { tmps := #[.agg (dgQ x.re.val x.im.val), .agg (dgQ y.re.val y.im.val), .pointer (some ⟨w.heap.size, 0, none⟩), .pointer (some ⟨w.heap.size + 1, 0, none⟩), .bool false, .pointer (some ⟨p5, 0, none⟩), .pointer (some ⟨p6, 0, none⟩), .agg (dgQ x.re.val x.im.val), .agg (dgQ x.re.val x.im.val), .agg (dgQ (((x * x)).re.val) (((x * x)).im.val)), .agg (dgQ y.re.val y.im.val), .agg (dgQ y.re.val y.im.val), .agg (dgQ (((y * y)).re.val) (((y * y)).im.val)), undef, undef, undef, undef, undef, undef, undef, undef, undef, undef, undef], defers := [] } ∧ Kept w [(w.heap.size, (dgQ x.re.val x.im.val)), (w.heap.size + 1, (dgQ y.re.val y.im.val)), (p5, (dgQ (((x * x)).re.val) (((x * x)).im.val))), (p6, (dgQ (((y * y)).re.val) (((y * y)).im.val)))] [] w' ∧ W0.heap.size ≤ p5 ∧ W0.heap.size ≤ p6 ∧ p5 ≠ p6) ?_ ?_
 · refine wp_tree_at (opsAt Tryd.f38 1) (.take 0 (.take 1 (.take 3 (.take 4 (.fork 2 (.fork 5 (.fork 6 (.fork 7 (.fork 8 (.fork 9 .done .nil) .nil) .nil) (.fork 7 (.fork 6 (.fork 8 (.fork 9 .done .nil) .nil) .nil) .nil)) (.fork 6 (.fork 5 (.fork 7 (.fork 8 (.fork 9 .done .nil) .nil) .nil) (.fork 7 (.fork 5 (.fork 8 (.fork 9 .done .nil) .nil) .nil) .nil)) (.fork 7 (.fork 5 (.fork 6 (.fork 8 (.fork 9 .done .nil) .nil) .nil) (.fork 6 (.fork 5 (.fork 8 (.fork 9 .done .nil) .nil) .nil) .nil)) .nil))) (.fork 6 (.fork 2 (.fork 5 (.fork 7 (.fork 8 (.fork 9 .done .nil) .nil) .nil) (.fork 7 (.fork 5 (.fork 8 (.fork 9 .done .nil) .nil) .nil) .nil)) (.fork 7 (.fork 2 (.fork 5 (.fork 8 (.fork 9 .done .nil) .nil) .nil) .nil) .nil)) (.fork 7 (.fork 2 (.fork 5 (.fork 6 (.fork 8 (.fork 9 .done .nil) .nil) .nil) (.fork 6 (.fork 5 (.fork 8 (.fork 9 .done .nil) .nil) .nil) .nil)) (.fork 6 (.fork 2 (.fork 5 (.fork 8 (.fork 9 .done .nil) .nil) .nil) .nil) .nil)) .nil))))))) (Kept w [(w.heap.size, (dgQ x.re.val x.im.val)), (w.heap.size + 1, (dgQ y.re.val y.im.val))] []) (by kernel_rfl) rfl (by kernel_rfl) (by intro c a d v w h; exact absurd h.1 (by simp)) (by kernel_rfl) (by kernel_rfl) K1.drew ?_
   have K2 := K1.drew
   have DK2 : W0.heap.size ≤ W0.drew.heap.size := Nat.le_refl _
   refine t_row (by kernel_rfl) (d := (some 7)) (by kernel_rfl) (ty := 39) (x := (.tmp 2)) (by kernel_rfl) (b := w.heap.size) (by kernel_rfl) (cs := (dgQ x.re.val x.im.val)) (fun _ hs => hs.at 0 rfl) Tryd.underlying39 rfl (by kernel_rfl) ?_
   refine t_row (by kernel_rfl) (d := (some 8)) (by kernel_rfl) (ty := 39) (x := (.tmp 2)) (by kernel_rfl) (b := w.heap.size) (by kernel_rfl) (cs := (dgQ x.re.val x.im.val)) (fun _ hs => hs.at 0 rfl) Tryd.underlying39 rfl (by kernel_rfl) ?_
   refine t_row (by kernel_rfl) (d := (some 10)) (by kernel_rfl) (ty := 39) (x := (.tmp 3)) (by kernel_rfl) (b := w.heap.size + 1) (by kernel_rfl) (cs := (dgQ y.re.val y.im.val)) (fun _ hs => hs.at 1 rfl) Tryd.underlying39 rfl (by kernel_rfl) ?_
   refine t_row (by kernel_rfl) (d := (some 11)) (by kernel_rfl) (ty := 39) (x := (.tmp 3)) (by kernel_rfl) (b := w.heap.size + 1) (by kernel_rfl) (cs := (dgQ y.re.val y.im.val)) (fun _ hs => hs.at 1 rfl) Tryd.underlying39 rfl (by kernel_rfl) ?_
   refine tc (d := some 9) (f := 25) (args := #[.agg (dgQ x.re.val x.im.val), .agg (dgQ x.re.val x.im.val)]) (v := .agg (dgQ (((x * x)).re.val) (((x * x)).im.val))) (mulQ_q) (fun w3 hb3 => ⟨K2.go hb3, ?_⟩) ?_
   · have K3 := K2.go hb3
     have L3 := hb3.size
     refine tc (d := some 12) (f := 25) (args := #[.agg (dgQ y.re.val y.im.val), .agg (dgQ y.re.val y.im.val)]) (v := .agg (dgQ (((y * y)).re.val) (((y * y)).im.val))) (mulQ_q) (fun w4 hb4 => ⟨K3.go hb4, ?_⟩) ?_
     · have K4 := K3.go hb4
       have L4 := hb4.size
       refine t_make (by kernel_rfl) (d := (some 5)) (by kernel_rfl) (v := .pointer (some ⟨w4.heap.size, 0, none⟩)) (w' := w4.alloc (.cells (dgQ 0 0) 39)) (by kernel_rfl) (K4.go ((Below.refl _ _).alloc (Nat.le_refl _) _)) ?_ ?_
       · intro w5 hw5 K5
         have G5_n : w5.heap[w4.heap.size]? = some (.cells (dgQ 0 0) 39 (0, 0)) := hw5 ▸ heap_alloc_new _ _
         have S5 : w4.heap.size < w5.heap.size := lt_of_heap G5_n
         have R5_0 : w.heap.size < w4.heap.size := (by obtain ⟨T, h⟩ := K4.at 0 rfl; exact lt_of_heap h)
         have R5_1 : w.heap.size + 1 < w4.heap.size := (by obtain ⟨T, h⟩ := K4.at 1 rfl; exact lt_of_heap h)
         have Z5 : w.heap.size ≤ w4.heap.size := K4.nb.size
         clear hw5
         refine t_make (by kernel_rfl) (d := (some 6)) (by kernel_rfl) (v := .pointer (some ⟨w5.heap.size, 0, none⟩)) (w' := w5.alloc (.cells (dgQ 0 0) 39)) (by kernel_rfl) (K5.go ((Below.refl _ _).alloc (Nat.le_refl _) _)) ?_ ?_
         · intro w6 hw6 K6
           have L6_0 := lt_of_heap G5_n
           have G6_0 : w6.heap[w4.heap.size]? = some (.cells (dgQ 0 0) _ (0, 0)) := hw6 ▸ hp_alloc G5_n _
           have G6_n : w6.heap[w5.heap.size]? = some (.cells (dgQ 0 0) 39 (0, 0)) := hw6 ▸ heap_alloc_new _ _
           have S6 : w5.heap.size < w6.heap.size := lt_of_heap G6_n
           have R6_0 : w.heap.size < w5.heap.size := (by obtain ⟨T, h⟩ := K5.at 0 rfl; exact lt_of_heap h)
           have R6_1 : w.heap.size + 1 < w5.heap.size := (by obtain ⟨T, h⟩ := K5.at 1 rfl; exact lt_of_heap h)
           have Z6 : w.heap.size ≤ w5.heap.size := K5.nb.size
           clear hw6
           refine t_store (by kernel_rfl) (d := none) (by kernel_rfl) (ty := 39) (x := (.tmp 5)) (y := (.tmp 9)) (by kernel_rfl) (g := w4.heap.size) (cells := (dgQ (((x * x)).re.val) (((x * x)).im.val))) (by kernel_rfl) (by kernel_rfl) G6_0 (by kernel_rfl) (by kernel_rfl) (all_dgA _) (K6.puti (n := 16) (by kernel_rfl) (by omega) (neC (by omega) (neC (by omega) ne0)) ns0) ?_ ?_
           · intro w7 hw7 K7
             have G7_s : w7.heap[w4.heap.size]? = some (.cells (dgQ (((x * x)).re.val) (((x * x)).im.val)) _ (0, 0)) := hw7 ▸ setRow_heap _ _ _ _ _ _ G6_0
             have G7_1 : w7.heap[w5.heap.size]? = some (.cells (dgQ 0 0) _ (0, 0)) := hw7 ▸ (setRow_other _ _ _ _ (by omega)).trans G6_n
             have L7 : w6.heap.size ≤ w7.heap.size := by rw [hw7]; exact Nat.le_of_eq (size_setRow _ _ _).symm
             clear hw7
             refine t_store (by kernel_rfl) (d := none) (by kernel_rfl) (ty := 39) (x := (.tmp 6)) (y := (.tmp 12)) (by kernel_rfl) (g := w5.heap.size) (cells := (dgQ (((y * y)).re.val) (((y * y)).im.val))) (by kernel_rfl) (by kernel_rfl) G7_1 (by kernel_rfl) (by kernel_rfl) (all_dgA _) (K7.puti (n := 16) (by kernel_rfl) (by omega) (neC (by omega) (neC (by omega) ne0)) ns0) ?_ ?_
             · intro w8 hw8 K8
               have G8_s : w8.heap[w5.heap.size]? = some (.cells (dgQ (((y * y)).re.val) (((y * y)).im.val)) _ (0, 0)) := hw8 ▸ setRow_heap _ _ _ _ _ _ G7_1
               have G8_0 : w8.heap[w4.heap.size]? = some (.cells (dgQ (((x * x)).re.val) (((x * x)).im.val)) _ (0, 0)) := hw8 ▸ (setRow_other _ _ _ _ (by omega)).trans G7_s
               have L8 : w7.heap.size ≤ w8.heap.size := by rw [hw8]; exact Nat.le_of_eq (size_setRow _ _ _).symm
               clear hw8
               exact t_done ⟨rfl, w4.heap.size, w5.heap.size, by kernel_rfl, Kept.zero K8.nb (rowsC (K8.at 0 rfl) (rowsC (K8.at 1 rfl) (rowsC ⟨_, G8_0⟩ (rowsC ⟨_, G8_s⟩ rows0)))), (by omega), (by omega), (by omega)⟩
             ·
               exact t_nil
           ·
             exact t_nil
         ·
           exact t_nil
       ·
         refine t_make (by kernel_rfl) (d := (some 6)) (by kernel_rfl) (v := .pointer (some ⟨w4.heap.size, 0, none⟩)) (w' := w4.alloc (.cells (dgQ 0 0) 39)) (by kernel_rfl) (K4.go ((Below.refl _ _).alloc (Nat.le_refl _) _)) ?_ ?_
         · intro w9 hw9 K9
           have G9_n : w9.heap[w4.heap.size]? = some (.cells (dgQ 0 0) 39 (0, 0)) := hw9 ▸ heap_alloc_new _ _
           have S9 : w4.heap.size < w9.heap.size := lt_of_heap G9_n
           have R9_0 : w.heap.size < w4.heap.size := (by obtain ⟨T, h⟩ := K4.at 0 rfl; exact lt_of_heap h)
           have R9_1 : w.heap.size + 1 < w4.heap.size := (by obtain ⟨T, h⟩ := K4.at 1 rfl; exact lt_of_heap h)
           have Z9 : w.heap.size ≤ w4.heap.size := K4.nb.size
           clear hw9
           refine t_make (by kernel_rfl) (d := (some 5)) (by kernel_rfl) (v := .pointer (some ⟨w9.heap.size, 0, none⟩)) (w' := w9.alloc (.cells (dgQ 0 0) 39)) (by kernel_rfl) (K9.go ((Below.refl _ _).alloc (Nat.le_refl _) _)) ?_ ?_
           · intro w10 hw10 K10
             have L10_0 := lt_of_heap G9_n
             have G10_0 : w10.heap[w4.heap.size]? = some (.cells (dgQ 0 0) _ (0, 0)) := hw10 ▸ hp_alloc G9_n _
             have G10_n : w10.heap[w9.heap.size]? = some (.cells (dgQ 0 0) 39 (0, 0)) := hw10 ▸ heap_alloc_new _ _
             have S10 : w9.heap.size < w10.heap.size := lt_of_heap G10_n
             have R10_0 : w.heap.size < w9.heap.size := (by obtain ⟨T, h⟩ := K9.at 0 rfl; exact lt_of_heap h)
             have R10_1 : w.heap.size + 1 < w9.heap.size := (by obtain ⟨T, h⟩ := K9.at 1 rfl; exact lt_of_heap h)
             have Z10 : w.heap.size ≤ w9.heap.size := K9.nb.size
             clear hw10
             refine t_store (by kernel_rfl) (d := none) (by kernel_rfl) (ty := 39) (x := (.tmp 5)) (y := (.tmp 9)) (by kernel_rfl) (g := w9.heap.size) (cells := (dgQ (((x * x)).re.val) (((x * x)).im.val))) (by kernel_rfl) (by kernel_rfl) G10_n (by kernel_rfl) (by kernel_rfl) (all_dgA _) (K10.puti (n := 16) (by kernel_rfl) (by omega) (neC (by omega) (neC (by omega) ne0)) ns0) ?_ ?_
             · intro w11 hw11 K11
               have G11_s : w11.heap[w9.heap.size]? = some (.cells (dgQ (((x * x)).re.val) (((x * x)).im.val)) _ (0, 0)) := hw11 ▸ setRow_heap _ _ _ _ _ _ G10_n
               have G11_0 : w11.heap[w4.heap.size]? = some (.cells (dgQ 0 0) _ (0, 0)) := hw11 ▸ (setRow_other _ _ _ _ (by omega)).trans G10_0
               have L11 : w10.heap.size ≤ w11.heap.size := by rw [hw11]; exact Nat.le_of_eq (size_setRow _ _ _).symm
               clear hw11
               refine t_store (by kernel_rfl) (d := none) (by kernel_rfl) (ty := 39) (x := (.tmp 6)) (y := (.tmp 12)) (by kernel_rfl) (g := w4.heap.size) (cells := (dgQ (((y * y)).re.val) (((y * y)).im.val))) (by kernel_rfl) (by kernel_rfl) G11_0 (by kernel_rfl) (by kernel_rfl) (all_dgA _) (K11.puti (n := 16) (by kernel_rfl) (by omega) (neC (by omega) (neC (by omega) ne0)) ns0) ?_ ?_
               · intro w12 hw12 K12
                 have G12_s : w12.heap[w4.heap.size]? = some (.cells (dgQ (((y * y)).re.val) (((y * y)).im.val)) _ (0, 0)) := hw12 ▸ setRow_heap _ _ _ _ _ _ G11_0
                 have G12_1 : w12.heap[w9.heap.size]? = some (.cells (dgQ (((x * x)).re.val) (((x * x)).im.val)) _ (0, 0)) := hw12 ▸ (setRow_other _ _ _ _ (by omega)).trans G11_s
                 have L12 : w11.heap.size ≤ w12.heap.size := by rw [hw12]; exact Nat.le_of_eq (size_setRow _ _ _).symm
                 clear hw12
                 exact t_done ⟨rfl, w9.heap.size, w4.heap.size, by kernel_rfl, Kept.zero K12.nb (rowsC (K12.at 0 rfl) (rowsC (K12.at 1 rfl) (rowsC ⟨_, G12_1⟩ (rowsC ⟨_, G12_s⟩ rows0)))), (by omega), (by omega), (by omega)⟩
               ·
                 exact t_nil
             ·
               exact t_nil
           ·
             exact t_nil
         ·
           exact t_nil
     ·
       refine t_make (by kernel_rfl) (d := (some 5)) (by kernel_rfl) (v := .pointer (some ⟨w3.heap.size, 0, none⟩)) (w' := w3.alloc (.cells (dgQ 0 0) 39)) (by kernel_rfl) (K3.go ((Below.refl _ _).alloc (Nat.le_refl _) _)) ?_ ?_
       · intro w13 hw13 K13
         have G13_n : w13.heap[w3.heap.size]? = some (.cells (dgQ 0 0) 39 (0, 0)) := hw13 ▸ heap_alloc_new _ _
         have S13 : w3.heap.size < w13.heap.size := lt_of_heap G13_n
         have R13_0 : w.heap.size < w3.heap.size := (by obtain ⟨T, h⟩ := K3.at 0 rfl; exact lt_of_heap h)
         have R13_1 : w.heap.size + 1 < w3.heap.size := (by obtain ⟨T, h⟩ := K3.at 1 rfl; exact lt_of_heap h)
         have Z13 : w.heap.size ≤ w3.heap.size := K3.nb.size
         clear hw13
         refine tc (d := some 12) (f := 25) (args := #[.agg (dgQ y.re.val y.im.val), .agg (dgQ y.re.val y.im.val)]) (v := .agg (dgQ (((y * y)).re.val) (((y * y)).im.val))) (mulQ_q) (fun w14 hb14 => ⟨K13.go hb14, ?_⟩) ?_
         · have K14 := K13.go hb14
           have G14_10 := nb_heap G13_n _ hb14
           have L14 := hb14.size
           refine t_make (by kernel_rfl) (d := (some 6)) (by kernel_rfl) (v := .pointer (some ⟨w14.heap.size, 0, none⟩)) (w' := w14.alloc (.cells (dgQ 0 0) 39)) (by kernel_rfl) (K14.go ((Below.refl _ _).alloc (Nat.le_refl _) _)) ?_ ?_
           · intro w15 hw15 K15
             have L15_0 := lt_of_heap G14_10
             have G15_0 : w15.heap[w3.heap.size]? = some (.cells (dgQ 0 0) _ (0, 0)) := hw15 ▸ hp_alloc G14_10 _
             have G15_n : w15.heap[w14.heap.size]? = some (.cells (dgQ 0 0) 39 (0, 0)) := hw15 ▸ heap_alloc_new _ _
             have S15 : w14.heap.size < w15.heap.size := lt_of_heap G15_n
             have R15_0 : w.heap.size < w14.heap.size := (by obtain ⟨T, h⟩ := K14.at 0 rfl; exact lt_of_heap h)
             have R15_1 : w.heap.size + 1 < w14.heap.size := (by obtain ⟨T, h⟩ := K14.at 1 rfl; exact lt_of_heap h)
             have Z15 : w.heap.size ≤ w14.heap.size := K14.nb.size
             clear hw15
             refine t_store (by kernel_rfl) (d := none) (by kernel_rfl) (ty := 39) (x := (.tmp 5)) (y := (.tmp 9)) (by kernel_rfl) (g := w3.heap.size) (cells := (dgQ (((x * x)).re.val) (((x * x)).im.val))) (by kernel_rfl) (by kernel_rfl) G15_0 (by kernel_rfl) (by kernel_rfl) (all_dgA _) (K15.puti (n := 16) (by kernel_rfl) (by omega) (neC (by omega) (neC (by omega) ne0)) ns0) ?_ ?_
             · intro w16 hw16 K16
               have G16_s : w16.heap[w3.heap.size]? = some (.cells (dgQ (((x * x)).re.val) (((x * x)).im.val)) _ (0, 0)) := hw16 ▸ setRow_heap _ _ _ _ _ _ G15_0
               have G16_1 : w16.heap[w14.heap.size]? = some (.cells (dgQ 0 0) _ (0, 0)) := hw16 ▸ (setRow_other _ _ _ _ (by omega)).trans G15_n
               have L16 : w15.heap.size ≤ w16.heap.size := by rw [hw16]; exact Nat.le_of_eq (size_setRow _ _ _).symm
               clear hw16
               refine t_store (by kernel_rfl) (d := none) (by kernel_rfl) (ty := 39) (x := (.tmp 6)) (y := (.tmp 12)) (by kernel_rfl) (g := w14.heap.size) (cells := (dgQ (((y * y)).re.val) (((y * y)).im.val))) (by kernel_rfl) (by kernel_rfl) G16_1 (by kernel_rfl) (by kernel_rfl) (all_dgA _) (K16.puti (n := 16) (by kernel_rfl) (by omega) (neC (by omega) (neC (by omega) ne0)) ns0) ?_ ?_
               · intro w17 hw17 K17
                 have G17_s : w17.heap[w14.heap.size]? = some (.cells (dgQ (((y * y)).re.val) (((y * y)).im.val)) _ (0, 0)) := hw17 ▸ setRow_heap _ _ _ _ _ _ G16_1
                 have G17_0 : w17.heap[w3.heap.size]? = some (.cells (dgQ (((x * x)).re.val) (((x * x)).im.val)) _ (0, 0)) := hw17 ▸ (setRow_other _ _ _ _ (by omega)).trans G16_s
                 have L17 : w16.heap.size ≤ w17.heap.size := by rw [hw17]; exact Nat.le_of_eq (size_setRow _ _ _).symm
                 clear hw17
                 exact t_done ⟨rfl, w3.heap.size, w14.heap.size, by kernel_rfl, Kept.zero K17.nb (rowsC (K17.at 0 rfl) (rowsC (K17.at 1 rfl) (rowsC ⟨_, G17_0⟩ (rowsC ⟨_, G17_s⟩ rows0)))), (by omega), (by omega), (by omega)⟩
               ·
                 exact t_nil
             ·
               exact t_nil
           ·
             exact t_nil
         ·
           refine t_make (by kernel_rfl) (d := (some 6)) (by kernel_rfl) (v := .pointer (some ⟨w13.heap.size, 0, none⟩)) (w' := w13.alloc (.cells (dgQ 0 0) 39)) (by kernel_rfl) (K13.go ((Below.refl _ _).alloc (Nat.le_refl _) _)) ?_ ?_
           · intro w18 hw18 K18
             have L18_0 := lt_of_heap G13_n
             have G18_0 : w18.heap[w3.heap.size]? = some (.cells (dgQ 0 0) _ (0, 0)) := hw18 ▸ hp_alloc G13_n _
             have G18_n : w18.heap[w13.heap.size]? = some (.cells (dgQ 0 0) 39 (0, 0)) := hw18 ▸ heap_alloc_new _ _
             have S18 : w13.heap.size < w18.heap.size := lt_of_heap G18_n
             have R18_0 : w.heap.size < w13.heap.size := (by obtain ⟨T, h⟩ := K13.at 0 rfl; exact lt_of_heap h)
             have R18_1 : w.heap.size + 1 < w13.heap.size := (by obtain ⟨T, h⟩ := K13.at 1 rfl; exact lt_of_heap h)
             have Z18 : w.heap.size ≤ w13.heap.size := K13.nb.size
             clear hw18
             refine tc (d := some 12) (f := 25) (args := #[.agg (dgQ y.re.val y.im.val), .agg (dgQ y.re.val y.im.val)]) (v := .agg (dgQ (((y * y)).re.val) (((y * y)).im.val))) (mulQ_q) (fun w19 hb19 => ⟨K18.go hb19, ?_⟩) ?_
             · have K19 := K18.go hb19
               have G19_20 := nb_heap G18_0 _ hb19
               have G19_21 := nb_heap G18_n _ hb19
               have L19 := hb19.size
               refine t_store (by kernel_rfl) (d := none) (by kernel_rfl) (ty := 39) (x := (.tmp 5)) (y := (.tmp 9)) (by kernel_rfl) (g := w3.heap.size) (cells := (dgQ (((x * x)).re.val) (((x * x)).im.val))) (by kernel_rfl) (by kernel_rfl) G19_20 (by kernel_rfl) (by kernel_rfl) (all_dgA _) (K19.puti (n := 16) (by kernel_rfl) (by omega) (neC (by omega) (neC (by omega) ne0)) ns0) ?_ ?_
               · intro w20 hw20 K20
                 have G20_s : w20.heap[w3.heap.size]? = some (.cells (dgQ (((x * x)).re.val) (((x * x)).im.val)) _ (0, 0)) := hw20 ▸ setRow_heap _ _ _ _ _ _ G19_20
                 have G20_1 : w20.heap[w13.heap.size]? = some (.cells (dgQ 0 0) _ (0, 0)) := hw20 ▸ (setRow_other _ _ _ _ (by omega)).trans G19_21
                 have L20 : w19.heap.size ≤ w20.heap.size := by rw [hw20]; exact Nat.le_of_eq (size_setRow _ _ _).symm
                 clear hw20
                 refine t_store (by kernel_rfl) (d := none) (by kernel_rfl) (ty := 39) (x := (.tmp 6)) (y := (.tmp 12)) (by kernel_rfl) (g := w13.heap.size) (cells := (dgQ (((y * y)).re.val) (((y * y)).im.val))) (by kernel_rfl) (by kernel_rfl) G20_1 (by kernel_rfl) (by kernel_rfl) (all_dgA _) (K20.puti (n := 16) (by kernel_rfl) (by omega) (neC (by omega) (neC (by omega) ne0)) ns0) ?_ ?_
                 · intro w21 hw21 K21
                   have G21_s : w21.heap[w13.heap.size]? = some (.cells (dgQ (((y * y)).re.val) (((y * y)).im.val)) _ (0, 0)) := hw21 ▸ setRow_heap _ _ _ _ _ _ G20_1
                   have G21_0 : w21.heap[w3.heap.size]? = some (.cells (dgQ (((x * x)).re.val) (((x * x)).im.val)) _ (0, 0)) := hw21 ▸ (setRow_other _ _ _ _ (by omega)).trans G20_s
                   have L21 : w20.heap.size ≤ w21.heap.size := by rw [hw21]; exact Nat.le_of_eq (size_setRow _ _ _).symm
                   clear hw21
                   exact t_done ⟨rfl, w3.heap.size, w13.heap.size, by kernel_rfl, Kept.zero K21.nb (rowsC (K21.at 0 rfl) (rowsC (K21.at 1 rfl) (rowsC ⟨_, G21_0⟩ (rowsC ⟨_, G21_s⟩ rows0)))), (by omega), (by omega), (by omega)⟩
                 ·
                   exact t_nil
               ·
                 exact t_nil
             ·
               exact t_nil
           ·
             exact t_nil
       ·
         refine t_make (by kernel_rfl) (d := (some 6)) (by kernel_rfl) (v := .pointer (some ⟨w3.heap.size, 0, none⟩)) (w' := w3.alloc (.cells (dgQ 0 0) 39)) (by kernel_rfl) (K3.go ((Below.refl _ _).alloc (Nat.le_refl _) _)) ?_ ?_
         · intro w22 hw22 K22
           have G22_n : w22.heap[w3.heap.size]? = some (.cells (dgQ 0 0) 39 (0, 0)) := hw22 ▸ heap_alloc_new _ _
           have S22 : w3.heap.size < w22.heap.size := lt_of_heap G22_n
           have R22_0 : w.heap.size < w3.heap.size := (by obtain ⟨T, h⟩ := K3.at 0 rfl; exact lt_of_heap h)
           have R22_1 : w.heap.size + 1 < w3.heap.size := (by obtain ⟨T, h⟩ := K3.at 1 rfl; exact lt_of_heap h)
           have Z22 : w.heap.size ≤ w3.heap.size := K3.nb.size
           clear hw22
           refine tc (d := some 12) (f := 25) (args := #[.agg (dgQ y.re.val y.im.val), .agg (dgQ y.re.val y.im.val)]) (v := .agg (dgQ (((y * y)).re.val) (((y * y)).im.val))) (mulQ_q) (fun w23 hb23 => ⟨K22.go hb23, ?_⟩) ?_
           · have K23 := K22.go hb23
             have G23_10 := nb_heap G22_n _ hb23
             have L23 := hb23.size
             refine t_make (by kernel_rfl) (d := (some 5)) (by kernel_rfl) (v := .pointer (some ⟨w23.heap.size, 0, none⟩)) (w' := w23.alloc (.cells (dgQ 0 0) 39)) (by kernel_rfl) (K23.go ((Below.refl _ _).alloc (Nat.le_refl _) _)) ?_ ?_
             · intro w24 hw24 K24
               have L24_0 := lt_of_heap G23_10
               have G24_0 : w24.heap[w3.heap.size]? = some (.cells (dgQ 0 0) _ (0, 0)) := hw24 ▸ hp_alloc G23_10 _
               have G24_n : w24.heap[w23.heap.size]? = some (.cells (dgQ 0 0) 39 (0, 0)) := hw24 ▸ heap_alloc_new _ _
               have S24 : w23.heap.size < w24.heap.size := lt_of_heap G24_n
               have R24_0 : w.heap.size < w23.heap.size := (by obtain ⟨T, h⟩ := K23.at 0 rfl; exact lt_of_heap h)
               have R24_1 : w.heap.size + 1 < w23.heap.size := (by obtain ⟨T, h⟩ := K23.at 1 rfl; exact lt_of_heap h)
               have Z24 : w.heap.size ≤ w23.heap.size := K23.nb.size
               clear hw24
               refine t_store (by kernel_rfl) (d := none) (by kernel_rfl) (ty := 39) (x := (.tmp 5)) (y := (.tmp 9)) (by kernel_rfl) (g := w23.heap.size) (cells := (dgQ (((x * x)).re.val) (((x * x)).im.val))) (by kernel_rfl) (by kernel_rfl) G24_n (by kernel_rfl) (by kernel_rfl) (all_dgA _) (K24.puti (n := 16) (by kernel_rfl) (by omega) (neC (by omega) (neC (by omega) ne0)) ns0) ?_ ?_
               · intro w25 hw25 K25
                 have G25_s : w25.heap[w23.heap.size]? = some (.cells (dgQ (((x * x)).re.val) (((x * x)).im.val)) _ (0, 0)) := hw25 ▸ setRow_heap _ _ _ _ _ _ G24_n
                 have G25_0 : w25.heap[w3.heap.size]? = some (.cells (dgQ 0 0) _ (0, 0)) := hw25 ▸ (setRow_other _ _ _ _ (by omega)).trans G24_0
                 have L25 : w24.heap.size ≤ w25.heap.size := by rw [hw25]; exact Nat.le_of_eq (size_setRow _ _ _).symm
                 clear hw25
                 refine t_store (by kernel_rfl) (d := none) (by kernel_rfl) (ty := 39) (x := (.tmp 6)) (y := (.tmp 12)) (by kernel_rfl) (g := w3.heap.size) (cells := (dgQ (((y * y)).re.val) (((y * y)).im.val))) (by kernel_rfl) (by kernel_rfl) G25_0 (by kernel_rfl) (by kernel_rfl) (all_dgA _) (K25.puti (n := 16) (by kernel_rfl) (by omega) (neC (by omega) (neC (by omega) ne0)) ns0) ?_ ?_
                 · intro w26 hw26 K26
                   have G26_s : w26.heap[w3.heap.size]? = some (.cells (dgQ (((y * y)).re.val) (((y * y)).im.val)) _ (0, 0)) := hw26 ▸ setRow_heap _ _ _ _ _ _ G25_0
                   have G26_1 : w26.heap[w23.heap.size]? = some (.cells (dgQ (((x * x)).re.val) (((x * x)).im.val)) _ (0, 0)) := hw26 ▸ (setRow_other _ _ _ _ (by omega)).trans G25_s
                   have L26 : w25.heap.size ≤ w26.heap.size := by rw [hw26]; exact Nat.le_of_eq (size_setRow _ _ _).symm
                   clear hw26
                   exact t_done ⟨rfl, w23.heap.size, w3.heap.size, by kernel_rfl, Kept.zero K26.nb (rowsC (K26.at 0 rfl) (rowsC (K26.at 1 rfl) (rowsC ⟨_, G26_1⟩ (rowsC ⟨_, G26_s⟩ rows0)))), (by omega), (by omega), (by omega)⟩
                 ·
                   exact t_nil
               ·
                 exact t_nil
             ·
               exact t_nil
           ·
             refine t_make (by kernel_rfl) (d := (some 5)) (by kernel_rfl) (v := .pointer (some ⟨w22.heap.size, 0, none⟩)) (w' := w22.alloc (.cells (dgQ 0 0) 39)) (by kernel_rfl) (K22.go ((Below.refl _ _).alloc (Nat.le_refl _) _)) ?_ ?_
             · intro w27 hw27 K27
               have L27_0 := lt_of_heap G22_n
               have G27_0 : w27.heap[w3.heap.size]? = some (.cells (dgQ 0 0) _ (0, 0)) := hw27 ▸ hp_alloc G22_n _
               have G27_n : w27.heap[w22.heap.size]? = some (.cells (dgQ 0 0) 39 (0, 0)) := hw27 ▸ heap_alloc_new _ _
               have S27 : w22.heap.size < w27.heap.size := lt_of_heap G27_n
               have R27_0 : w.heap.size < w22.heap.size := (by obtain ⟨T, h⟩ := K22.at 0 rfl; exact lt_of_heap h)
               have R27_1 : w.heap.size + 1 < w22.heap.size := (by obtain ⟨T, h⟩ := K22.at 1 rfl; exact lt_of_heap h)
               have Z27 : w.heap.size ≤ w22.heap.size := K22.nb.size
               clear hw27
               refine tc (d := some 12) (f := 25) (args := #[.agg (dgQ y.re.val y.im.val), .agg (dgQ y.re.val y.im.val)]) (v := .agg (dgQ (((y * y)).re.val) (((y * y)).im.val))) (mulQ_q) (fun w28 hb28 => ⟨K27.go hb28, ?_⟩) ?_
               · have K28 := K27.go hb28
                 have G28_20 := nb_heap G27_0 _ hb28
                 have G28_21 := nb_heap G27_n _ hb28
                 have L28 := hb28.size
                 refine t_store (by kernel_rfl) (d := none) (by kernel_rfl) (ty := 39) (x := (.tmp 5)) (y := (.tmp 9)) (by kernel_rfl) (g := w22.heap.size) (cells := (dgQ (((x * x)).re.val) (((x * x)).im.val))) (by kernel_rfl) (by kernel_rfl) G28_21 (by kernel_rfl) (by kernel_rfl) (all_dgA _) (K28.puti (n := 16) (by kernel_rfl) (by omega) (neC (by omega) (neC (by omega) ne0)) ns0) ?_ ?_
                 · intro w29 hw29 K29
                   have G29_s : w29.heap[w22.heap.size]? = some (.cells (dgQ (((x * x)).re.val) (((x * x)).im.val)) _ (0, 0)) := hw29 ▸ setRow_heap _ _ _ _ _ _ G28_21
                   have G29_0 : w29.heap[w3.heap.size]? = some (.cells (dgQ 0 0) _ (0, 0)) := hw29 ▸ (setRow_other _ _ _ _ (by omega)).trans G28_20
                   have L29 : w28.heap.size ≤ w29.heap.size := by rw [hw29]; exact Nat.le_of_eq (size_setRow _ _ _).symm
                   clear hw29
                   refine t_store (by kernel_rfl) (d := none) (by kernel_rfl) (ty := 39) (x := (.tmp 6)) (y := (.tmp 12)) (by kernel_rfl) (g := w3.heap.size) (cells := (dgQ (((y * y)).re.val) (((y * y)).im.val))) (by kernel_rfl) (by kernel_rfl) G29_0 (by kernel_rfl) (by kernel_rfl) (all_dgA _) (K29.puti (n := 16) (by kernel_rfl) (by omega) (neC (by omega) (neC (by omega) ne0)) ns0) ?_ ?_
                   · intro w30 hw30 K30
                     have G30_s : w30.heap[w3.heap.size]? = some (.cells (dgQ (((y * y)).re.val) (((y * y)).im.val)) _ (0, 0)) := hw30 ▸ setRow_heap _ _ _ _ _ _ G29_0
                     have G30_1 : w30.heap[w22.heap.size]? = some (.cells (dgQ (((x * x)).re.val) (((x * x)).im.val)) _ (0, 0)) := hw30 ▸ (setRow_other _ _ _ _ (by omega)).trans G29_s
                     have L30 : w29.heap.size ≤ w30.heap.size := by rw [hw30]; exact Nat.le_of_eq (size_setRow _ _ _).symm
                     clear hw30
                     exact t_done ⟨rfl, w22.heap.size, w3.heap.size, by kernel_rfl, Kept.zero K30.nb (rowsC (K30.at 0 rfl) (rowsC (K30.at 1 rfl) (rowsC ⟨_, G30_1⟩ (rowsC ⟨_, G30_s⟩ rows0)))), (by omega), (by omega), (by omega)⟩
                   ·
                     exact t_nil
                 ·
                   exact t_nil
               ·
                 exact t_nil
             ·
               exact t_nil
         ·
           exact t_nil
   ·
     refine t_make (by kernel_rfl) (d := (some 5)) (by kernel_rfl) (v := .pointer (some ⟨W0.drew.heap.size, 0, none⟩)) (w' := W0.drew.alloc (.cells (dgQ 0 0) 39)) (by kernel_rfl) (K2.go ((Below.refl _ _).alloc (Nat.le_refl _) _)) ?_ ?_
     · intro w31 hw31 K31
       have G31_n : w31.heap[W0.drew.heap.size]? = some (.cells (dgQ 0 0) 39 (0, 0)) := hw31 ▸ heap_alloc_new _ _
       have S31 : W0.drew.heap.size < w31.heap.size := lt_of_heap G31_n
       have R31_0 : w.heap.size < W0.drew.heap.size := (by obtain ⟨T, h⟩ := K2.at 0 rfl; exact lt_of_heap h)
       have R31_1 : w.heap.size + 1 < W0.drew.heap.size := (by obtain ⟨T, h⟩ := K2.at 1 rfl; exact lt_of_heap h)
       have Z31 : w.heap.size ≤ W0.drew.heap.size := K2.nb.size
       clear hw31
       refine tc (d := some 9) (f := 25) (args := #[.agg (dgQ x.re.val x.im.val), .agg (dgQ x.re.val x.im.val)]) (v := .agg (dgQ (((x * x)).re.val) (((x * x)).im.val))) (mulQ_q) (fun w32 hb32 => ⟨K31.go hb32, ?_⟩) ?_
       · have K32 := K31.go hb32
         have G32_10 := nb_heap G31_n _ hb32
         have L32 := hb32.size
         refine tc (d := some 12) (f := 25) (args := #[.agg (dgQ y.re.val y.im.val), .agg (dgQ y.re.val y.im.val)]) (v := .agg (dgQ (((y * y)).re.val) (((y * y)).im.val))) (mulQ_q) (fun w33 hb33 => ⟨K32.go hb33, ?_⟩) ?_
         · have K33 := K32.go hb33
           have G33_10 := nb_heap G32_10 _ hb33
           have L33 := hb33.size
           refine t_make (by kernel_rfl) (d := (some 6)) (by kernel_rfl) (v := .pointer (some ⟨w33.heap.size, 0, none⟩)) (w' := w33.alloc (.cells (dgQ 0 0) 39)) (by kernel_rfl) (K33.go ((Below.refl _ _).alloc (Nat.le_refl _) _)) ?_ ?_
           · intro w34 hw34 K34
             have L34_0 := lt_of_heap G33_10
             have G34_0 : w34.heap[W0.drew.heap.size]? = some (.cells (dgQ 0 0) _ (0, 0)) := hw34 ▸ hp_alloc G33_10 _
             have G34_n : w34.heap[w33.heap.size]? = some (.cells (dgQ 0 0) 39 (0, 0)) := hw34 ▸ heap_alloc_new _ _
             have S34 : w33.heap.size < w34.heap.size := lt_of_heap G34_n
             have R34_0 : w.heap.size < w33.heap.size := (by obtain ⟨T, h⟩ := K33.at 0 rfl; exact lt_of_heap h)
             have R34_1 : w.heap.size + 1 < w33.heap.size := (by obtain ⟨T, h⟩ := K33.at 1 rfl; exact lt_of_heap h)
             have Z34 : w.heap.size ≤ w33.heap.size := K33.nb.size
             clear hw34
             refine t_store (by kernel_rfl) (d := none) (by kernel_rfl) (ty := 39) (x := (.tmp 5)) (y := (.tmp 9)) (by kernel_rfl) (g := W0.drew.heap.size) (cells := (dgQ (((x * x)).re.val) (((x * x)).im.val))) (by kernel_rfl) (by kernel_rfl) G34_0 (by kernel_rfl) (by kernel_rfl) (all_dgA _) (K34.puti (n := 16) (by kernel_rfl) (by omega) (neC (by omega) (neC (by omega) ne0)) ns0) ?_ ?_
             · intro w35 hw35 K35
               have G35_s : w35.heap[W0.drew.heap.size]? = some (.cells (dgQ (((x * x)).re.val) (((x * x)).im.val)) _ (0, 0)) := hw35 ▸ setRow_heap _ _ _ _ _ _ G34_0
               have G35_1 : w35.heap[w33.heap.size]? = some (.cells (dgQ 0 0) _ (0, 0)) := hw35 ▸ (setRow_other _ _ _ _ (by omega)).trans G34_n
               have L35 : w34.heap.size ≤ w35.heap.size := by rw [hw35]; exact Nat.le_of_eq (size_setRow _ _ _).symm
               clear hw35
               refine t_store (by kernel_rfl) (d := none) (by kernel_rfl) (ty := 39) (x := (.tmp 6)) (y := (.tmp 12)) (by kernel_rfl) (g := w33.heap.size) (cells := (dgQ (((y * y)).re.val) (((y * y)).im.val))) (by kernel_rfl) (by kernel_rfl) G35_1 (by kernel_rfl) (by kernel_rfl) (all_dgA _) (K35.puti (n := 16) (by kernel_rfl) (by omega) (neC (by omega) (neC (by omega) ne0)) ns0) ?_ ?_
               · intro w36 hw36 K36
                 have G36_s : w36.heap[w33.heap.size]? = some (.cells (dgQ (((y * y)).re.val) (((y * y)).im.val)) _ (0, 0)) := hw36 ▸ setRow_heap _ _ _ _ _ _ G35_1
                 have G36_0 : w36.heap[W0.drew.heap.size]? = some (.cells (dgQ (((x * x)).re.val) (((x * x)).im.val)) _ (0, 0)) := hw36 ▸ (setRow_other _ _ _ _ (by omega)).trans G35_s
                 have L36 : w35.heap.size ≤ w36.heap.size := by rw [hw36]; exact Nat.le_of_eq (size_setRow _ _ _).symm
                 clear hw36
                 exact t_done ⟨rfl, W0.drew.heap.size, w33.heap.size, by kernel_rfl, Kept.zero K36.nb (rowsC (K36.at 0 rfl) (rowsC (K36.at 1 rfl) (rowsC ⟨_, G36_0⟩ (rowsC ⟨_, G36_s⟩ rows0)))), (by omega), (by omega), (by omega)⟩
               ·
                 exact t_nil
             ·
               exact t_nil
           ·
             exact t_nil
         ·
           refine t_make (by kernel_rfl) (d := (some 6)) (by kernel_rfl) (v := .pointer (some ⟨w32.heap.size, 0, none⟩)) (w' := w32.alloc (.cells (dgQ 0 0) 39)) (by kernel_rfl) (K32.go ((Below.refl _ _).alloc (Nat.le_refl _) _)) ?_ ?_
           · intro w37 hw37 K37
             have L37_0 := lt_of_heap G32_10
             have G37_0 : w37.heap[W0.drew.heap.size]? = some (.cells (dgQ 0 0) _ (0, 0)) := hw37 ▸ hp_alloc G32_10 _
             have G37_n : w37.heap[w32.heap.size]? = some (.cells (dgQ 0 0) 39 (0, 0)) := hw37 ▸ heap_alloc_new _ _
             have S37 : w32.heap.size < w37.heap.size := lt_of_heap G37_n
             have R37_0 : w.heap.size < w32.heap.size := (by obtain ⟨T, h⟩ := K32.at 0 rfl; exact lt_of_heap h)
             have R37_1 : w.heap.size + 1 < w32.heap.size := (by obtain ⟨T, h⟩ := K32.at 1 rfl; exact lt_of_heap h)
             have Z37 : w.heap.size ≤ w32.heap.size := K32.nb.size
             clear hw37
             refine tc (d := some 12) (f := 25) (args := #[.agg (dgQ y.re.val y.im.val), .agg (dgQ y.re.val y.im.val)]) (v := .agg (dgQ (((y * y)).re.val) (((y * y)).im.val))) (mulQ_q) (fun w38 hb38 => ⟨K37.go hb38, ?_⟩) ?_
             · have K38 := K37.go hb38
               have G38_20 := nb_heap G37_0 _ hb38
               have G38_21 := nb_heap G37_n _ hb38
               have L38 := hb38.size
               refine t_store (by kernel_rfl) (d := none) (by kernel_rfl) (ty := 39) (x := (.tmp 5)) (y := (.tmp 9)) (by kernel_rfl) (g := W0.drew.heap.size) (cells := (dgQ (((x * x)).re.val) (((x * x)).im.val))) (by kernel_rfl) (by kernel_rfl) G38_20 (by kernel_rfl) (by kernel_rfl) (all_dgA _) (K38.puti (n := 16) (by kernel_rfl) (by omega) (neC (by omega) (neC (by omega) ne0)) ns0) ?_ ?_
               · intro w39 hw39 K39
                 have G39_s : w39.heap[W0.drew.heap.size]? = some (.cells (dgQ (((x * x)).re.val) (((x * x)).im.val)) _ (0, 0)) := hw39 ▸ setRow_heap _ _ _ _ _ _ G38_20
                 have G39_1 : w39.heap[w32.heap.size]? = some (.cells (dgQ 0 0) _ (0, 0)) := hw39 ▸ (setRow_other _ _ _ _ (by omega)).trans G38_21
                 have L39 : w38.heap.size ≤ w39.heap.size := by rw [hw39]; exact Nat.le_of_eq (size_setRow _ _ _).symm
                 clear hw39
                 refine t_store (by kernel_rfl) (d := none) (by kernel_rfl) (ty := 39) (x := (.tmp 6)) (y := (.tmp 12)) (by kernel_rfl) (g := w32.heap.size) (cells := (dgQ (((y * y)).re.val) (((y * y)).im.val))) (by kernel_rfl) (by kernel_rfl) G39_1 (by kernel_rfl) (by kernel_rfl) (all_dgA _) (K39.puti (n := 16) (by kernel_rfl) (by omega) (neC (by omega) (neC (by omega) ne0)) ns0) ?_ ?_
                 · intro w40 hw40 K40
                   have G40_s : w40.heap[w32.heap.size]? = some (.cells (dgQ (((y * y)).re.val) (((y * y)).im.val)) _ (0, 0)) := hw40 ▸ setRow_heap _ _ _ _ _ _ G39_1
                   have G40_0 : w40.heap[W0.drew.heap.size]? = some (.cells (dgQ (((x * x)).re.val) (((x * x)).im.val)) _ (0, 0)) := hw40 ▸ (setRow_other _ _ _ _ (by omega)).trans G39_s
                   have L40 : w39.heap.size ≤ w40.heap.size := by rw [hw40]; exact Nat.le_of_eq (size_setRow _ _ _).symm
                   clear hw40
                   exact t_done ⟨rfl, W0.drew.heap.size, w32.heap.size, by kernel_rfl, Kept.zero K40.nb (rowsC (K40.at 0 rfl) (rowsC (K40.at 1 rfl) (rowsC ⟨_, G40_0⟩ (rowsC ⟨_, G40_s⟩ rows0)))), (by omega), (by omega), (by omega)⟩
                 ·
                   exact t_nil
               ·
                 exact t_nil
             ·
               exact t_nil
           ·
             exact t_nil
       ·
         refine t_make (by kernel_rfl) (d := (some 6)) (by kernel_rfl) (v := .pointer (some ⟨w31.heap.size, 0, none⟩)) (w' := w31.alloc (.cells (dgQ 0 0) 39)) (by kernel_rfl) (K31.go ((Below.refl _ _).alloc (Nat.le_refl _) _)) ?_ ?_
         · intro w41 hw41 K41
           have L41_0 := lt_of_heap G31_n
           have G41_0 : w41.heap[W0.drew.heap.size]? = some (.cells (dgQ 0 0) _ (0, 0)) := hw41 ▸ hp_alloc G31_n _
           have G41_n : w41.heap[w31.heap.size]? = some (.cells (dgQ 0 0) 39 (0, 0)) := hw41 ▸ heap_alloc_new _ _
           have S41 : w31.heap.size < w41.heap.size := lt_of_heap G41_n
           have R41_0 : w.heap.size < w31.heap.size := (by obtain ⟨T, h⟩ := K31.at 0 rfl; exact lt_of_heap h)
           have R41_1 : w.heap.size + 1 < w31.heap.size := (by obtain ⟨T, h⟩ := K31.at 1 rfl; exact lt_of_heap h)
           have Z41 : w.heap.size ≤ w31.heap.size := K31.nb.size
           clear hw41
           refine tc (d := some 9) (f := 25) (args := #[.agg (dgQ x.re.val x.im.val), .agg (dgQ x.re.val x.im.val)]) (v := .agg (dgQ (((x * x)).re.val) (((x * x)).im.val))) (mulQ_q) (fun w42 hb42 => ⟨K41.go hb42, ?_⟩) ?_
           · have K42 := K41.go hb42
             have G42_20 := nb_heap G41_0 _ hb42
             have G42_21 := nb_heap G41_n _ hb42
             have L42 := hb42.size
             refine tc (d := some 12) (f := 25) (args := #[.agg (dgQ y.re.val y.im.val), .agg (dgQ y.re.val y.im.val)]) (v := .agg (dgQ (((y * y)).re.val) (((y * y)).im.val))) (mulQ_q) (fun w43 hb43 => ⟨K42.go hb43, ?_⟩) ?_
             · have K43 := K42.go hb43
               have G43_20 := nb_heap G42_20 _ hb43
               have G43_21 := nb_heap G42_21 _ hb43
               have L43 := hb43.size
               refine t_store (by kernel_rfl) (d := none) (by kernel_rfl) (ty := 39) (x := (.tmp 5)) (y := (.tmp 9)) (by kernel_rfl) (g := W0.drew.heap.size) (cells := (dgQ (((x * x)).re.val) (((x * x)).im.val))) (by kernel_rfl) (by kernel_rfl) G43_20 (by kernel_rfl) (by kernel_rfl) (all_dgA _) (K43.puti (n := 16) (by kernel_rfl) (by omega) (neC (by omega) (neC (by omega) ne0)) ns0) ?_ ?_
               · intro w44 hw44 K44
                 have G44_s : w44.heap[W0.drew.heap.size]? = some (.cells (dgQ (((x * x)).re.val) (((x * x)).im.val)) _ (0, 0)) := hw44 ▸ setRow_heap _ _ _ _ _ _ G43_20
                 have G44_1 : w44.heap[w31.heap.size]? = some (.cells (dgQ 0 0) _ (0, 0)) := hw44 ▸ (setRow_other _ _ _ _ (by omega)).trans G43_21
                 have L44 : w43.heap.size ≤ w44.heap.size := by rw [hw44]; exact Nat.le_of_eq (size_setRow _ _ _).symm
                 clear hw44
                 refine t_store (by kernel_rfl) (d := none) (by kernel_rfl) (ty := 39) (x := (.tmp 6)) (y := (.tmp 12)) (by kernel_rfl) (g := w31.heap.size) (cells := (dgQ (((y * y)).re.val) (((y * y)).im.val))) (by kernel_rfl) (by kernel_rfl) G44_1 (by kernel_rfl) (by kernel_rfl) (all_dgA _) (K44.puti (n := 16) (by kernel_rfl) (by omega) (neC (by omega) (neC (by omega) ne0)) ns0) ?_ ?_
                 · intro w45 hw45 K45
                   have G45_s : w45.heap[w31.heap.size]? = some (.cells (dgQ (((y * y)).re.val) (((y * y)).im.val)) _ (0, 0)) := hw45 ▸ setRow_heap _ _ _ _ _ _ G44_1
                   have G45_0 : w45.heap[W0.drew.heap.size]? = some (.cells (dgQ (((x * x)).re.val) (((x * x)).im.val)) _ (0, 0)) := hw45 ▸ (setRow_other _ _ _ _ (by omega)).trans G44_s
                   have L45 : w44.heap.size ≤ w45.heap.size := by rw [hw45]; exact Nat.le_of_eq (size_setRow _ _ _).symm
                   clear hw45
                   exact t_done ⟨rfl, W0.drew.heap.size, w31.heap.size, by kernel_rfl, Kept.zero K45.nb (rowsC (K45.at 0 rfl) (rowsC (K45.at 1 rfl) (rowsC ⟨_, G45_0⟩ (rowsC ⟨_, G45_s⟩ rows0)))), (by omega), (by omega), (by omega)⟩
                 ·
                   exact t_nil
               ·
                 exact t_nil
             ·
               exact t_nil
           ·
             exact t_nil
         ·
           exact t_nil
     ·
       refine t_make (by kernel_rfl) (d := (some 6)) (by kernel_rfl) (v := .pointer (some ⟨W0.drew.heap.size, 0, none⟩)) (w' := W0.drew.alloc (.cells (dgQ 0 0) 39)) (by kernel_rfl) (K2.go ((Below.refl _ _).alloc (Nat.le_refl _) _)) ?_ ?_
       · intro w46 hw46 K46
         have G46_n : w46.heap[W0.drew.heap.size]? = some (.cells (dgQ 0 0) 39 (0, 0)) := hw46 ▸ heap_alloc_new _ _
         have S46 : W0.drew.heap.size < w46.heap.size := lt_of_heap G46_n
         have R46_0 : w.heap.size < W0.drew.heap.size := (by obtain ⟨T, h⟩ := K2.at 0 rfl; exact lt_of_heap h)
         have R46_1 : w.heap.size + 1 < W0.drew.heap.size := (by obtain ⟨T, h⟩ := K2.at 1 rfl; exact lt_of_heap h)
         have Z46 : w.heap.size ≤ W0.drew.heap.size := K2.nb.size
         clear hw46
         refine tc (d := some 9) (f := 25) (args := #[.agg (dgQ x.re.val x.im.val), .agg (dgQ x.re.val x.im.val)]) (v := .agg (dgQ (((x * x)).re.val) (((x * x)).im.val))) (mulQ_q) (fun w47 hb47 => ⟨K46.go hb47, ?_⟩) ?_
         · have K47 := K46.go hb47
           have G47_10 := nb_heap G46_n _ hb47
           have L47 := hb47.size
           refine tc (d := some 12) (f := 25) (args := #[.agg (dgQ y.re.val y.im.val), .agg (dgQ y.re.val y.im.val)]) (v := .agg (dgQ (((y * y)).re.val) (((y * y)).im.val))) (mulQ_q) (fun w48 hb48 => ⟨K47.go hb48, ?_⟩) ?_
           · have K48 := K47.go hb48
             have G48_10 := nb_heap G47_10 _ hb48
             have L48 := hb48.size
             refine t_make (by kernel_rfl) (d := (some 5)) (by kernel_rfl) (v := .pointer (some ⟨w48.heap.size, 0, none⟩)) (w' := w48.alloc (.cells (dgQ 0 0) 39)) (by kernel_rfl) (K48.go ((Below.refl _ _).alloc (Nat.le_refl _) _)) ?_ ?_
             · intro w49 hw49 K49
               have L49_0 := lt_of_heap G48_10
               have G49_0 : w49.heap[W0.drew.heap.size]? = some (.cells (dgQ 0 0) _ (0, 0)) := hw49 ▸ hp_alloc G48_10 _
               have G49_n : w49.heap[w48.heap.size]? = some (.cells (dgQ 0 0) 39 (0, 0)) := hw49 ▸ heap_alloc_new _ _
               have S49 : w48.heap.size < w49.heap.size := lt_of_heap G49_n
               have R49_0 : w.heap.size < w48.heap.size := (by obtain ⟨T, h⟩ := K48.at 0 rfl; exact lt_of_heap h)
               have R49_1 : w.heap.size + 1 < w48.heap.size := (by obtain ⟨T, h⟩ := K48.at 1 rfl; exact lt_of_heap h)
               have Z49 : w.heap.size ≤ w48.heap.size := K48.nb.size
               clear hw49
               refine t_store (by kernel_rfl) (d := none) (by kernel_rfl) (ty := 39) (x := (.tmp 5)) (y := (.tmp 9)) (by kernel_rfl) (g := w48.heap.size) (cells := (dgQ (((x * x)).re.val) (((x * x)).im.val))) (by kernel_rfl) (by kernel_rfl) G49_n (by kernel_rfl) (by kernel_rfl) (all_dgA _) (K49.puti (n := 16) (by kernel_rfl) (by omega) (neC (by omega) (neC (by omega) ne0)) ns0) ?_ ?_
               · intro w50 hw50 K50
                 have G50_s : w50.heap[w48.heap.size]? = some (.cells (dgQ (((x * x)).re.val) (((x * x)).im.val)) _ (0, 0)) := hw50 ▸ setRow_heap _ _ _ _ _ _ G49_n
                 have G50_0 : w50.heap[W0.drew.heap.size]? = some (.cells (dgQ 0 0) _ (0, 0)) := hw50 ▸ (setRow_other _ _ _ _ (by omega)).trans G49_0
                 have L50 : w49.heap.size ≤ w50.heap.size := by rw [hw50]; exact Nat.le_of_eq (size_setRow _ _ _).symm
                 clear hw50
                 refine t_store (by kernel_rfl) (d := none) (by kernel_rfl) (ty := 39) (x := (.tmp 6)) (y := (.tmp 12)) (by kernel_rfl) (g := W0.drew.heap.size) (cells := (dgQ (((y * y)).re.val) (((y * y)).im.val))) (by kernel_rfl) (by kernel_rfl) G50_0 (by kernel_rfl) (by kernel_rfl) (all_dgA _) (K50.puti (n := 16) (by kernel_rfl) (by omega) (neC (by omega) (neC (by omega) ne0)) ns0) ?_ ?_
                 · intro w51 hw51 K51
                   have G51_s : w51.heap[W0.drew.heap.size]? = some (.cells (dgQ (((y * y)).re.val) (((y * y)).im.val)) _ (0, 0)) := hw51 ▸ setRow_heap _ _ _ _ _ _ G50_0
                   have G51_1 : w51.heap[w48.heap.size]? = some (.cells (dgQ (((x * x)).re.val) (((x * x)).im.val)) _ (0, 0)) := hw51 ▸ (setRow_other _ _ _ _ (by omega)).trans G50_s
                   have L51 : w50.heap.size ≤ w51.heap.size := by rw [hw51]; exact Nat.le_of_eq (size_setRow _ _ _).symm
                   clear hw51
                   exact t_done ⟨rfl, w48.heap.size, W0.drew.heap.size, by kernel_rfl, Kept.zero K51.nb (rowsC (K51.at 0 rfl) (rowsC (K51.at 1 rfl) (rowsC ⟨_, G51_1⟩ (rowsC ⟨_, G51_s⟩ rows0)))), (by omega), (by omega), (by omega)⟩
                 ·
                   exact t_nil
               ·
                 exact t_nil
             ·
               exact t_nil
           ·
             refine t_make (by kernel_rfl) (d := (some 5)) (by kernel_rfl) (v := .pointer (some ⟨w47.heap.size, 0, none⟩)) (w' := w47.alloc (.cells (dgQ 0 0) 39)) (by kernel_rfl) (K47.go ((Below.refl _ _).alloc (Nat.le_refl _) _)) ?_ ?_
             · intro w52 hw52 K52
               have L52_0 := lt_of_heap G47_10
               have G52_0 : w52.heap[W0.drew.heap.size]? = some (.cells (dgQ 0 0) _ (0, 0)) := hw52 ▸ hp_alloc G47_10 _
               have G52_n : w52.heap[w47.heap.size]? = some (.cells (dgQ 0 0) 39 (0, 0)) := hw52 ▸ heap_alloc_new _ _
               have S52 : w47.heap.size < w52.heap.size := lt_of_heap G52_n
               have R52_0 : w.heap.size < w47.heap.size := (by obtain ⟨T, h⟩ := K47.at 0 rfl; exact lt_of_heap h)
               have R52_1 : w.heap.size + 1 < w47.heap.size := (by obtain ⟨T, h⟩ := K47.at 1 rfl; exact lt_of_heap h)
               have Z52 : w.heap.size ≤ w47.heap.size := K47.nb.size
               clear hw52
               refine tc (d := some 12) (f := 25) (args := #[.agg (dgQ y.re.val y.im.val), .agg (dgQ y.re.val y.im.val)]) (v := .agg (dgQ (((y * y)).re.val) (((y * y)).im.val))) (mulQ_q) (fun w53 hb53 => ⟨K52.go hb53, ?_⟩) ?_
               · have K53 := K52.go hb53
                 have G53_20 := nb_heap G52_0 _ hb53
                 have G53_21 := nb_heap G52_n _ hb53
                 have L53 := hb53.size
                 refine t_store (by kernel_rfl) (d := none) (by kernel_rfl) (ty := 39) (x := (.tmp 5)) (y := (.tmp 9)) (by kernel_rfl) (g := w47.heap.size) (cells := (dgQ (((x * x)).re.val) (((x * x)).im.val))) (by kernel_rfl) (by kernel_rfl) G53_21 (by kernel_rfl) (by kernel_rfl) (all_dgA _) (K53.puti (n := 16) (by kernel_rfl) (by omega) (neC (by omega) (neC (by omega) ne0)) ns0) ?_ ?_
                 · intro w54 hw54 K54
                   have G54_s : w54.heap[w47.heap.size]? = some (.cells (dgQ (((x * x)).re.val) (((x * x)).im.val)) _ (0, 0)) := hw54 ▸ setRow_heap _ _ _ _ _ _ G53_21
                   have G54_0 : w54.heap[W0.drew.heap.size]? = some (.cells (dgQ 0 0) _ (0, 0)) := hw54 ▸ (setRow_other _ _ _ _ (by omega)).trans G53_20
                   have L54 : w53.heap.size ≤ w54.heap.size := by rw [hw54]; exact Nat.le_of_eq (size_setRow _ _ _).symm
                   clear hw54
                   refine t_store (by kernel_rfl) (d := none) (by kernel_rfl) (ty := 39) (x := (.tmp 6)) (y := (.tmp 12)) (by kernel_rfl) (g := W0.drew.heap.size) (cells := (dgQ (((y * y)).re.val) (((y * y)).im.val))) (by kernel_rfl) (by kernel_rfl) G54_0 (by kernel_rfl) (by kernel_rfl) (all_dgA _) (K54.puti (n := 16) (by kernel_rfl) (by omega) (neC (by omega) (neC (by omega) ne0)) ns0) ?_ ?_
                   · intro w55 hw55 K55
                     have G55_s : w55.heap[W0.drew.heap.size]? = some (.cells (dgQ (((y * y)).re.val) (((y * y)).im.val)) _ (0, 0)) := hw55 ▸ setRow_heap _ _ _ _ _ _ G54_0
                     have G55_1 : w55.heap[w47.heap.size]? = some (.cells (dgQ (((x * x)).re.val) (((x * x)).im.val)) _ (0, 0)) := hw55 ▸ (setRow_other _ _ _ _ (by omega)).trans G54_s
                     have L55 : w54.heap.size ≤ w55.heap.size := by rw [hw55]; exact Nat.le_of_eq (size_setRow _ _ _).symm
                     clear hw55
                     exact t_done ⟨rfl, w47.heap.size, W0.drew.heap.size, by kernel_rfl, Kept.zero K55.nb (rowsC (K55.at 0 rfl) (rowsC (K55.at 1 rfl) (rowsC ⟨_, G55_1⟩ (rowsC ⟨_, G55_s⟩ rows0)))), (by omega), (by omega), (by omega)⟩
                   ·
                     exact t_nil
                 ·
                   exact t_nil
               ·
                 exact t_nil
             ·
               exact t_nil
         ·
           refine t_make (by kernel_rfl) (d := (some 5)) (by kernel_rfl) (v := .pointer (some ⟨w46.heap.size, 0, none⟩)) (w' := w46.alloc (.cells (dgQ 0 0) 39)) (by kernel_rfl) (K46.go ((Below.refl _ _).alloc (Nat.le_refl _) _)) ?_ ?_
           · intro w56 hw56 K56
             have L56_0 := lt_of_heap G46_n
             have G56_0 : w56.heap[W0.drew.heap.size]? = some (.cells (dgQ 0 0) _ (0, 0)) := hw56 ▸ hp_alloc G46_n _
             have G56_n : w56.heap[w46.heap.size]? = some (.cells (dgQ 0 0) 39 (0, 0)) := hw56 ▸ heap_alloc_new _ _
             have S56 : w46.heap.size < w56.heap.size := lt_of_heap G56_n
             have R56_0 : w.heap.size < w46.heap.size := (by obtain ⟨T, h⟩ := K46.at 0 rfl; exact lt_of_heap h)
             have R56_1 : w.heap.size + 1 < w46.heap.size := (by obtain ⟨T, h⟩ := K46.at 1 rfl; exact lt_of_heap h)
             have Z56 : w.heap.size ≤ w46.heap.size := K46.nb.size
             clear hw56
             refine tc (d := some 9) (f := 25) (args := #[.agg (dgQ x.re.val x.im.val), .agg (dgQ x.re.val x.im.val)]) (v := .agg (dgQ (((x * x)).re.val) (((x * x)).im.val))) (mulQ_q) (fun w57 hb57 => ⟨K56.go hb57, ?_⟩) ?_
             · have K57 := K56.go hb57
               have G57_20 := nb_heap G56_0 _ hb57
               have G57_21 := nb_heap G56_n _ hb57
               have L57 := hb57.size
               refine tc (d := some 12) (f := 25) (args := #[.agg (dgQ y.re.val y.im.val), .agg (dgQ y.re.val y.im.val)]) (v := .agg (dgQ (((y * y)).re.val) (((y * y)).im.val))) (mulQ_q) (fun w58 hb58 => ⟨K57.go hb58, ?_⟩) ?_
               · have K58 := K57.go hb58
                 have G58_20 := nb_heap G57_20 _ hb58
                 have G58_21 := nb_heap G57_21 _ hb58
                 have L58 := hb58.size
                 refine t_store (by kernel_rfl) (d := none) (by kernel_rfl) (ty := 39) (x := (.tmp 5)) (y := (.tmp 9)) (by kernel_rfl) (g := w46.heap.size) (cells := (dgQ (((x * x)).re.val) (((x * x)).im.val))) (by kernel_rfl) (by kernel_rfl) G58_21 (by kernel_rfl) (by kernel_rfl) (all_dgA _) (K58.puti (n := 16) (by kernel_rfl) (by omega) (neC (by omega) (neC (by omega) ne0)) ns0) ?_ ?_
                 · intro w59 hw59 K59
                   have G59_s : w59.heap[w46.heap.size]? = some (.cells (dgQ (((x * x)).re.val) (((x * x)).im.val)) _ (0, 0)) := hw59 ▸ setRow_heap _ _ _ _ _ _ G58_21
                   have G59_0 : w59.heap[W0.drew.heap.size]? = some (.cells (dgQ 0 0) _ (0, 0)) := hw59 ▸ (setRow_other _ _ _ _ (by omega)).trans G58_20
                   have L59 : w58.heap.size ≤ w59.heap.size := by rw [hw59]; exact Nat.le_of_eq (size_setRow _ _ _).symm
                   clear hw59
                   refine t_store (by kernel_rfl) (d := none) (by kernel_rfl) (ty := 39) (x := (.tmp 6)) (y := (.tmp 12)) (by kernel_rfl) (g := W0.drew.heap.size) (cells := (dgQ (((y * y)).re.val) (((y * y)).im.val))) (by kernel_rfl) (by kernel_rfl) G59_0 (by kernel_rfl) (by kernel_rfl) (all_dgA _) (K59.puti (n := 16) (by kernel_rfl) (by omega) (neC (by omega) (neC (by omega) ne0)) ns0) ?_ ?_
                   · intro w60 hw60 K60
                     have G60_s : w60.heap[W0.drew.heap.size]? = some (.cells (dgQ (((y * y)).re.val) (((y * y)).im.val)) _ (0, 0)) := hw60 ▸ setRow_heap _ _ _ _ _ _ G59_0
                     have G60_1 : w60.heap[w46.heap.size]? = some (.cells (dgQ (((x * x)).re.val) (((x * x)).im.val)) _ (0, 0)) := hw60 ▸ (setRow_other _ _ _ _ (by omega)).trans G59_s
                     have L60 : w59.heap.size ≤ w60.heap.size := by rw [hw60]; exact Nat.le_of_eq (size_setRow _ _ _).symm
                     clear hw60
                     exact t_done ⟨rfl, w46.heap.size, W0.drew.heap.size, by kernel_rfl, Kept.zero K60.nb (rowsC (K60.at 0 rfl) (rowsC (K60.at 1 rfl) (rowsC ⟨_, G60_1⟩ (rowsC ⟨_, G60_s⟩ rows0)))), (by omega), (by omega), (by omega)⟩
                   ·
                     exact t_nil
                 ·
                   exact t_nil
               ·
                 exact t_nil
             ·
               exact t_nil
           ·
             exact t_nil
       ·
         exact t_nil
 · rintro _ W61 ⟨p5, p6, rfl, K62, l63, l64, n65⟩
   go_upto_region 2 with (fail)
   have K66 : Kept w [(w.heap.size, (dgQ x.re.val x.im.val)), (w.heap.size + 1, (dgQ y.re.val y.im.val)), (p5, (dgQ (((x * x)).re.val) (((x * x)).im.val))), (p6, (dgQ (((y * y)).re.val) (((y * y)).im.val)))] [] W61 := Kept.mks K62.nb (rowsC (K62.at 0 rfl) (rowsC (K62.at 1 rfl) (rowsC (K62.at 2 rfl) (rowsC (K62.at 3 rfl) rows0)))) rooms0
   refine wrA (opsAt Tryd.f38 2) ((true, 0) :: (true, 1) :: (true, 5) :: (true, 6) :: (false, 2) :: (false, 3) :: (false, 4) :: (false, 7) :: (false, 8) :: (false, 9) :: (true, 10) :: (true, 11) :: []) (Kept w [(w.heap.size, (dgQ x.re.val x.im.val)), (w.heap.size + 1, (dgQ y.re.val y.im.val)), (p5, (dgQ (((x * x)).re.val) (((x * x)).im.val))), (p6, (dgQ (((y * y)).re.val) (((y * y)).im.val)))] []) K66.drew ?_
   have K67 := K66.drew
   have DK67 : W61.heap.size ≤ W61.drew.heap.size := Nat.le_refl _
   refine k_row (by kernel_rfl) (d := (some 13)) (by kernel_rfl) (ty := 39) (x := (.tmp 6)) (by kernel_rfl) (b := p6) (by kernel_rfl) (cs := (dgQ (((y * y)).re.val) (((y * y)).im.val))) (fun _ hs => hs.at 3 rfl) Tryd.underlying39 rfl (by kernel_rfl) ?_
   refine k_row (by kernel_rfl) (d := (some 14)) (by kernel_rfl) (ty := 39) (x := (.tmp 5)) (by kernel_rfl) (b := p5) (by kernel_rfl) (cs := (dgQ (((x * x)).re.val) (((x * x)).im.val))) (fun _ hs => hs.at 2 rfl) Tryd.underlying39 rfl (by kernel_rfl) ?_
   refine k_row (by kernel_rfl) (d := (some 18)) (by kernel_rfl) (ty := 39) (x := (.tmp 5)) (by kernel_rfl) (b := p5) (by kernel_rfl) (cs := (dgQ (((x * x)).re.val) (((x * x)).im.val))) (fun _ hs => hs.at 2 rfl) Tryd.underlying39 rfl (by kernel_rfl) ?_
   refine k_row (by kernel_rfl) (d := (some 19)) (by kernel_rfl) (ty := 39) (x := (.tmp 6)) (by kernel_rfl) (b := p6) (by kernel_rfl) (cs := (dgQ (((y * y)).re.val) (((y * y)).im.val))) (fun _ hs => hs.at 3 rfl) Tryd.underlying39 rfl (by kernel_rfl) ?_
   refine kc (d := some 15) (f := 57) (args := #[.agg (dgQ (((y * y)).re.val) (((y * y)).im.val)), .agg (dgQ (((x * x)).re.val) (((x * x)).im.val))]) (v := .agg (dgQ (((y * y - x * x)).re.val) (((y * y - x * x)).im.val))) (subQ_q) (fun w68 hb68 => ⟨K67.go hb68, ?_⟩)
   have K68 := K67.go hb68
   have L68 := hb68.size
   refine kc (d := some 16) (f := 53) (args := #[]) (v := .agg (dgQ (((1 : Zq)).re.val) (((1 : Zq)).im.val))) (one_q) (fun w69 hb69 => ⟨K68.go hb69, ?_⟩)
   have K69 := K68.go hb69
   have L69 := hb69.size
   refine kc (d := some 17) (f := 32) (args := #[]) (v := .agg (dgQ dd.re.val dd.im.val)) (dD_c) (fun w70 hb70 => ⟨K69.go hb70, ?_⟩)
   have K70 := K69.go hb70
   have L70 := hb70.size
   refine kc (d := some 20) (f := 25) (args := #[.agg (dgQ (((x * x)).re.val) (((x * x)).im.val)), .agg (dgQ (((y * y)).re.val) (((y * y)).im.val))]) (v := .agg (dgQ (((x * x * (y * y))).re.val) (((x * x * (y * y))).im.val))) (mulQ_q) (fun w71 hb71 => ⟨K70.go hb71, ?_⟩)
   have K71 := K70.go hb71
   have L71 := hb71.size
   refine kc (d := some 21) (f := 25) (args := #[.agg (dgQ dd.re.val dd.im.val), .agg (dgQ (((x * x * (y * y))).re.val) (((x * x * (y * y))).im.val))]) (v := .agg (dgQ (((dd * (x * x * (y * y)))).re.val) (((dd * (x * x * (y * y)))).im.val))) (mulQ_q) (fun w72 hb72 => ⟨K71.go hb72, ?_⟩)
   have K72 := K71.go hb72
   have L72 := hb72.size
   refine kc (d := some 22) (f := 58) (args := #[.agg (dgQ (((1 : Zq)).re.val) (((1 : Zq)).im.val)), .agg (dgQ (((dd * (x * x * (y * y)))).re.val) (((dd * (x * x * (y * y)))).im.val))]) (v := .agg (dgQ (((1 + dd * (x * x * (y * y)))).re.val) (((1 + dd * (x * x * (y * y)))).im.val))) (addQ_q) (fun w73 hb73 => ⟨K72.go hb73, ?_⟩)
   have K73 := K72.go hb73
   have L73 := hb73.size
   refine k_eql (by kernel_rfl) (d := (some 23)) (by kernel_rfl) (ty := 39) (ty' := 39) (x := (.tmp 15)) (y := (.tmp 22)) (by kernel_rfl) (xs := (dgQ (((y * y - x * x)).re.val) (((y * y - x * x)).im.val))) (ys := (dgQ (((1 + dd * (x * x * (y * y)))).re.val) (((1 + dd * (x * x * (y * y)))).im.val))) (b := true) (by kernel_rfl) (by kernel_rfl) (by kernel_rfl) (fun w => eqQ_t h w) ?_
   refine kp (d := some 4) (v := .bool true) ?_
   have K74 : Kept w [(w.heap.size, (dgQ x.re.val x.im.val)), (w.heap.size + 1, (dgQ y.re.val y.im.val)), (p5, (dgQ (((x * x)).re.val) (((x * x)).im.val))), (p6, (dgQ (((y * y)).re.val) (((y * y)).im.val)))] [] w73 := Kept.zero K73.nb (rowsC (K73.at 0 rfl) (rowsC (K73.at 1 rfl) (rowsC (K73.at 2 rfl) (rowsC (K73.at 3 rfl) rows0))))
   refine k_end ?_
   go_simp
   go_wp2_with fail
   exact bodyPost_ret_by (by kernel_rfl) (by kernel_rfl) ⟨rfl, K74.nb⟩
set_option maxRecDepth 100000 in
set_option maxHeartbeats 1000000 in
theorem isPoint_f {w : World} {x y : Zq} (h : ¬ OnC x y) :
   Calls Tryd.prog 38 #[.agg (dgQ x.re.val x.im.val), .agg (dgQ y.re.val y.im.val)] w fun e w' => e = .returned (.bool false) ∧ Below w.heap.size w w' := by
 go_enter Tryd.func38, Tryd.ntmps38
 go_upto_region 1 with (fail)
 refine wp_gen (fun WW => Kept w [(w.heap.size, (dgQ x.re.val x.im.val)), (w.heap.size + 1, (dgQ y.re.val y.im.val))] [] WW) (Kept.zero (nb_alloc (nb_alloc (Below.refl _ _) _) _) (rowsC (row_as (hp2_0 (w := w) _ _) (by kernel_rfl)) (rowsC (row_as (hp2_1 (w := w) _ _) (by kernel_rfl)) rows0))) ?_
 intro W0 K0
 have K1 : Kept w [(w.heap.size, (dgQ x.re.val x.im.val)), (w.heap.size + 1, (dgQ y.re.val y.im.val))] [] W0 := Kept.mks K0.nb (rowsC (K0.at 0 rfl) (rowsC (K0.at 1 rfl) rows0)) rooms0
 have RK1_0 : w.heap.size < W0.heap.size := (by obtain ⟨T, h⟩ := K0.at 0 rfl; exact lt_of_heap h)
 have RK1_1 : w.heap.size + 1 < W0.heap.size := (by obtain ⟨T, h⟩ := K0.at 1 rfl; exact lt_of_heap h)
 refine wp_meet (fun a' w' => ∃ p5 p6 : Nat, a' = { tmps := #[.agg (dgQ x.re.val x.im.val), .agg (dgQ y.re.val y.im.val), .pointer (some ⟨w.heap.size, 0, none⟩), .pointer (some ⟨w.heap.size + 1, 0, none⟩), .bool false, .pointer (some ⟨p5, 0, none⟩), .pointer (some ⟨p6, 0, none⟩), .agg (dgQ x.re.val x.im.val), .agg (dgQ x.re.val x.im.val), .agg (dgQ (((x * x)).re.val) (((x * x)).im.val)), .agg (dgQ y.re.val y.im.val), .agg (dgQ y.re.val y.im.val), .agg (dgQ (((y * y)).re.val) (((y * y)).im.val)), undef, undef, undef, undef, undef, undef, undef, undef, undef, undef, undef], defers := [] } ∧ Kept w [(w.heap.size, (dgQ x.re.val x.im.val)), (w.heap.size + 1, (dgQ y.re.val y.im.val)), (p5, (dgQ (((x * x)).re.val) (((x * x)).im.val))), (p6, (dgQ (((y * y)).re.val) (((y * y)).im.val)))] [] w' ∧ W0.heap.size ≤ p5 ∧ W0.heap.size ≤ p6 ∧ p5 ≠ p6) ?_ ?_
 · refine wp_tree_at (opsAt Tryd.f38 1) (.take 0 (.take 1 (.take 3 (.take 4 (.fork 2 (.fork 5 (.fork 6 (.fork 7 (.fork 8 (.fork 9 .done .nil) .nil) .nil) (.fork 7 (.fork 6 (.fork 8 (.fork 9 .done .nil) .nil) .nil) .nil)) (.fork 6 (.fork 5 (.fork 7 (.fork 8 (.fork 9 .done .nil) .nil) .nil) (.fork 7 (.fork 5 (.fork 8 (.fork 9 .done .nil) .nil) .nil) .nil)) (.fork 7 (.fork 5 (.fork 6 (.fork 8 (.fork 9 .done .nil) .nil) .nil) (.fork 6 (.fork 5 (.fork 8 (.fork 9 .done .nil) .nil) .nil) .nil)) .nil))) (.fork 6 (.fork 2 (.fork 5 (.fork 7 (.fork 8 (.fork 9 .done .nil) .nil) .nil) (.fork 7 (.fork 5 (.fork 8 (.fork 9 .done .nil) .nil) .nil) .nil)) (.fork 7 (.fork 2 (.fork 5 (.fork 8 (.fork 9 .done .nil) .nil) .nil) .nil) .nil)) (.fork 7 (.fork 2 (.fork 5 (.fork 6 (.fork 8 (.fork 9 .done .nil) .nil) .nil) (.fork 6 (.fork 5 (.fork 8 (.fork 9 .done .nil) .nil) .nil) .nil)) (.fork 6 (.fork 2 (.fork 5 (.fork 8 (.fork 9 .done .nil) .nil) .nil) .nil) .nil)) .nil))))))) (Kept w [(w.heap.size, (dgQ x.re.val x.im.val)), (w.heap.size + 1, (dgQ y.re.val y.im.val))] []) (by kernel_rfl) rfl (by kernel_rfl) (by intro c a d v w h; exact absurd h.1 (by simp)) (by kernel_rfl) (by kernel_rfl) K1.drew ?_
   have K2 := K1.drew
   have DK2 : W0.heap.size ≤ W0.drew.heap.size := Nat.le_refl _
   refine t_row (by kernel_rfl) (d := (some 7)) (by kernel_rfl) (ty := 39) (x := (.tmp 2)) (by kernel_rfl) (b := w.heap.size) (by kernel_rfl) (cs := (dgQ x.re.val x.im.val)) (fun _ hs => hs.at 0 rfl) Tryd.underlying39 rfl (by kernel_rfl) ?_
   refine t_row (by kernel_rfl) (d := (some 8)) (by kernel_rfl) (ty := 39) (x := (.tmp 2)) (by kernel_rfl) (b := w.heap.size) (by kernel_rfl) (cs := (dgQ x.re.val x.im.val)) (fun _ hs => hs.at 0 rfl) Tryd.underlying39 rfl (by kernel_rfl) ?_
   refine t_row (by kernel_rfl) (d := (some 10)) (by kernel_rfl) (ty := 39) (x := (.tmp 3)) (by kernel_rfl) (b := w.heap.size + 1) (by kernel_rfl) (cs := (dgQ y.re.val y.im.val)) (fun _ hs => hs.at 1 rfl) Tryd.underlying39 rfl (by kernel_rfl) ?_
   refine t_row (by kernel_rfl) (d := (some 11)) (by kernel_rfl) (ty := 39) (x := (.tmp 3)) (by kernel_rfl) (b := w.heap.size + 1) (by kernel_rfl) (cs := (dgQ y.re.val y.im.val)) (fun _ hs => hs.at 1 rfl) Tryd.underlying39 rfl (by kernel_rfl) ?_
   refine tc (d := some 9) (f := 25) (args := #[.agg (dgQ x.re.val x.im.val), .agg (dgQ x.re.val x.im.val)]) (v := .agg (dgQ (((x * x)).re.val) (((x * x)).im.val))) (mulQ_q) (fun w3 hb3 => ⟨K2.go hb3, ?_⟩) ?_
   · have K3 := K2.go hb3
     have L3 := hb3.size
     refine tc (d := some 12) (f := 25) (args := #[.agg (dgQ y.re.val y.im.val), .agg (dgQ y.re.val y.im.val)]) (v := .agg (dgQ (((y * y)).re.val) (((y * y)).im.val))) (mulQ_q) (fun w4 hb4 => ⟨K3.go hb4, ?_⟩) ?_
     · have K4 := K3.go hb4
       have L4 := hb4.size
       refine t_make (by kernel_rfl) (d := (some 5)) (by kernel_rfl) (v := .pointer (some ⟨w4.heap.size, 0, none⟩)) (w' := w4.alloc (.cells (dgQ 0 0) 39)) (by kernel_rfl) (K4.go ((Below.refl _ _).alloc (Nat.le_refl _) _)) ?_ ?_
       · intro w5 hw5 K5
         have G5_n : w5.heap[w4.heap.size]? = some (.cells (dgQ 0 0) 39 (0, 0)) := hw5 ▸ heap_alloc_new _ _
         have S5 : w4.heap.size < w5.heap.size := lt_of_heap G5_n
         have R5_0 : w.heap.size < w4.heap.size := (by obtain ⟨T, h⟩ := K4.at 0 rfl; exact lt_of_heap h)
         have R5_1 : w.heap.size + 1 < w4.heap.size := (by obtain ⟨T, h⟩ := K4.at 1 rfl; exact lt_of_heap h)
         have Z5 : w.heap.size ≤ w4.heap.size := K4.nb.size
         clear hw5
         refine t_make (by kernel_rfl) (d := (some 6)) (by kernel_rfl) (v := .pointer (some ⟨w5.heap.size, 0, none⟩)) (w' := w5.alloc (.cells (dgQ 0 0) 39)) (by kernel_rfl) (K5.go ((Below.refl _ _).alloc (Nat.le_refl _) _)) ?_ ?_
         · intro w6 hw6 K6
           have L6_0 := lt_of_heap G5_n
           have G6_0 : w6.heap[w4.heap.size]? = some (.cells (dgQ 0 0) _ (0, 0)) := hw6 ▸ hp_alloc G5_n _
           have G6_n : w6.heap[w5.heap.size]? = some (.cells (dgQ 0 0) 39 (0, 0)) := hw6 ▸ heap_alloc_new _ _
           have S6 : w5.heap.size < w6.heap.size := lt_of_heap G6_n
           have R6_0 : w.heap.size < w5.heap.size := (by obtain ⟨T, h⟩ := K5.at 0 rfl; exact lt_of_heap h)
           have R6_1 : w.heap.size + 1 < w5.heap.size := (by obtain ⟨T, h⟩ := K5.at 1 rfl; exact lt_of_heap h)
           have Z6 : w.heap.size ≤ w5.heap.size := K5.nb.size
           clear hw6
           refine t_store (by kernel_rfl) (d := none) (by kernel_rfl) (ty := 39) (x := (.tmp 5)) (y := (.tmp 9)) (by kernel_rfl) (g := w4.heap.size) (cells := (dgQ (((x * x)).re.val) (((x * x)).im.val))) (by kernel_rfl) (by kernel_rfl) G6_0 (by kernel_rfl) (by kernel_rfl) (all_dgA _) (K6.puti (n := 16) (by kernel_rfl) (by omega) (neC (by omega) (neC (by omega) ne0)) ns0) ?_ ?_
           · intro w7 hw7 K7
             have G7_s : w7.heap[w4.heap.size]? = some (.cells (dgQ (((x * x)).re.val) (((x * x)).im.val)) _ (0, 0)) := hw7 ▸ setRow_heap _ _ _ _ _ _ G6_0
             have G7_1 : w7.heap[w5.heap.size]? = some (.cells (dgQ 0 0) _ (0, 0)) := hw7 ▸ (setRow_other _ _ _ _ (by omega)).trans G6_n
             have L7 : w6.heap.size ≤ w7.heap.size := by rw [hw7]; exact Nat.le_of_eq (size_setRow _ _ _).symm
             clear hw7
             refine t_store (by kernel_rfl) (d := none) (by kernel_rfl) (ty := 39) (x := (.tmp 6)) (y := (.tmp 12)) (by kernel_rfl) (g := w5.heap.size) (cells := (dgQ (((y * y)).re.val) (((y * y)).im.val))) (by kernel_rfl) (by kernel_rfl) G7_1 (by kernel_rfl) (by kernel_rfl) (all_dgA _) (K7.puti (n := 16) (by kernel_rfl) (by omega) (neC (by omega) (neC (by omega) ne0)) ns0) ?_ ?_
             · intro w8 hw8 K8
               have G8_s : w8.heap[w5.heap.size]? = some (.cells (dgQ (((y * y)).re.val) (((y * y)).im.val)) _ (0, 0)) := hw8 ▸ setRow_heap _ _ _ _ _ _ G7_1
               have G8_0 : w8.heap[w4.heap.size]? = some (.cells (dgQ (((x * x)).re.val) (((x * x)).im.val)) _ (0, 0)) := hw8 ▸ (setRow_other _ _ _ _ (by omega)).trans G7_s
               have L8 : w7.heap.size ≤ w8.heap.size := by rw [hw8]; exact Nat.le_of_eq (size_setRow _ _ _).symm
               clear hw8
               exact t_done ⟨rfl, w4.heap.size, w5.heap.size, by kernel_rfl, Kept.zero K8.nb (rowsC (K8.at 0 rfl) (rowsC (K8.at 1 rfl) (rowsC ⟨_, G8_0⟩ (rowsC ⟨_, G8_s⟩ rows0)))), (by omega), (by omega), (by omega)⟩
             ·
               exact t_nil
           ·
             exact t_nil
         ·
           exact t_nil
       ·
         refine t_make (by kernel_rfl) (d := (some 6)) (by kernel_rfl) (v := .pointer (some ⟨w4.heap.size, 0, none⟩)) (w' := w4.alloc (.cells (dgQ 0 0) 39)) (by kernel_rfl) (K4.go ((Below.refl _ _).alloc (Nat.le_refl _) _)) ?_ ?_
         · intro w9 hw9 K9
           have G9_n : w9.heap[w4.heap.size]? = some (.cells (dgQ 0 0) 39 (0, 0)) := hw9 ▸ heap_alloc_new _ _
           have S9 : w4.heap.size < w9.heap.size := lt_of_heap G9_n
           have R9_0 : w.heap.size < w4.heap.size := (by obtain ⟨T, h⟩ := K4.at 0 rfl; exact lt_of_heap h)
           have R9_1 : w.heap.size + 1 < w4.heap.size := (by obtain ⟨T, h⟩ := K4.at 1 rfl; exact lt_of_heap h)
           have Z9 : w.heap.size ≤ w4.heap.size := K4.nb.size
           clear hw9
           refine t_make (by kernel_rfl) (d := (some 5)) (by kernel_rfl) (v := .pointer (some ⟨w9.heap.size, 0, none⟩)) (w' := w9.alloc (.cells (dgQ 0 0) 39)) (by kernel_rfl) (K9.go ((Below.refl _ _).alloc (Nat.le_refl _) _)) ?_ ?_
           · intro w10 hw10 K10
             have L10_0 := lt_of_heap G9_n
             have G10_0 : w10.heap[w4.heap.size]? = some (.cells (dgQ 0 0) _ (0, 0)) := hw10 ▸ hp_alloc G9_n _
             have G10_n : w10.heap[w9.heap.size]? = some (.cells (dgQ 0 0) 39 (0, 0)) := hw10 ▸ heap_alloc_new _ _
             have S10 : w9.heap.size < w10.heap.size := lt_of_heap G10_n
             have R10_0 : w.heap.size < w9.heap.size := (by obtain ⟨T, h⟩ := K9.at 0 rfl; exact lt_of_heap h)
             have R10_1 : w.heap.size + 1 < w9.heap.size := (by obtain ⟨T, h⟩ := K9.at 1 rfl; exact lt_of_heap h)
             have Z10 : w.heap.size ≤ w9.heap.size := K9.nb.size
             clear hw10
             refine t_store (by kernel_rfl) (d := none) (by kernel_rfl) (ty := 39) (x := (.tmp 5)) (y := (.tmp 9)) (by kernel_rfl) (g := w9.heap.size) (cells := (dgQ (((x * x)).re.val) (((x * x)).im.val))) (by kernel_rfl) (by kernel_rfl) G10_n (by kernel_rfl) (by kernel_rfl) (all_dgA _) (K10.puti (n := 16) (by kernel_rfl) (by omega) (neC (by omega) (neC (by omega) ne0)) ns0) ?_ ?_
             · intro w11 hw11 K11
               have G11_s : w11.heap[w9.heap.size]? = some (.cells (dgQ (((x * x)).re.val) (((x * x)).im.val)) _ (0, 0)) := hw11 ▸ setRow_heap _ _ _ _ _ _ G10_n
               have G11_0 : w11.heap[w4.heap.size]? = some (.cells (dgQ 0 0) _ (0, 0)) := hw11 ▸ (setRow_other _ _ _ _ (by omega)).trans G10_0
               have L11 : w10.heap.size ≤ w11.heap.size := by rw [hw11]; exact Nat.le_of_eq (size_setRow _ _ _).symm
               clear hw11
               refine t_store (by kernel_rfl) (d := none) (by kernel_rfl) (ty := 39) (x := (.tmp 6)) (y := (.tmp 12)) (by kernel_rfl) (g := w4.heap.size) (cells := (dgQ (((y * y)).re.val) (((y * y)).im.val))) (by kernel_rfl) (by kernel_rfl) G11_0 (by kernel_rfl) (by kernel_rfl) (all_dgA _) (K11.puti (n := 16) (by kernel_rfl) (by omega) (neC (by omega) (neC (by omega) ne0)) ns0) ?_ ?_
               · intro w12 hw12 K12
                 have G12_s : w12.heap[w4.heap.size]? = some (.cells (dgQ (((y * y)).re.val) (((y * y)).im.val)) _ (0, 0)) := hw12 ▸ setRow_heap _ _ _ _ _ _ G11_0
                 have G12_1 : w12.heap[w9.heap.size]? = some (.cells (dgQ (((x * x)).re.val) (((x * x)).im.val)) _ (0, 0)) := hw12 ▸ (setRow_other _ _ _ _ (by omega)).trans G11_s
                 have L12 : w11.heap.size ≤ w12.heap.size := by rw [hw12]; exact Nat.le_of_eq (size_setRow _ _ _).symm
                 clear hw12
                 exact t_done ⟨rfl, w9.heap.size, w4.heap.size, by kernel_rfl, Kept.zero K12.nb (rowsC (K12.at 0 rfl) (rowsC (K12.at 1 rfl) (rowsC ⟨_, G12_1⟩ (rowsC ⟨_, G12_s⟩ rows0)))), (by omega), (by omega), (by omega)⟩
               ·
                 exact t_nil
             ·
               exact t_nil
           ·
             exact t_nil
         ·
           exact t_nil
     ·
       refine t_make (by kernel_rfl) (d := (some 5)) (by kernel_rfl) (v := .pointer (some ⟨w3.heap.size, 0, none⟩)) (w' := w3.alloc (.cells (dgQ 0 0) 39)) (by kernel_rfl) (K3.go ((Below.refl _ _).alloc (Nat.le_refl _) _)) ?_ ?_
       · intro w13 hw13 K13
         have G13_n : w13.heap[w3.heap.size]? = some (.cells (dgQ 0 0) 39 (0, 0)) := hw13 ▸ heap_alloc_new _ _
         have S13 : w3.heap.size < w13.heap.size := lt_of_heap G13_n
         have R13_0 : w.heap.size < w3.heap.size := (by obtain ⟨T, h⟩ := K3.at 0 rfl; exact lt_of_heap h)
         have R13_1 : w.heap.size + 1 < w3.heap.size := (by obtain ⟨T, h⟩ := K3.at 1 rfl; exact lt_of_heap h)
         have Z13 : w.heap.size ≤ w3.heap.size := K3.nb.size
         clear hw13
         refine tc (d := some 12) (f := 25) (args := #[.agg (dgQ y.re.val y.im.val), .agg (dgQ y.re.val y.im.val)]) (v := .agg (dgQ (((y * y)).re.val) (((y * y)).im.val))) (mulQ_q) (fun w14 hb14 => ⟨K13.go hb14, ?_⟩) ?_
         · have K14 := K13.go hb14
           have G14_10 := nb_heap G13_n _ hb14
           have L14 := hb14.size
           refine t_make (by kernel_rfl) (d := (some 6)) (by kernel_rfl) (v := .pointer (some ⟨w14.heap.size, 0, none⟩)) (w' := w14.alloc (.cells (dgQ 0 0) 39)) (by kernel_rfl) (K14.go ((Below.refl _ _).alloc (Nat.le_refl _) _)) ?_ ?_
           · intro w15 hw15 K15
             have L15_0 := lt_of_heap G14_10
             have G15_0 : w15.heap[w3.heap.size]? = some (.cells (dgQ 0 0) _ (0, 0)) := hw15 ▸ hp_alloc G14_10 _
             have G15_n : w15.heap[w14.heap.size]? = some (.cells (dgQ 0 0) 39 (0, 0)) := hw15 ▸ heap_alloc_new _ _
             have S15 : w14.heap.size < w15.heap.size := lt_of_heap G15_n
             have R15_0 : w.heap.size < w14.heap.size := (by obtain ⟨T, h⟩ := K14.at 0 rfl; exact lt_of_heap h)
             have R15_1 : w.heap.size + 1 < w14.heap.size := (by obtain ⟨T, h⟩ := K14.at 1 rfl; exact lt_of_heap h)
             have Z15 : w.heap.size ≤ w14.heap.size := K14.nb.size
             clear hw15
             refine t_store (by kernel_rfl) (d := none) (by kernel_rfl) (ty := 39) (x := (.tmp 5)) (y := (.tmp 9)) (by kernel_rfl) (g := w3.heap.size) (cells := (dgQ (((x * x)).re.val) (((x * x)).im.val))) (by kernel_rfl) (by kernel_rfl) G15_0 (by kernel_rfl) (by kernel_rfl) (all_dgA _) (K15.puti (n := 16) (by kernel_rfl) (by omega) (neC (by omega) (neC (by omega) ne0)) ns0) ?_ ?_
             · intro w16 hw16 K16
               have G16_s : w16.heap[w3.heap.size]? = some (.cells (dgQ (((x * x)).re.val) (((x * x)).im.val)) _ (0, 0)) := hw16 ▸ setRow_heap _ _ _ _ _ _ G15_0
               have G16_1 : w16.heap[w14.heap.size]? = some (.cells (dgQ 0 0) _ (0, 0)) := hw16 ▸ (setRow_other _ _ _ _ (by omega)).trans G15_n
               have L16 : w15.heap.size ≤ w16.heap.size := by rw [hw16]; exact Nat.le_of_eq (size_setRow _ _ _).symm
               clear hw16
               refine t_store (by kernel_rfl) (d := none) (by kernel_rfl) (ty := 39) (x := (.tmp 6)) (y := (.tmp 12)) (by kernel_rfl) (g := w14.heap.size) (cells := (dgQ (((y * y)).re.val) (((y * y)).im.val))) (by kernel_rfl) (by kernel_rfl) G16_1 (by kernel_rfl) (by kernel_rfl) (all_dgA _) (K16.puti (n := 16) (by kernel_rfl) (by omega) (neC (by omega) (neC (by omega) ne0)) ns0) ?_ ?_
               · intro w17 hw17 K17
                 have G17_s : w17.heap[w14.heap.size]? = some (.cells (dgQ (((y * y)).re.val) (((y * y)).im.val)) _ (0, 0)) := hw17 ▸ setRow_heap _ _ _ _ _ _ G16_1
                 have G17_0 : w17.heap[w3.heap.size]? = some (.cells (dgQ (((x * x)).re.val) (((x * x)).im.val)) _ (0, 0)) := hw17 ▸ (setRow_other _ _ _ _ (by omega)).trans G16_s
                 have L17 : w16.heap.size ≤ w17.heap.size := by rw [hw17]; exact Nat.le_of_eq (size_setRow _ _ _).symm
                 clear hw17
                 exact t_done ⟨rfl, w3.heap.size, w14.heap.size, by kernel_rfl, Kept.zero K17.nb (rowsC (K17.at 0 rfl) (rowsC (K17.at 1 rfl) (rowsC ⟨_, G17_0⟩ (rowsC ⟨_, G17_s⟩ rows0)))), (by omega), (by omega), (by omega)⟩
               ·
                 exact t_nil
             ·
               exact t_nil
           ·
             exact t_nil
         ·
           refine t_make (by kernel_rfl) (d := (some 6)) (by kernel_rfl) (v := .pointer (some ⟨w13.heap.size, 0, none⟩)) (w' := w13.alloc (.cells (dgQ 0 0) 39)) (by kernel_rfl) (K13.go ((Below.refl _ _).alloc (Nat.le_refl _) _)) ?_ ?_
           · intro w18 hw18 K18
             have L18_0 := lt_of_heap G13_n
             have G18_0 : w18.heap[w3.heap.size]? = some (.cells (dgQ 0 0) _ (0, 0)) := hw18 ▸ hp_alloc G13_n _
             have G18_n : w18.heap[w13.heap.size]? = some (.cells (dgQ 0 0) 39 (0, 0)) := hw18 ▸ heap_alloc_new _ _
             have S18 : w13.heap.size < w18.heap.size := lt_of_heap G18_n
             have R18_0 : w.heap.size < w13.heap.size := (by obtain ⟨T, h⟩ := K13.at 0 rfl; exact lt_of_heap h)
             have R18_1 : w.heap.size + 1 < w13.heap.size := (by obtain ⟨T, h⟩ := K13.at 1 rfl; exact lt_of_heap h)
             have Z18 : w.heap.size ≤ w13.heap.size := K13.nb.size
             clear hw18
             refine tc (d := some 12) (f := 25) (args := #[.agg (dgQ y.re.val y.im.val), .agg (dgQ y.re.val y.im.val)]) (v := .agg (dgQ (((y * y)).re.val) (((y * y)).im.val))) (mulQ_q) (fun w19 hb19 => ⟨K18.go hb19, ?_⟩) ?_
             · have K19 := K18.go hb19
               have G19_20 := nb_heap G18_0 _ hb19
               have G19_21 := nb_heap G18_n _ hb19
               have L19 := hb19.size
               refine t_store (by kernel_rfl) (d := none) (by kernel_rfl) (ty := 39) (x := (.tmp 5)) (y := (.tmp 9)) (by kernel_rfl) (g := w3.heap.size) (cells := (dgQ (((x * x)).re.val) (((x * x)).im.val))) (by kernel_rfl) (by kernel_rfl) G19_20 (by kernel_rfl) (by kernel_rfl) (all_dgA _) (K19.puti (n := 16) (by kernel_rfl) (by omega) (neC (by omega) (neC (by omega) ne0)) ns0) ?_ ?_
               · intro w20 hw20 K20
                 have G20_s : w20.heap[w3.heap.size]? = some (.cells (dgQ (((x * x)).re.val) (((x * x)).im.val)) _ (0, 0)) := hw20 ▸ setRow_heap _ _ _ _ _ _ G19_20
                 have G20_1 : w20.heap[w13.heap.size]? = some (.cells (dgQ 0 0) _ (0, 0)) := hw20 ▸ (setRow_other _ _ _ _ (by omega)).trans G19_21
                 have L20 : w19.heap.size ≤ w20.heap.size := by rw [hw20]; exact Nat.le_of_eq (size_setRow _ _ _).symm
                 clear hw20
                 refine t_store (by kernel_rfl) (d := none) (by kernel_rfl) (ty := 39) (x := (.tmp 6)) (y := (.tmp 12)) (by kernel_rfl) (g := w13.heap.size) (cells := (dgQ (((y * y)).re.val) (((y * y)).im.val))) (by kernel_rfl) (by kernel_rfl) G20_1 (by kernel_rfl) (by kernel_rfl) (all_dgA _) (K20.puti (n := 16) (by kernel_rfl) (by omega) (neC (by omega) (neC (by omega) ne0)) ns0) ?_ ?_
                 · intro w21 hw21 K21
                   have G21_s : w21.heap[w13.heap.size]? = some (.cells (dgQ (((y * y)).re.val) (((y * y)).im.val)) _ (0, 0)) := hw21 ▸ setRow_heap _ _ _ _ _ _ G20_1
                   have G21_0 : w21.heap[w3.heap.size]? = some (.cells (dgQ (((x * x)).re.val) (((x * x)).im.val)) _ (0, 0)) := hw21 ▸ (setRow_other _ _ _ _ (by omega)).trans G20_s
                   have L21 : w20.heap.size ≤ w21.heap.size := by rw [hw21]; exact Nat.le_of_eq (size_setRow _ _ _).symm
                   clear hw21
                   exact t_done ⟨rfl, w3.heap.size, w13.heap.size, by kernel_rfl, Kept.zero K21.nb (rowsC (K21.at 0 rfl) (rowsC (K21.at 1 rfl) (rowsC ⟨_, G21_0⟩ (rowsC ⟨_, G21_s⟩ rows0)))), (by omega), (by omega), (by omega)⟩
                 ·
                   exact t_nil
               ·
                 exact t_nil
             ·
               exact t_nil
           ·
             exact t_nil
       ·
         refine t_make (by kernel_rfl) (d := (some 6)) (by kernel_rfl) (v := .pointer (some ⟨w3.heap.size, 0, none⟩)) (w' := w3.alloc (.cells (dgQ 0 0) 39)) (by kernel_rfl) (K3.go ((Below.refl _ _).alloc (Nat.le_refl _) _)) ?_ ?_
         · intro w22 hw22 K22
           have G22_n : w22.heap[w3.heap.size]? = some (.cells (dgQ 0 0) 39 (0, 0)) := hw22 ▸ heap_alloc_new _ _
           have S22 : w3.heap.size < w22.heap.size := lt_of_heap G22_n
           have R22_0 : w.heap.size < w3.heap.size := (by obtain ⟨T, h⟩ := K3.at 0 rfl; exact lt_of_heap h)
           have R22_1 : w.heap.size + 1 < w3.heap.size := (by obtain ⟨T, h⟩ := K3.at 1 rfl; exact lt_of_heap h)
           have Z22 : w.heap.size ≤ w3.heap.size := K3.nb.size
           clear hw22
           refine tc (d := some 12) (f := 25) (args := #[.agg (dgQ y.re.val y.im.val), .agg (dgQ y.re.val y.im.val)]) (v := .agg (dgQ (((y * y)).re.val) (((y * y)).im.val))) (mulQ_q) (fun w23 hb23 => ⟨K22.go hb23, ?_⟩) ?_
           · have K23 := K22.go hb23
             have G23_10 := nb_heap G22_n _ hb23
             have L23 := hb23.size
             refine t_make (by kernel_rfl) (d := (some 5)) (by kernel_rfl) (v := .pointer (some ⟨w23.heap.size, 0, none⟩)) (w' := w23.alloc (.cells (dgQ 0 0) 39)) (by kernel_rfl) (K23.go ((Below.refl _ _).alloc (Nat.le_refl _) _)) ?_ ?_
             · intro w24 hw24 K24
               have L24_0 := lt_of_heap G23_10
               have G24_0 : w24.heap[w3.heap.size]? = some (.cells (dgQ 0 0) _ (0, 0)) := hw24 ▸ hp_alloc G23_10 _
               have G24_n : w24.heap[w23.heap.size]? = some (.cells (dgQ 0 0) 39 (0, 0)) := hw24 ▸ heap_alloc_new _ _
               have S24 : w23.heap.size < w24.heap.size := lt_of_heap G24_n
               have R24_0 : w.heap.size < w23.heap.size := (by obtain ⟨T, h⟩ := K23.at 0 rfl; exact lt_of_heap h)
               have R24_1 : w.heap.size + 1 < w23.heap.size := (by obtain ⟨T, h⟩ := K23.at 1 rfl; exact lt_of_heap h)
               have Z24 : w.heap.size ≤ w23.heap.size := K23.nb.size
               clear hw24
               refine t_store (by kernel_rfl) (d := none) (by kernel_rfl) (ty := 39) (x := (.tmp 5)) (y := (.tmp 9)) (by kernel_rfl) (g := w23.heap.size) (cells := (dgQ (((x * x)).re.val) (((x * x)).im.val))) (by kernel_rfl) (by kernel_rfl) G24_n (by kernel_rfl) (by kernel_rfl) (all_dgA _) (K24.puti (n := 16) (by kernel_rfl) (by omega) (neC (by omega) (neC (by omega) ne0)) ns0) ?_ ?_
               · intro w25 hw25 K25
                 have G25_s : w25.heap[w23.heap.size]? = some (.cells (dgQ (((x * x)).re.val) (((x * x)).im.val)) _ (0, 0)) := hw25 ▸ setRow_heap _ _ _ _ _ _ G24_n
                 have G25_0 : w25.heap[w3.heap.size]? = some (.cells (dgQ 0 0) _ (0, 0)) := hw25 ▸ (setRow_other _ _ _ _ (by omega)).trans G24_0
                 have L25 : w24.heap.size ≤ w25.heap.size := by rw [hw25]; exact Nat.le_of_eq (size_setRow _ _ _).symm
                 clear hw25
                 refine t_store (by kernel_rfl) (d := none) (by kernel_rfl) (ty := 39) (x := (.tmp 6)) (y := (.tmp 12)) (by kernel_rfl) (g := w3.heap.size) (cells := (dgQ (((y * y)).re.val) (((y * y)).im.val))) (by kernel_rfl) (by kernel_rfl) G25_0 (by kernel_rfl) (by kernel_rfl) (all_dgA _) (K25.puti (n := 16) (by kernel_rfl) (by omega) (neC (by omega) (neC (by omega) ne0)) ns0) ?_ ?_
                 · intro w26 hw26 K26
                   have G26_s : w26.heap[w3.heap.size]? = some (.cells (dgQ (((y * y)).re.val) (((y * y)).im.val)) _ (0, 0)) := hw26 ▸ setRow_heap _ _ _ _ _ _ G25_0
                   have G26_1 : w26.heap[w23.heap.size]? = some (.cells (dgQ (((x * x)).re.val) (((x * x)).im.val)) _ (0, 0)) := hw26 ▸ (setRow_other _ _ _ _ (by omega)).trans G25_s
                   have L26 : w25.heap.size ≤ w26.heap.size := by rw [hw26]; exact Nat.le_of_eq (size_setRow _ _ _).symm
                   clear hw26
                   exact t_done ⟨rfl, w23.heap.size, w3.heap.size, by kernel_rfl, Kept.zero K26.nb (rowsC (K26.at 0 rfl) (rowsC (K26.at 1 rfl) (rowsC ⟨_, G26_1⟩ (rowsC ⟨_, G26_s⟩ rows0)))), (by omega), (by omega), (by omega)⟩
                 ·
                   exact t_nil
               ·
                 exact t_nil
             ·
               exact t_nil
           ·
             refine t_make (by kernel_rfl) (d := (some 5)) (by kernel_rfl) (v := .pointer (some ⟨w22.heap.size, 0, none⟩)) (w' := w22.alloc (.cells (dgQ 0 0) 39)) (by kernel_rfl) (K22.go ((Below.refl _ _).alloc (Nat.le_refl _) _)) ?_ ?_
             · intro w27 hw27 K27
               have L27_0 := lt_of_heap G22_n
               have G27_0 : w27.heap[w3.heap.size]? = some (.cells (dgQ 0 0) _ (0, 0)) := hw27 ▸ hp_alloc G22_n _
               have G27_n : w27.heap[w22.heap.size]? = some (.cells (dgQ 0 0) 39 (0, 0)) := hw27 ▸ heap_alloc_new _ _
               have S27 : w22.heap.size < w27.heap.size := lt_of_heap G27_n
               have R27_0 : w.heap.size < w22.heap.size := (by obtain ⟨T, h⟩ := K22.at 0 rfl; exact lt_of_heap h)
               have R27_1 : w.heap.size + 1 < w22.heap.size := (by obtain ⟨T, h⟩ := K22.at 1 rfl; exact lt_of_heap h)
               have Z27 : w.heap.size ≤ w22.heap.size := K22.nb.size
               clear hw27
               refine tc (d := some 12) (f := 25) (args := #[.agg (dgQ y.re.val y.im.val), .agg (dgQ y.re.val y.im.val)]) (v := .agg (dgQ (((y * y)).re.val) (((y * y)).im.val))) (mulQ_q) (fun w28 hb28 => ⟨K27.go hb28, ?_⟩) ?_
               · have K28 := K27.go hb28
                 have G28_20 := nb_heap G27_0 _ hb28
                 have G28_21 := nb_heap G27_n _ hb28
                 have L28 := hb28.size
                 refine t_store (by kernel_rfl) (d := none) (by kernel_rfl) (ty := 39) (x := (.tmp 5)) (y := (.tmp 9)) (by kernel_rfl) (g := w22.heap.size) (cells := (dgQ (((x * x)).re.val) (((x * x)).im.val))) (by kernel_rfl) (by kernel_rfl) G28_21 (by kernel_rfl) (by kernel_rfl) (all_dgA _) (K28.puti (n := 16) (by kernel_rfl) (by omega) (neC (by omega) (neC (by omega) ne0)) ns0) ?_ ?_
                 · intro w29 hw29 K29
                   have G29_s : w29.heap[w22.heap.size]? = some (.cells (dgQ (((x * x)).re.val) (((x * x)).im.val)) _ (0, 0)) := hw29 ▸ setRow_heap _ _ _ _ _ _ G28_21
                   have G29_0 : w29.heap[w3.heap.size]? = some (.cells (dgQ 0 0) _ (0, 0)) := hw29 ▸ (setRow_other _ _ _ _ (by omega)).trans G28_20
                   have L29 : w28.heap.size ≤ w29.heap.size := by rw [hw29]; exact Nat.le_of_eq (size_setRow _ _ _).symm
                   clear hw29
                   refine t_store (by kernel_rfl) (d := none) (by kernel_rfl) (ty := 39) (x := (.tmp 6)) (y := (.tmp 12)) (by kernel_rfl) (g := w3.heap.size) (cells := (dgQ (((y * y)).re.val) (((y * y)).im.val))) (by kernel_rfl) (by kernel_rfl) G29_0 (by kernel_rfl) (by kernel_rfl) (all_dgA _) (K29.puti (n := 16) (by kernel_rfl) (by omega) (neC (by omega) (neC (by omega) ne0)) ns0) ?_ ?_
                   · intro w30 hw30 K30
                     have G30_s : w30.heap[w3.heap.size]? = some (.cells (dgQ (((y * y)).re.val) (((y * y)).im.val)) _ (0, 0)) := hw30 ▸ setRow_heap _ _ _ _ _ _ G29_0
                     have G30_1 : w30.heap[w22.heap.size]? = some (.cells (dgQ (((x * x)).re.val) (((x * x)).im.val)) _ (0, 0)) := hw30 ▸ (setRow_other _ _ _ _ (by omega)).trans G29_s
                     have L30 : w29.heap.size ≤ w30.heap.size := by rw [hw30]; exact Nat.le_of_eq (size_setRow _ _ _).symm
                     clear hw30
                     exact t_done ⟨rfl, w22.heap.size, w3.heap.size, by kernel_rfl, Kept.zero K30.nb (rowsC (K30.at 0 rfl) (rowsC (K30.at 1 rfl) (rowsC ⟨_, G30_1⟩ (rowsC ⟨_, G30_s⟩ rows0)))), (by omega), (by omega), (by omega)⟩
                   ·
                     exact t_nil
                 ·
                   exact t_nil
               ·
                 exact t_nil
             ·
               exact t_nil
         ·
           exact t_nil
   ·
     refine t_make (by kernel_rfl) (d := (some 5)) (by kernel_rfl) (v := .pointer (some ⟨W0.drew.heap.size, 0, none⟩)) (w' := W0.drew.alloc (.cells (dgQ 0 0) 39)) (by kernel_rfl) (K2.go ((Below.refl _ _).alloc (Nat.le_refl _) _)) ?_ ?_
     · intro w31 hw31 K31
       have G31_n : w31.heap[W0.drew.heap.size]? = some (.cells (dgQ 0 0) 39 (0, 0)) := hw31 ▸ heap_alloc_new _ _
       have S31 : W0.drew.heap.size < w31.heap.size := lt_of_heap G31_n
       have R31_0 : w.heap.size < W0.drew.heap.size := (by obtain ⟨T, h⟩ := K2.at 0 rfl; exact lt_of_heap h)
       have R31_1 : w.heap.size + 1 < W0.drew.heap.size := (by obtain ⟨T, h⟩ := K2.at 1 rfl; exact lt_of_heap h)
       have Z31 : w.heap.size ≤ W0.drew.heap.size := K2.nb.size
       clear hw31
       refine tc (d := some 9) (f := 25) (args := #[.agg (dgQ x.re.val x.im.val), .agg (dgQ x.re.val x.im.val)]) (v := .agg (dgQ (((x * x)).re.val) (((x * x)).im.val))) (mulQ_q) (fun w32 hb32 => ⟨K31.go hb32, ?_⟩) ?_
       · have K32 := K31.go hb32
         have G32_10 := nb_heap G31_n _ hb32
         have L32 := hb32.size
         refine tc (d := some 12) (f := 25) (args := #[.agg (dgQ y.re.val y.im.val), .agg (dgQ y.re.val y.im.val)]) (v := .agg (dgQ (((y * y)).re.val) (((y * y)).im.val))) (mulQ_q) (fun w33 hb33 => ⟨K32.go hb33, ?_⟩) ?_
         · have K33 := K32.go hb33
           have G33_10 := nb_heap G32_10 _ hb33
           have L33 := hb33.size
           refine t_make (by kernel_rfl) (d := (some 6)) (by kernel_rfl) (v := .pointer (some ⟨w33.heap.size, 0, none⟩)) (w' := w33.alloc (.cells (dgQ 0 0) 39)) (by kernel_rfl) (K33.go ((Below.refl _ _).alloc (Nat.le_refl _) _)) ?_ ?_
           · intro w34 hw34 K34
             have L34_0 := lt_of_heap G33_10
             have G34_0 : w34.heap[W0.drew.heap.size]? = some (.cells (dgQ 0 0) _ (0, 0)) := hw34 ▸ hp_alloc G33_10 _
             have G34_n : w34.heap[w33.heap.size]? = some (.cells (dgQ 0 0) 39 (0, 0)) := hw34 ▸ heap_alloc_new _ _
             have S34 : w33.heap.size < w34.heap.size := lt_of_heap G34_n
             have R34_0 : w.heap.size < w33.heap.size := (by obtain ⟨T, h⟩ := K33.at 0 rfl; exact lt_of_heap h)
             have R34_1 : w.heap.size + 1 < w33.heap.size := (by obtain ⟨T, h⟩ := K33.at 1 rfl; exact lt_of_heap h)
             have Z34 : w.heap.size ≤ w33.heap.size := K33.nb.size
             clear hw34
             refine t_store (by kernel_rfl) (d := none) (by kernel_rfl) (ty := 39) (x := (.tmp 5)) (y := (.tmp 9)) (by kernel_rfl) (g := W0.drew.heap.size) (cells := (dgQ (((x * x)).re.val) (((x * x)).im.val))) (by kernel_rfl) (by kernel_rfl) G34_0 (by kernel_rfl) (by kernel_rfl) (all_dgA _) (K34.puti (n := 16) (by kernel_rfl) (by omega) (neC (by omega) (neC (by omega) ne0)) ns0) ?_ ?_
             · intro w35 hw35 K35
               have G35_s : w35.heap[W0.drew.heap.size]? = some (.cells (dgQ (((x * x)).re.val) (((x * x)).im.val)) _ (0, 0)) := hw35 ▸ setRow_heap _ _ _ _ _ _ G34_0
               have G35_1 : w35.heap[w33.heap.size]? = some (.cells (dgQ 0 0) _ (0, 0)) := hw35 ▸ (setRow_other _ _ _ _ (by omega)).trans G34_n
               have L35 : w34.heap.size ≤ w35.heap.size := by rw [hw35]; exact Nat.le_of_eq (size_setRow _ _ _).symm
               clear hw35
               refine t_store (by kernel_rfl) (d := none) (by kernel_rfl) (ty := 39) (x := (.tmp 6)) (y := (.tmp 12)) (by kernel_rfl) (g := w33.heap.size) (cells := (dgQ (((y * y)).re.val) (((y * y)).im.val))) (by kernel_rfl) (by kernel_rfl) G35_1 (by kernel_rfl) (by kernel_rfl) (all_dgA _) (K35.puti (n := 16) (by kernel_rfl) (by omega) (neC (by omega) (neC (by omega) ne0)) ns0) ?_ ?_
               · intro w36 hw36 K36
                 have G36_s : w36.heap[w33.heap.size]? = some (.cells (dgQ (((y * y)).re.val) (((y * y)).im.val)) _ (0, 0)) := hw36 ▸ setRow_heap _ _ _ _ _ _ G35_1
                 have G36_0 : w36.heap[W0.drew.heap.size]? = some (.cells (dgQ (((x * x)).re.val) (((x * x)).im.val)) _ (0, 0)) := hw36 ▸ (setRow_other _ _ _ _ (by omega)).trans G35_s
                 have L36 : w35.heap.size ≤ w36.heap.size := by rw [hw36]; exact Nat.le_of_eq (size_setRow _ _ _).symm
                 clear hw36
                 exact t_done ⟨rfl, W0.drew.heap.size, w33.heap.size, by kernel_rfl, Kept.zero K36.nb (rowsC (K36.at 0 rfl) (rowsC (K36.at 1 rfl) (rowsC ⟨_, G36_0⟩ (rowsC ⟨_, G36_s⟩ rows0)))), (by omega), (by omega), (by omega)⟩
               ·
                 exact t_nil
             ·
               exact t_nil
           ·
             exact t_nil
         ·
           refine t_make (by kernel_rfl) (d := (some 6)) (by kernel_rfl) (v := .pointer (some ⟨w32.heap.size, 0, none⟩)) (w' := w32.alloc (.cells (dgQ 0 0) 39)) (by kernel_rfl) (K32.go ((Below.refl _ _).alloc (Nat.le_refl _) _)) ?_ ?_
           · intro w37 hw37 K37
             have L37_0 := lt_of_heap G32_10
             have G37_0 : w37.heap[W0.drew.heap.size]? = some (.cells (dgQ 0 0) _ (0, 0)) := hw37 ▸ hp_alloc G32_10 _
             have G37_n : w37.heap[w32.heap.size]? = some (.cells (dgQ 0 0) 39 (0, 0)) := hw37 ▸ heap_alloc_new _ _
             have S37 : w32.heap.size < w37.heap.size := lt_of_heap G37_n
             have R37_0 : w.heap.size < w32.heap.size := (by obtain ⟨T, h⟩ := K32.at 0 rfl; exact lt_of_heap h)
             have R37_1 : w.heap.size + 1 < w32.heap.size := (by obtain ⟨T, h⟩ := K32.at 1 rfl; exact lt_of_heap h)
             have Z37 : w.heap.size ≤ w32.heap.size := K32.nb.size
             clear hw37
             refine tc (d := some 12) (f := 25) (args := #[.agg (dgQ y.re.val y.im.val), .agg (dgQ y.re.val y.im.val)]) (v := .agg (dgQ (((y * y)).re.val) (((y * y)).im.val))) (mulQ_q) (fun w38 hb38 => ⟨K37.go hb38, ?_⟩) ?_
             · have K38 := K37.go hb38
               have G38_20 := nb_heap G37_0 _ hb38
               have G38_21 := nb_heap G37_n _ hb38
               have L38 := hb38.size
               refine t_store (by kernel_rfl) (d := none) (by kernel_rfl) (ty := 39) (x := (.tmp 5)) (y := (.tmp 9)) (by kernel_rfl) (g := W0.drew.heap.size) (cells := (dgQ (((x * x)).re.val) (((x * x)).im.val))) (by kernel_rfl) (by kernel_rfl) G38_20 (by kernel_rfl) (by kernel_rfl) (all_dgA _) (K38.puti (n := 16) (by kernel_rfl) (by omega) (neC (by omega) (neC (by omega) ne0)) ns0) ?_ ?_
               · intro w39 hw39 K39
                 have G39_s : w39.heap[W0.drew.heap.size]? = some (.cells (dgQ (((x * x)).re.val) (((x * x)).im.val)) _ (0, 0)) := hw39 ▸ setRow_heap _ _ _ _ _ _ G38_20
                 have G39_1 : w39.heap[w32.heap.size]? = some (.cells (dgQ 0 0) _ (0, 0)) := hw39 ▸ (setRow_other _ _ _ _ (by omega)).trans G38_21
                 have L39 : w38.heap.size ≤ w39.heap.size := by rw [hw39]; exact Nat.le_of_eq (size_setRow _ _ _).symm
                 clear hw39
                 refine t_store (by kernel_rfl) (d := none) (by kernel_rfl) (ty := 39) (x := (.tmp 6)) (y := (.tmp 12)) (by kernel_rfl) (g := w32.heap.size) (cells := (dgQ (((y * y)).re.val) (((y * y)).im.val))) (by kernel_rfl) (by kernel_rfl) G39_1 (by kernel_rfl) (by kernel_rfl) (all_dgA _) (K39.puti (n := 16) (by kernel_rfl) (by omega) (neC (by omega) (neC (by omega) ne0)) ns0) ?_ ?_
                 · intro w40 hw40 K40
                   have G40_s : w40.heap[w32.heap.size]? = some (.cells (dgQ (((y * y)).re.val) (((y * y)).im.val)) _ (0, 0)) := hw40 ▸ setRow_heap _ _ _ _ _ _ G39_1
                   have G40_0 : w40.heap[W0.drew.heap.size]? = some (.cells (dgQ (((x * x)).re.val) (((x * x)).im.val)) _ (0, 0)) := hw40 ▸ (setRow_other _ _ _ _ (by omega)).trans G39_s
                   have L40 : w39.heap.size ≤ w40.heap.size := by rw [hw40]; exact Nat.le_of_eq (size_setRow _ _ _).symm
                   clear hw40
                   exact t_done ⟨rfl, W0.drew.heap.size, w32.heap.size, by kernel_rfl, Kept.zero K40.nb (rowsC (K40.at 0 rfl) (rowsC (K40.at 1 rfl) (rowsC ⟨_, G40_0⟩ (rowsC ⟨_, G40_s⟩ rows0)))), (by omega), (by omega), (by omega)⟩
                 ·
                   exact t_nil
               ·
                 exact t_nil
             ·
               exact t_nil
           ·
             exact t_nil
       ·
         refine t_make (by kernel_rfl) (d := (some 6)) (by kernel_rfl) (v := .pointer (some ⟨w31.heap.size, 0, none⟩)) (w' := w31.alloc (.cells (dgQ 0 0) 39)) (by kernel_rfl) (K31.go ((Below.refl _ _).alloc (Nat.le_refl _) _)) ?_ ?_
         · intro w41 hw41 K41
           have L41_0 := lt_of_heap G31_n
           have G41_0 : w41.heap[W0.drew.heap.size]? = some (.cells (dgQ 0 0) _ (0, 0)) := hw41 ▸ hp_alloc G31_n _
           have G41_n : w41.heap[w31.heap.size]? = some (.cells (dgQ 0 0) 39 (0, 0)) := hw41 ▸ heap_alloc_new _ _
           have S41 : w31.heap.size < w41.heap.size := lt_of_heap G41_n
           have R41_0 : w.heap.size < w31.heap.size := (by obtain ⟨T, h⟩ := K31.at 0 rfl; exact lt_of_heap h)
           have R41_1 : w.heap.size + 1 < w31.heap.size := (by obtain ⟨T, h⟩ := K31.at 1 rfl; exact lt_of_heap h)
           have Z41 : w.heap.size ≤ w31.heap.size := K31.nb.size
           clear hw41
           refine tc (d := some 9) (f := 25) (args := #[.agg (dgQ x.re.val x.im.val), .agg (dgQ x.re.val x.im.val)]) (v := .agg (dgQ (((x * x)).re.val) (((x * x)).im.val))) (mulQ_q) (fun w42 hb42 => ⟨K41.go hb42, ?_⟩) ?_
           · have K42 := K41.go hb42
             have G42_20 := nb_heap G41_0 _ hb42
             have G42_21 := nb_heap G41_n _ hb42
             have L42 := hb42.size
             refine tc (d := some 12) (f := 25) (args := #[.agg (dgQ y.re.val y.im.val), .agg (dgQ y.re.val y.im.val)]) (v := .agg (dgQ (((y * y)).re.val) (((y * y)).im.val))) (mulQ_q) (fun w43 hb43 => ⟨K42.go hb43, ?_⟩) ?_
             · have K43 := K42.go hb43
               have G43_20 := nb_heap G42_20 _ hb43
               have G43_21 := nb_heap G42_21 _ hb43
               have L43 := hb43.size
               refine t_store (by kernel_rfl) (d := none) (by kernel_rfl) (ty := 39) (x := (.tmp 5)) (y := (.tmp 9)) (by kernel_rfl) (g := W0.drew.heap.size) (cells := (dgQ (((x * x)).re.val) (((x * x)).im.val))) (by kernel_rfl) (by kernel_rfl) G43_20 (by kernel_rfl) (by kernel_rfl) (all_dgA _) (K43.puti (n := 16) (by kernel_rfl) (by omega) (neC (by omega) (neC (by omega) ne0)) ns0) ?_ ?_
               · intro w44 hw44 K44
                 have G44_s : w44.heap[W0.drew.heap.size]? = some (.cells (dgQ (((x * x)).re.val) (((x * x)).im.val)) _ (0, 0)) := hw44 ▸ setRow_heap _ _ _ _ _ _ G43_20
                 have G44_1 : w44.heap[w31.heap.size]? = some (.cells (dgQ 0 0) _ (0, 0)) := hw44 ▸ (setRow_other _ _ _ _ (by omega)).trans G43_21
                 have L44 : w43.heap.size ≤ w44.heap.size := by rw [hw44]; exact Nat.le_of_eq (size_setRow _ _ _).symm
                 clear hw44
                 refine t_store (by kernel_rfl) (d := none) (by kernel_rfl) (ty := 39) (x := (.tmp 6)) (y := (.tmp 12)) (by kernel_rfl) (g := w31.heap.size) (cells := (dgQ (((y * y)).re.val) (((y * y)).im.val))) (by kernel_rfl) (by kernel_rfl) G44_1 (by kernel_rfl) (by kernel_rfl) (all_dgA _) (K44.puti (n := 16) (by kernel_rfl) (by omega) (neC (by omega) (neC (by omega) ne0)) ns0) ?_ ?_
                 · intro w45 hw45 K45
                   have G45_s : w45.heap[w31.heap.size]? = some (.cells (dgQ (((y * y)).re.val) (((y * y)).im.val)) _ (0, 0)) := hw45 ▸ setRow_heap _ _ _ _ _ _ G44_1
                   have G45_0 : w45.heap[W0.drew.heap.size]? = some (.cells (dgQ (((x * x)).re.val) (((x * x)).im.val)) _ (0, 0)) := hw45 ▸ (setRow_other _ _ _ _ (by omega)).trans G44_s
                   have L45 : w44.heap.size ≤ w45.heap.size := by rw [hw45]; exact Nat.le_of_eq (size_setRow _ _ _).symm
                   clear hw45
                   exact t_done ⟨rfl, W0.drew.heap.size, w31.heap.size, by kernel_rfl, Kept.zero K45.nb (rowsC (K45.at 0 rfl) (rowsC (K45.at 1 rfl) (rowsC ⟨_, G45_0⟩ (rowsC ⟨_, G45_s⟩ rows0)))), (by omega), (by omega), (by omega)⟩
                 ·
                   exact t_nil
               ·
                 exact t_nil
             ·
               exact t_nil
           ·
             exact t_nil
         ·
           exact t_nil
     ·
       refine t_make (by kernel_rfl) (d := (some 6)) (by kernel_rfl) (v := .pointer (some ⟨W0.drew.heap.size, 0, none⟩)) (w' := W0.drew.alloc (.cells (dgQ 0 0) 39)) (by kernel_rfl) (K2.go ((Below.refl _ _).alloc (Nat.le_refl _) _)) ?_ ?_
       · intro w46 hw46 K46
         have G46_n : w46.heap[W0.drew.heap.size]? = some (.cells (dgQ 0 0) 39 (0, 0)) := hw46 ▸ heap_alloc_new _ _
         have S46 : W0.drew.heap.size < w46.heap.size := lt_of_heap G46_n
         have R46_0 : w.heap.size < W0.drew.heap.size := (by obtain ⟨T, h⟩ := K2.at 0 rfl; exact lt_of_heap h)
         have R46_1 : w.heap.size + 1 < W0.drew.heap.size := (by obtain ⟨T, h⟩ := K2.at 1 rfl; exact lt_of_heap h)
         have Z46 : w.heap.size ≤ W0.drew.heap.size := K2.nb.size
         clear hw46
         refine tc (d := some 9) (f := 25) (args := #[.agg (dgQ x.re.val x.im.val), .agg (dgQ x.re.val x.im.val)]) (v := .agg (dgQ (((x * x)).re.val) (((x * x)).im.val))) (mulQ_q) (fun w47 hb47 => ⟨K46.go hb47, ?_⟩) ?_
         · have K47 := K46.go hb47
           have G47_10 := nb_heap G46_n _ hb47
           have L47 := hb47.size
           refine tc (d := some 12) (f := 25) (args := #[.agg (dgQ y.re.val y.im.val), .agg (dgQ y.re.val y.im.val)]) (v := .agg (dgQ (((y * y)).re.val) (((y * y)).im.val))) (mulQ_q) (fun w48 hb48 => ⟨K47.go hb48, ?_⟩) ?_
           · have K48 := K47.go hb48
             have G48_10 := nb_heap G47_10 _ hb48
             have L48 := hb48.size
             refine t_make (by kernel_rfl) (d := (some 5)) (by kernel_rfl) (v := .pointer (some ⟨w48.heap.size, 0, none⟩)) (w' := w48.alloc (.cells (dgQ 0 0) 39)) (by kernel_rfl) (K48.go ((Below.refl _ _).alloc (Nat.le_refl _) _)) ?_ ?_
             · intro w49 hw49 K49
               have L49_0 := lt_of_heap G48_10
               have G49_0 : w49.heap[W0.drew.heap.size]? = some (.cells (dgQ 0 0) _ (0, 0)) := hw49 ▸ hp_alloc G48_10 _
               have G49_n : w49.heap[w48.heap.size]? = some (.cells (dgQ 0 0) 39 (0, 0)) := hw49 ▸ heap_alloc_new _ _
               have S49 : w48.heap.size < w49.heap.size := lt_of_heap G49_n
               have R49_0 : w.heap.size < w48.heap.size := (by obtain ⟨T, h⟩ := K48.at 0 rfl; exact lt_of_heap h)
               have R49_1 : w.heap.size + 1 < w48.heap.size := (by obtain ⟨T, h⟩ := K48.at 1 rfl; exact lt_of_heap h)
               have Z49 : w.heap.size ≤ w48.heap.size := K48.nb.size
               clear hw49
               refine t_store (by kernel_rfl) (d := none) (by kernel_rfl) (ty := 39) (x := (.tmp 5)) (y := (.tmp 9)) (by kernel_rfl) (g := w48.heap.size) (cells := (dgQ (((x * x)).re.val) (((x * x)).im.val))) (by kernel_rfl) (by kernel_rfl) G49_n (by kernel_rfl) (by kernel_rfl) (all_dgA _) (K49.puti (n := 16) (by kernel_rfl) (by omega) (neC (by omega) (neC (by omega) ne0)) ns0) ?_ ?_
               · intro w50 hw50 K50
                 have G50_s : w50.heap[w48.heap.size]? = some (.cells (dgQ (((x * x)).re.val) (((x * x)).im.val)) _ (0, 0)) := hw50 ▸ setRow_heap _ _ _ _ _ _ G49_n
                 have G50_0 : w50.heap[W0.drew.heap.size]? = some (.cells (dgQ 0 0) _ (0, 0)) := hw50 ▸ (setRow_other _ _ _ _ (by omega)).trans G49_0
                 have L50 : w49.heap.size ≤ w50.heap.size := by rw [hw50]; exact Nat.le_of_eq (size_setRow _ _ _).symm
                 clear hw50
                 refine t_store (by kernel_rfl) (d := none) (by kernel_rfl) (ty := 39) (x := (.tmp 6)) (y := (.tmp 12)) (by kernel_rfl) (g := W0.drew.heap.size) (cells := (dgQ (((y * y)).re.val) (((y * y)).im.val))) (by kernel_rfl) (by kernel_rfl) G50_0 (by kernel_rfl) (by kernel_rfl) (all_dgA _) (K50.puti (n := 16) (by kernel_rfl) (by omega) (neC (by omega) (neC (by omega) ne0)) ns0) ?_ ?_
                 · intro w51 hw51 K51
                   have G51_s : w51.heap[W0.drew.heap.size]? = some (.cells (dgQ (((y * y)).re.val) (((y * y)).im.val)) _ (0, 0)) := hw51 ▸ setRow_heap _ _ _ _ _ _ G50_0
                   have G51_1 : w51.heap[w48.heap.size]? = some (.cells (dgQ (((x * x)).re.val) (((x * x)).im.val)) _ (0, 0)) := hw51 ▸ (setRow_other _ _ _ _ (by omega)).trans G50_s
                   have L51 : w50.heap.size ≤ w51.heap.size := by rw [hw51]; exact Nat.le_of_eq (size_setRow _ _ _).symm
                   clear hw51
                   exact t_done ⟨rfl, w48.heap.size, W0.drew.heap.size, by kernel_rfl, Kept.zero K51.nb (rowsC (K51.at 0 rfl) (rowsC (K51.at 1 rfl) (rowsC ⟨_, G51_1⟩ (rowsC ⟨_, G51_s⟩ rows0)))), (by omega), (by omega), (by omega)⟩
                 ·
                   exact t_nil
               ·
                 exact t_nil
             ·
               exact t_nil
           ·
             refine t_make (by kernel_rfl) (d := (some 5)) (by kernel_rfl) (v := .pointer (some ⟨w47.heap.size, 0, none⟩)) (w' := w47.alloc (.cells (dgQ 0 0) 39)) (by kernel_rfl) (K47.go ((Below.refl _ _).alloc (Nat.le_refl _) _)) ?_ ?_
             · intro w52 hw52 K52
               have L52_0 := lt_of_heap G47_10
               have G52_0 : w52.heap[W0.drew.heap.size]? = some (.cells (dgQ 0 0) _ (0, 0)) := hw52 ▸ hp_alloc G47_10 _
               have G52_n : w52.heap[w47.heap.size]? = some (.cells (dgQ 0 0) 39 (0, 0)) := hw52 ▸ heap_alloc_new _ _
               have S52 : w47.heap.size < w52.heap.size := lt_of_heap G52_n
               have R52_0 : w.heap.size < w47.heap.size := (by obtain ⟨T, h⟩ := K47.at 0 rfl; exact lt_of_heap h)
               have R52_1 : w.heap.size + 1 < w47.heap.size := (by obtain ⟨T, h⟩ := K47.at 1 rfl; exact lt_of_heap h)
               have Z52 : w.heap.size ≤ w47.heap.size := K47.nb.size
               clear hw52
               refine tc (d := some 12) (f := 25) (args := #[.agg (dgQ y.re.val y.im.val), .agg (dgQ y.re.val y.im.val)]) (v := .agg (dgQ (((y * y)).re.val) (((y * y)).im.val))) (mulQ_q) (fun w53 hb53 => ⟨K52.go hb53, ?_⟩) ?_
               · have K53 := K52.go hb53
                 have G53_20 := nb_heap G52_0 _ hb53
                 have G53_21 := nb_heap G52_n _ hb53
                 have L53 := hb53.size
                 refine t_store (by kernel_rfl) (d := none) (by kernel_rfl) (ty := 39) (x := (.tmp 5)) (y := (.tmp 9)) (by kernel_rfl) (g := w47.heap.size) (cells := (dgQ (((x * x)).re.val) (((x * x)).im.val))) (by kernel_rfl) (by kernel_rfl) G53_21 (by kernel_rfl) (by kernel_rfl) (all_dgA _) (K53.puti (n := 16) (by kernel_rfl) (by omega) (neC (by omega) (neC (by omega) ne0)) ns0) ?_ ?_
                 · intro w54 hw54 K54
                   have G54_s : w54.heap[w47.heap.size]? = some (.cells (dgQ (((x * x)).re.val) (((x * x)).im.val)) _ (0, 0)) := hw54 ▸ setRow_heap _ _ _ _ _ _ G53_21
                   have G54_0 : w54.heap[W0.drew.heap.size]? = some (.cells (dgQ 0 0) _ (0, 0)) := hw54 ▸ (setRow_other _ _ _ _ (by omega)).trans G53_20
                   have L54 : w53.heap.size ≤ w54.heap.size := by rw [hw54]; exact Nat.le_of_eq (size_setRow _ _ _).symm
                   clear hw54
                   refine t_store (by kernel_rfl) (d := none) (by kernel_rfl) (ty := 39) (x := (.tmp 6)) (y := (.tmp 12)) (by kernel_rfl) (g := W0.drew.heap.size) (cells := (dgQ (((y * y)).re.val) (((y * y)).im.val))) (by kernel_rfl) (by kernel_rfl) G54_0 (by kernel_rfl) (by kernel_rfl) (all_dgA _) (K54.puti (n := 16) (by kernel_rfl) (by omega) (neC (by omega) (neC (by omega) ne0)) ns0) ?_ ?_
                   · intro w55 hw55 K55
                     have G55_s : w55.heap[W0.drew.heap.size]? = some (.cells (dgQ (((y * y)).re.val) (((y * y)).im.val)) _ (0, 0)) := hw55 ▸ setRow_heap _ _ _ _ _ _ G54_0
                     have G55_1 : w55.heap[w47.heap.size]? = some (.cells (dgQ (((x * x)).re.val) (((x * x)).im.val)) _ (0, 0)) := hw55 ▸ (setRow_other _ _ _ _ (by omega)).trans G54_s
                     have L55 : w54.heap.size ≤ w55.heap.size := by rw [hw55]; exact Nat.le_of_eq (size_setRow _ _ _).symm
                     clear hw55
                     exact t_done ⟨rfl, w47.heap.size, W0.drew.heap.size, by kernel_rfl, Kept.zero K55.nb (rowsC (K55.at 0 rfl) (rowsC (K55.at 1 rfl) (rowsC ⟨_, G55_1⟩ (rowsC ⟨_, G55_s⟩ rows0)))), (by omega), (by omega), (by omega)⟩
                   ·
                     exact t_nil
                 ·
                   exact t_nil
               ·
                 exact t_nil
             ·
               exact t_nil
         ·
           refine t_make (by kernel_rfl) (d := (some 5)) (by kernel_rfl) (v := .pointer (some ⟨w46.heap.size, 0, none⟩)) (w' := w46.alloc (.cells (dgQ 0 0) 39)) (by kernel_rfl) (K46.go ((Below.refl _ _).alloc (Nat.le_refl _) _)) ?_ ?_
           · intro w56 hw56 K56
             have L56_0 := lt_of_heap G46_n
             have G56_0 : w56.heap[W0.drew.heap.size]? = some (.cells (dgQ 0 0) _ (0, 0)) := hw56 ▸ hp_alloc G46_n _
             have G56_n : w56.heap[w46.heap.size]? = some (.cells (dgQ 0 0) 39 (0, 0)) := hw56 ▸ heap_alloc_new _ _
             have S56 : w46.heap.size < w56.heap.size := lt_of_heap G56_n
             have R56_0 : w.heap.size < w46.heap.size := (by obtain ⟨T, h⟩ := K46.at 0 rfl; exact lt_of_heap h)
             have R56_1 : w.heap.size + 1 < w46.heap.size := (by obtain ⟨T, h⟩ := K46.at 1 rfl; exact lt_of_heap h)
             have Z56 : w.heap.size ≤ w46.heap.size := K46.nb.size
             clear hw56
             refine tc (d := some 9) (f := 25) (args := #[.agg (dgQ x.re.val x.im.val), .agg (dgQ x.re.val x.im.val)]) (v := .agg (dgQ (((x * x)).re.val) (((x * x)).im.val))) (mulQ_q) (fun w57 hb57 => ⟨K56.go hb57, ?_⟩) ?_
             · have K57 := K56.go hb57
               have G57_20 := nb_heap G56_0 _ hb57
               have G57_21 := nb_heap G56_n _ hb57
               have L57 := hb57.size
               refine tc (d := some 12) (f := 25) (args := #[.agg (dgQ y.re.val y.im.val), .agg (dgQ y.re.val y.im.val)]) (v := .agg (dgQ (((y * y)).re.val) (((y * y)).im.val))) (mulQ_q) (fun w58 hb58 => ⟨K57.go hb58, ?_⟩) ?_
               · have K58 := K57.go hb58
                 have G58_20 := nb_heap G57_20 _ hb58
                 have G58_21 := nb_heap G57_21 _ hb58
                 have L58 := hb58.size
                 refine t_store (by kernel_rfl) (d := none) (by kernel_rfl) (ty := 39) (x := (.tmp 5)) (y := (.tmp 9)) (by kernel_rfl) (g := w46.heap.size) (cells := (dgQ (((x * x)).re.val) (((x * x)).im.val))) (by kernel_rfl) (by kernel_rfl) G58_21 (by kernel_rfl) (by kernel_rfl) (all_dgA _) (K58.puti (n := 16) (by kernel_rfl) (by omega) (neC (by omega) (neC (by omega) ne0)) ns0) ?_ ?_
                 · intro w59 hw59 K59
                   have G59_s : w59.heap[w46.heap.size]? = some (.cells (dgQ (((x * x)).re.val) (((x * x)).im.val)) _ (0, 0)) := hw59 ▸ setRow_heap _ _ _ _ _ _ G58_21
                   have G59_0 : w59.heap[W0.drew.heap.size]? = some (.cells (dgQ 0 0) _ (0, 0)) := hw59 ▸ (setRow_other _ _ _ _ (by omega)).trans G58_20
                   have L59 : w58.heap.size ≤ w59.heap.size := by rw [hw59]; exact Nat.le_of_eq (size_setRow _ _ _).symm
                   clear hw59
                   refine t_store (by kernel_rfl) (d := none) (by kernel_rfl) (ty := 39) (x := (.tmp 6)) (y := (.tmp 12)) (by kernel_rfl) (g := W0.drew.heap.size) (cells := (dgQ (((y * y)).re.val) (((y * y)).im.val))) (by kernel_rfl) (by kernel_rfl) G59_0 (by kernel_rfl) (by kernel_rfl) (all_dgA _) (K59.puti (n := 16) (by kernel_rfl) (by omega) (neC (by omega) (neC (by omega) ne0)) ns0) ?_ ?_
                   · intro w60 hw60 K60
                     have G60_s : w60.heap[W0.drew.heap.size]? = some (.cells (dgQ (((y * y)).re.val) (((y * y)).im.val)) _ (0, 0)) := hw60 ▸ setRow_heap _ _ _ _ _ _ G59_0
                     have G60_1 : w60.heap[w46.heap.size]? = some (.cells (dgQ (((x * x)).re.val) (((x * x)).im.val)) _ (0, 0)) := hw60 ▸ (setRow_other _ _ _ _ (by omega)).trans G59_s
                     have L60 : w59.heap.size ≤ w60.heap.size := by rw [hw60]; exact Nat.le_of_eq (size_setRow _ _ _).symm
                     clear hw60
                     exact t_done ⟨rfl, w46.heap.size, W0.drew.heap.size, by kernel_rfl, Kept.zero K60.nb (rowsC (K60.at 0 rfl) (rowsC (K60.at 1 rfl) (rowsC ⟨_, G60_1⟩ (rowsC ⟨_, G60_s⟩ rows0)))), (by omega), (by omega), (by omega)⟩
                   ·
                     exact t_nil
                 ·
                   exact t_nil
               ·
                 exact t_nil
             ·
               exact t_nil
           ·
             exact t_nil
       ·
         exact t_nil
 · rintro _ W61 ⟨p5, p6, rfl, K62, l63, l64, n65⟩
   go_upto_region 2 with (fail)
   have K66 : Kept w [(w.heap.size, (dgQ x.re.val x.im.val)), (w.heap.size + 1, (dgQ y.re.val y.im.val)), (p5, (dgQ (((x * x)).re.val) (((x * x)).im.val))), (p6, (dgQ (((y * y)).re.val) (((y * y)).im.val)))] [] W61 := Kept.mks K62.nb (rowsC (K62.at 0 rfl) (rowsC (K62.at 1 rfl) (rowsC (K62.at 2 rfl) (rowsC (K62.at 3 rfl) rows0)))) rooms0
   refine wrA (opsAt Tryd.f38 2) ((true, 0) :: (true, 1) :: (true, 5) :: (true, 6) :: (false, 2) :: (false, 3) :: (false, 4) :: (false, 7) :: (false, 8) :: (false, 9) :: (true, 10) :: (true, 11) :: []) (Kept w [(w.heap.size, (dgQ x.re.val x.im.val)), (w.heap.size + 1, (dgQ y.re.val y.im.val)), (p5, (dgQ (((x * x)).re.val) (((x * x)).im.val))), (p6, (dgQ (((y * y)).re.val) (((y * y)).im.val)))] []) K66.drew ?_
   have K67 := K66.drew
   have DK67 : W61.heap.size ≤ W61.drew.heap.size := Nat.le_refl _
   refine k_row (by kernel_rfl) (d := (some 13)) (by kernel_rfl) (ty := 39) (x := (.tmp 6)) (by kernel_rfl) (b := p6) (by kernel_rfl) (cs := (dgQ (((y * y)).re.val) (((y * y)).im.val))) (fun _ hs => hs.at 3 rfl) Tryd.underlying39 rfl (by kernel_rfl) ?_
   refine k_row (by kernel_rfl) (d := (some 14)) (by kernel_rfl) (ty := 39) (x := (.tmp 5)) (by kernel_rfl) (b := p5) (by kernel_rfl) (cs := (dgQ (((x * x)).re.val) (((x * x)).im.val))) (fun _ hs => hs.at 2 rfl) Tryd.underlying39 rfl (by kernel_rfl) ?_
   refine k_row (by kernel_rfl) (d := (some 18)) (by kernel_rfl) (ty := 39) (x := (.tmp 5)) (by kernel_rfl) (b := p5) (by kernel_rfl) (cs := (dgQ (((x * x)).re.val) (((x * x)).im.val))) (fun _ hs => hs.at 2 rfl) Tryd.underlying39 rfl (by kernel_rfl) ?_
   refine k_row (by kernel_rfl) (d := (some 19)) (by kernel_rfl) (ty := 39) (x := (.tmp 6)) (by kernel_rfl) (b := p6) (by kernel_rfl) (cs := (dgQ (((y * y)).re.val) (((y * y)).im.val))) (fun _ hs => hs.at 3 rfl) Tryd.underlying39 rfl (by kernel_rfl) ?_
   refine kc (d := some 15) (f := 57) (args := #[.agg (dgQ (((y * y)).re.val) (((y * y)).im.val)), .agg (dgQ (((x * x)).re.val) (((x * x)).im.val))]) (v := .agg (dgQ (((y * y - x * x)).re.val) (((y * y - x * x)).im.val))) (subQ_q) (fun w68 hb68 => ⟨K67.go hb68, ?_⟩)
   have K68 := K67.go hb68
   have L68 := hb68.size
   refine kc (d := some 16) (f := 53) (args := #[]) (v := .agg (dgQ (((1 : Zq)).re.val) (((1 : Zq)).im.val))) (one_q) (fun w69 hb69 => ⟨K68.go hb69, ?_⟩)
   have K69 := K68.go hb69
   have L69 := hb69.size
   refine kc (d := some 17) (f := 32) (args := #[]) (v := .agg (dgQ dd.re.val dd.im.val)) (dD_c) (fun w70 hb70 => ⟨K69.go hb70, ?_⟩)
   have K70 := K69.go hb70
   have L70 := hb70.size
   refine kc (d := some 20) (f := 25) (args := #[.agg (dgQ (((x * x)).re.val) (((x * x)).im.val)), .agg (dgQ (((y * y)).re.val) (((y * y)).im.val))]) (v := .agg (dgQ (((x * x * (y * y))).re.val) (((x * x * (y * y))).im.val))) (mulQ_q) (fun w71 hb71 => ⟨K70.go hb71, ?_⟩)
   have K71 := K70.go hb71
   have L71 := hb71.size
   refine kc (d := some 21) (f := 25) (args := #[.agg (dgQ dd.re.val dd.im.val), .agg (dgQ (((x * x * (y * y))).re.val) (((x * x * (y * y))).im.val))]) (v := .agg (dgQ (((dd * (x * x * (y * y)))).re.val) (((dd * (x * x * (y * y)))).im.val))) (mulQ_q) (fun w72 hb72 => ⟨K71.go hb72, ?_⟩)
   have K72 := K71.go hb72
   have L72 := hb72.size
   refine kc (d := some 22) (f := 58) (args := #[.agg (dgQ (((1 : Zq)).re.val) (((1 : Zq)).im.val)), .agg (dgQ (((dd * (x * x * (y * y)))).re.val) (((dd * (x * x * (y * y)))).im.val))]) (v := .agg (dgQ (((1 + dd * (x * x * (y * y)))).re.val) (((1 + dd * (x * x * (y * y)))).im.val))) (addQ_q) (fun w73 hb73 => ⟨K72.go hb73, ?_⟩)
   have K73 := K72.go hb73
   have L73 := hb73.size
   refine k_eql (by kernel_rfl) (d := (some 23)) (by kernel_rfl) (ty := 39) (ty' := 39) (x := (.tmp 15)) (y := (.tmp 22)) (by kernel_rfl) (xs := (dgQ (((y * y - x * x)).re.val) (((y * y - x * x)).im.val))) (ys := (dgQ (((1 + dd * (x * x * (y * y)))).re.val) (((1 + dd * (x * x * (y * y)))).im.val))) (b := false) (by kernel_rfl) (by kernel_rfl) (by kernel_rfl) (fun w => eqQ_f h w) ?_
   refine kp (d := some 4) (v := .bool false) ?_
   have K74 : Kept w [(w.heap.size, (dgQ x.re.val x.im.val)), (w.heap.size + 1, (dgQ y.re.val y.im.val)), (p5, (dgQ (((x * x)).re.val) (((x * x)).im.val))), (p6, (dgQ (((y * y)).re.val) (((y * y)).im.val)))] [] w73 := Kept.zero K73.nb (rowsC (K73.at 0 rfl) (rowsC (K73.at 1 rfl) (rowsC (K73.at 2 rfl) (rowsC (K73.at 3 rfl) rows0))))
   refine k_end ?_
   go_simp
   go_wp2_with fail
   exact bodyPost_ret_by (by kernel_rfl) (by kernel_rfl) ⟨rfl, K74.nb⟩
set_option maxRecDepth 100000 in
set_option maxHeartbeats 1000000 in
theorem isP0 {w : World} {X Y Z x y : Zq} (h1 : x * Z = X) (h2 : y * Z = Y) :
   Calls Tryd.prog 18 #[.agg (dgL [X.re.val, X.im.val, Y.re.val, Y.im.val, Z.re.val, Z.im.val]), .agg (dgQ x.re.val x.im.val), .agg (dgQ y.re.val y.im.val)] w fun e w' => e = .returned (.bool true) ∧ Below w.heap.size w w' := by
 go_enter Tryd.func18, Tryd.ntmps18
 go_upto_region 1 with (fail)
 refine wp_gen (fun WW => Kept w [(w.heap.size, (dgL [X.re.val, X.im.val, Y.re.val, Y.im.val, Z.re.val, Z.im.val])), (w.heap.size + 1, (dgQ x.re.val x.im.val)), (w.heap.size + 1 + 1, (dgQ y.re.val y.im.val))] [] WW) (Kept.zero (nb_alloc (nb_alloc (nb_alloc (Below.refl _ _) _) _) _) (rowsC (row_as (hp3_0 (w := w) _ _ _) (by kernel_rfl)) (rowsC (row_as (hp3_1 (w := w) _ _ _) (by kernel_rfl)) (rowsC (row_as (hp3_2 (w := w) _ _ _) (by kernel_rfl)) rows0)))) ?_
 intro W0 K0
 have K1 : Kept w [(w.heap.size, (dgL [X.re.val, X.im.val, Y.re.val, Y.im.val, Z.re.val, Z.im.val])), (w.heap.size + 1, (dgQ x.re.val x.im.val)), (w.heap.size + 1 + 1, (dgQ y.re.val y.im.val))] [] W0 := Kept.mks K0.nb (rowsC (K0.at 0 rfl) (rowsC (K0.at 1 rfl) (rowsC (K0.at 2 rfl) rows0))) rooms0
 refine wrA (opsAt Tryd.f18 1) ((true, 0) :: (true, 1) :: (true, 2) :: (true, 4) :: (true, 5) :: (false, 3) :: (true, 6) :: (true, 7) :: (true, 8) :: (true, 9) :: (true, 10) :: (true, 12) :: (true, 13) :: (false, 11) :: (true, 14) :: (true, 15) :: (true, 16) :: []) (Kept w [(w.heap.size, (dgL [X.re.val, X.im.val, Y.re.val, Y.im.val, Z.re.val, Z.im.val])), (w.heap.size + 1, (dgQ x.re.val x.im.val)), (w.heap.size + 1 + 1, (dgQ y.re.val y.im.val))] []) K1.drew ?_
 have K2 := K1.drew
 have DK2 : W0.heap.size ≤ W0.drew.heap.size := Nat.le_refl _
 refine k_row (by kernel_rfl) (d := (some 7)) (by kernel_rfl) (ty := 39) (x := (.tmp 4)) (by kernel_rfl) (b := w.heap.size + 1) (by kernel_rfl) (cs := (dgQ x.re.val x.im.val)) (fun _ hs => hs.at 1 rfl) Tryd.underlying39 rfl (by kernel_rfl) ?_
 refine kp (d := some 8) (v := .pointer (some ⟨w.heap.size, 32, none⟩)) ?_
 refine k_part (by kernel_rfl) (d := (some 9)) (by kernel_rfl) (ty := 39) (x := (.tmp 8)) (by kernel_rfl) (b := w.heap.size) (off := 32) (by kernel_rfl) (all := (dgL [X.re.val, X.im.val, Y.re.val, Y.im.val, Z.re.val, Z.im.val])) (cs := (dgQ Z.re.val Z.im.val)) (fun _ hs => hs.at 0 rfl) (dgsub2 (k := 4) rfl rfl) Tryd.underlying39 rfl (by kernel_rfl) ?_
 refine kp (d := some 11) (v := .pointer (some ⟨w.heap.size, 0, none⟩)) ?_
 refine k_part (by kernel_rfl) (d := (some 12)) (by kernel_rfl) (ty := 39) (x := (.tmp 11)) (by kernel_rfl) (b := w.heap.size) (off := 0) (by kernel_rfl) (all := (dgL [X.re.val, X.im.val, Y.re.val, Y.im.val, Z.re.val, Z.im.val])) (cs := (dgQ X.re.val X.im.val)) (fun _ hs => hs.at 0 rfl) (dgsub2 (k := 0) rfl rfl) Tryd.underlying39 rfl (by kernel_rfl) ?_
 refine kc (d := some 10) (f := 25) (args := #[.agg (dgQ x.re.val x.im.val), .agg (dgQ Z.re.val Z.im.val)]) (v := .agg (dgQ (((x * Z)).re.val) (((x * Z)).im.val))) (mulQ_q) (fun w3 hb3 => ⟨K2.go hb3, ?_⟩)
 have K3 := K2.go hb3
 have L3 := hb3.size
 refine k_eql (by kernel_rfl) (d := (some 13)) (by kernel_rfl) (ty := 39) (ty' := 39) (x := (.tmp 10)) (y := (.tmp 12)) (by kernel_rfl) (xs := (dgQ (((x * Z)).re.val) (((x * Z)).im.val))) (ys := (dgQ X.re.val X.im.val)) (b := true) (by kernel_rfl) (by kernel_rfl) (by kernel_rfl) (fun w => eqQ_t h1 w) ?_
 refine kp (d := some 14) (v := .bool true) ?_
 refine k_row (by kernel_rfl) (d := (some 15)) (by kernel_rfl) (ty := 39) (x := (.tmp 5)) (by kernel_rfl) (b := w.heap.size + 1 + 1) (by kernel_rfl) (cs := (dgQ y.re.val y.im.val)) (fun _ hs => hs.at 2 rfl) Tryd.underlying39 rfl (by kernel_rfl) ?_
 refine kp (d := some 16) (v := .pointer (some ⟨w.heap.size, 32, none⟩)) ?_
 refine k_part (by kernel_rfl) (d := (some 17)) (by kernel_rfl) (ty := 39) (x := (.tmp 16)) (by kernel_rfl) (b := w.heap.size) (off := 32) (by kernel_rfl) (all := (dgL [X.re.val, X.im.val, Y.re.val, Y.im.val, Z.re.val, Z.im.val])) (cs := (dgQ Z.re.val Z.im.val)) (fun _ hs => hs.at 0 rfl) (dgsub2 (k := 4) rfl rfl) Tryd.underlying39 rfl (by kernel_rfl) ?_
 refine kp (d := some 19) (v := .pointer (some ⟨w.heap.size, 16, none⟩)) ?_
 refine k_part (by kernel_rfl) (d := (some 20)) (by kernel_rfl) (ty := 39) (x := (.tmp 19)) (by kernel_rfl) (b := w.heap.size) (off := 16) (by kernel_rfl) (all := (dgL [X.re.val, X.im.val, Y.re.val, Y.im.val, Z.re.val, Z.im.val])) (cs := (dgQ Y.re.val Y.im.val)) (fun _ hs => hs.at 0 rfl) (dgsub2 (k := 2) rfl rfl) Tryd.underlying39 rfl (by kernel_rfl) ?_
 refine kc (d := some 18) (f := 25) (args := #[.agg (dgQ y.re.val y.im.val), .agg (dgQ Z.re.val Z.im.val)]) (v := .agg (dgQ (((y * Z)).re.val) (((y * Z)).im.val))) (mulQ_q) (fun w4 hb4 => ⟨K3.go hb4, ?_⟩)
 have K4 := K3.go hb4
 have L4 := hb4.size
 refine k_eql (by kernel_rfl) (d := (some 21)) (by kernel_rfl) (ty := 39) (ty' := 39) (x := (.tmp 18)) (y := (.tmp 20)) (by kernel_rfl) (xs := (dgQ (((y * Z)).re.val) (((y * Z)).im.val))) (ys := (dgQ Y.re.val Y.im.val)) (b := true) (by kernel_rfl) (by kernel_rfl) (by kernel_rfl) (fun w => eqQ_t h2 w) ?_
 refine kp (d := some 22) (v := .bool true) ?_
 refine kp (d := some 6) (v := .bool true) ?_
 have K5 : Kept w [(w.heap.size, (dgL [X.re.val, X.im.val, Y.re.val, Y.im.val, Z.re.val, Z.im.val])), (w.heap.size + 1, (dgQ x.re.val x.im.val)), (w.heap.size + 1 + 1, (dgQ y.re.val y.im.val))] [] w4 := Kept.zero K4.nb (rowsC (K4.at 0 rfl) (rowsC (K4.at 1 rfl) (rowsC (K4.at 2 rfl) rows0)))
 refine k_end ?_
 go_simp
 go_wp2_with fail
 exact bodyPost_ret_by (by kernel_rfl) (by kernel_rfl) ⟨rfl, K5.nb⟩
end Go.Proofs.YtfkfljohhabldaaDoor
namespace Go.FourQ
open Go.RowKit
theorem fps_set_byte {l : List Nat} {k i x x' : Nat} (hk : l[k]? = some x) (hi : i < 16) (hx : ∀ j, j < 16 → j ≠ i → byteV x' j = byteV x j) : (fps l).setIfInBounds (16 * k + i) (byteV x' i) = fps (l.set k x') := by
 have hkl := (List.getElem?_eq_some_iff.1 hk).1
 refine Array.ext_getElem? fun p => ?_
 by_cases hp : p = 16 * k + i
 · subst hp
   rw [Array.getElem?_setIfInBounds_self_of_lt (by rw [size_fps]; omega), fps_get _ k x' i (List.getElem?_set_self hkl) hi]
 · rw [Array.getElem?_setIfInBounds_ne (Ne.symm hp)]
   rcases Nat.lt_or_ge p (16 * l.length) with hl | hl
   · have hq : p / 16 < l.length := by omega
     have e : p = 16 * (p / 16) + p % 16 := by omega
     have hr : p % 16 < 16 := by omega
     rw [e, fps_get l _ _ _ (List.getElem?_eq_getElem hq) hr]
     by_cases hpk : p / 16 = k
     · have hri : p % 16 ≠ i := by omega
       have hx0 : l[p / 16] = x := by
         have := List.getElem?_eq_getElem hq
         rw [show l[p / 16]? = some x by rw [hpk]; exact hk] at this
         exact (Option.some.inj this).symm
       rw [hx0, fps_get (l.set k x') _ x' _ (by rw [hpk]; exact List.getElem?_set_self hkl) hr, hx _ hr hri]
     · rw [fps_get (l.set k x') _ l[p / 16] _ (by rw [List.getElem?_set_ne (Ne.symm hpk)]; exact List.getElem?_eq_getElem hq) hr]
   · rw [Array.getElem?_eq_none (by rw [size_fps]; exact hl), Array.getElem?_eq_none (by rw [size_fps, List.length_set]; exact hl)]
/-- The first i bytes of y, the others of x. -/
def mixB (x y i : Nat) : Nat := y % 256 ^ i + 256 ^ i * (x / 256 ^ i)
theorem mix_byte (x y i j : Nat) : mixB x y i / 256 ^ j % 256 = if j < i then y / 256 ^ j % 256 else x / 256 ^ j % 256 := by
 unfold mixB
 by_cases h : j < i
 · rw [if_pos h]
   obtain ⟨d, rfl⟩ : ∃ d, i = j + (d + 1) := ⟨i - j - 1, by omega⟩
   rw [Nat.pow_add, Nat.mod_mul, Nat.mul_assoc, Nat.add_assoc, ← Nat.mul_add]
   rw [Nat.add_mul_div_left _ _ (Nat.pow_pos (by decide)), Nat.div_eq_of_lt (Nat.mod_lt _ (Nat.pow_pos (by decide))), Nat.zero_add, Nat.pow_succ', Nat.mod_mul, Nat.mul_assoc, Nat.add_assoc, ← Nat.mul_add, Nat.add_mul_mod_self_left, Nat.mod_mod]
 · rw [if_neg h]
   obtain ⟨d, rfl⟩ : ∃ d, j = i + d := ⟨j - i, by omega⟩
   rw [Nat.pow_add, ← Nat.div_div_eq_div_mul, ← Nat.div_div_eq_div_mul, Nat.add_mul_div_left _ _ (Nat.pow_pos (by decide)), Nat.div_eq_of_lt (Nat.mod_lt _ (Nat.pow_pos (by decide))), Nat.zero_add]
theorem mix_step {l : List Nat} {k x y i : Nat} (hk : k < l.length) (hi : i < 16) : (fps (l.set k (mixB x y i))).setIfInBounds (16 * k + i) (byteV y i) = fps (l.set k (mixB x y (i + 1))) := by
 have e := fps_set_byte (l := l.set k (mixB x y i)) (k := k) (i := i) (x := mixB x y i) (x' := mixB x y (i + 1)) (List.getElem?_set_self hk) hi (fun j hj hne => by
   unfold byteV
   rw [mix_byte, mix_byte]
   by_cases h : j < i
   · rw [if_pos h, if_pos (by omega)]
   · rw [if_neg h, if_neg (by omega)])
 have hb : byteV (mixB x y (i + 1)) i = byteV y i := by unfold byteV; rw [mix_byte, if_pos (Nat.lt_succ_self i)]
 rwa [hb, List.set_set] at e
theorem mix_zero (x y : Nat) : mixB x y 0 = x := by simp [mixB, Nat.mod_one]
theorem mix_full {x y : Nat} (hx : x < 256 ^ 16) (hy : y < 256 ^ 16) : mixB x y 16 = y := by
 unfold mixB
 rw [Nat.div_eq_of_lt hx, Nat.mod_eq_of_lt hy]; simp
theorem and255 : ∀ n : Nat, n < 256 → bits .and .u8 (n : Int) 255 = (n : Int) := by decide +kernel
theorem and0 : ∀ n : Nat, n < 256 → bits .and .u8 (n : Int) 0 = 0 := by decide +kernel
theorem or0l : ∀ n : Nat, n < 256 → bits .or .u8 0 (n : Int) = (n : Int) := by decide +kernel
theorem or0r : ∀ n : Nat, n < 256 → bits .or .u8 (n : Int) 0 = (n : Int) := by decide +kernel
end Go.FourQ
namespace Go.Proofs.YtfkfljohhabldaaDoor
open Go.RowKit Go.FourQ
theorem updPut {w wr : World} {b k : Nat} {l m : List Nat} {v : Value} (u : Upd w wr b l) (e : (fps l).setIfInBounds k v = fps m) : Upd w (wr.setCell ⟨b, k, none⟩ v).drew b m where
 os := u.os
 tape := u.tape
 output := u.output
 size := by have := u.size; simpa using this
 blk := setCell_fps u.blk e
 other := fun j hj hb => (heap_setCell_other wr ⟨b, k, none⟩ j v hb).trans (u.other j hj hb)
section
variable {w : World} {b1 b2 o1 o2 k1 k2 c1 c2 x y : Nat} {l1 l2 : List Nat}
set_option maxRecDepth 100000 in
set_option maxHeartbeats 2000000 in
theorem ctCopy1 (h1 : Fps w b1 l1) (h2 : Fps w b2 l2) (e1 : o1 = 16 * k1) (e2 : o2 = 16 * k2) (i1 : l1[k1]? = some x) (i2 : l2[k2]? = some y) (hx : x < 256 ^ 16) (hy : y < 256 ^ 16) (hne : b2 ≠ b1 ∨ k2 ≠ k1) :
   Calls Tryd.prog 131 #[.int .i64 1, .slice (some ⟨b1, o1, none⟩) 16 c1, .slice (some ⟨b2, o2, none⟩) 16 c2] w fun e w' => e = .returned (.tuple #[]) ∧ Upd w w' b1 (l1.set k1 y) := by
 have hk1 := (List.getElem?_eq_some_iff.1 i1).1
 have hyc : ∀ i, i < 16 → w.cell? ⟨b2, o2 + i, none⟩ = some (byteV y i) := fun i hi => h2.cell i2 e2 i hi
 have hst : ∀ i, i < 16 → (fps (l1.set k1 (mixB x y i))).setIfInBounds (o1 + i) (byteV y i) = fps (l1.set k1 (mixB x y (i + 1))) := fun i hi => by rw [e1]; exact mix_step hk1 hi
 have hxc : ∀ (i : Nat), i < 16 → (l1.set k1 (mixB x y i))[k1]? = some (mixB x y i) := fun i _ => List.getElem?_set_self hk1
 have hdis : ∀ i j, i < 16 → j < 16 → b2 ≠ b1 ∨ o2 + i ≠ o1 + j := fun i j hi hj => by rcases hne with h | h; exact .inl h; exact .inr (by omega)
 have hfull : l1.set k1 (mixB x y 16) = l1.set k1 y := by rw [mix_full hx hy]
 have hzero : l1.set k1 (mixB x y 0) = l1 := by
   rw [mix_zero]
   refine List.ext_getElem? fun i => ?_
   by_cases hi : i = k1
   · subst hi; rw [List.getElem?_set_self hk1, i1]
   · rw [List.getElem?_set_ne (Ne.symm hi)]
 have HYC := Lib.hid hyc; have HST := Lib.hid hst; have HXC := Lib.hid hxc; have HD := Lib.hid hdis; have HF := Lib.hid hfull; have HE1 := Lib.hid e1; have HZ := Lib.hid hzero
 have HLT := Lib.hid h2.lt; have HLT1 := Lib.hid h1.lt
 clear hyc hst hxc hdis hfull e1 e2 i1 i2 hx hy hne hk1 h2 hzero
 have hmask : bits .xor .i64 (-1) 0 = -1 := by rfl
 go_enter Tryd.func131, Tryd.ntmps131
 go_wp2_with fail
 go_loopw [8] (fun iv wr => ∃ i : Nat, i ≤ 16 ∧ iv = .int .i64 i ∧ Hid (Upd w wr b1 (l1.set k1 (mixB x y i))) ∧ Hid (∀ j, j < 16 → wr.cell? ⟨b2, o2 + j, none⟩ = some (byteV y j))) (fun i _ => 16 - (intOf i).toNat)
 case atStart => exact ⟨0, Nat.zero_le _, rfl, Lib.hid (Upd.same (HZ.out.symm ▸ h1) (Below.refl _ _)), Lib.hid HYC.out⟩
 case round =>
   obtain ⟨i, hi, rfl, hu, hyr⟩ := hrel
   by_cases hlt : i < 16
   · have hcx := hu.out.blk.cell (HXC.out i hlt) HE1.out i hlt
     have hcy := hyr.out i hlt
     have hfree := hu.out.blk.free (o1 + i)
     have hbx : mixB x y i / 256 ^ i % 256 < 256 := Nat.mod_lt _ (by decide)
     have hby : y / 256 ^ i % 256 < 256 := Nat.mod_lt _ (by decide)
     have hbyte : byteV y i = .int .u8 ((y / 256 ^ i % 256 : Nat) : Int) := rfl
     unfold byteV at hcx hcy
     generalize mixB x y i / 256 ^ i % 256 = u at hcx hbx
     generalize hyv : y / 256 ^ i % 256 = v at hcy hby hbyte
     have a1 := and0 u hbx
     have a2 := and255 v hby
     have a3 := or0l v hby
     have HBY := Lib.hid hbyte
     have hI : (i : Int) < 16 := by omega
     clear hyv hbyte
     go_wp2_with fail
     go_still_tail 16, (by kernel_rfl)
     change wpList _ _ _ _ _ wr.drew
     go_wp2_with fail
     refine ⟨⟨i + 1, by omega, by go_num, Lib.hid ?_, Lib.hid ?_⟩, by simp [intOf]; omega⟩
     · rw [← HBY.out]; exact updPut hu.out (HST.out i hlt)
     · intro j hj
       refine Eq.trans ?_ (hyr.out j hj)
       refine Eq.trans (b := (wr.setCell ⟨b1, o1 + i, none⟩ (.int .u8 (v : Int))).cell? ⟨b2, o2 + j, none⟩) rfl ?_
       have hne : (⟨b1, o1 + i, none⟩ : Addr) ≠ ⟨b2, o2 + j, none⟩ := by have := HD.out j i hj hlt; intro e; injection e with e1 e2; omega
       exact World.cell?_setCell_other _ _ _ _ hne
   · have hi16 : i = 16 := by omega
     have hfin : Upd w wr b1 (l1.set k1 y) := by have := hu.out; rwa [hi16, HF.out] at this
     have HFIN := Lib.hid hfin
     clear hfin hi16
     go_wp2_with fail
     go_end0
     exact ⟨rfl, HFIN.out⟩
set_option maxRecDepth 100000 in
set_option maxHeartbeats 2000000 in
theorem ctCopy0 (h1 : Fps w b1 l1) (h2 : Fps w b2 l2) (e1 : o1 = 16 * k1) (e2 : o2 = 16 * k2) (i1 : l1[k1]? = some x) (i2 : l2[k2]? = some y) (hne : b2 ≠ b1 ∨ k2 ≠ k1) :
   Calls Tryd.prog 131 #[.int .i64 0, .slice (some ⟨b1, o1, none⟩) 16 c1, .slice (some ⟨b2, o2, none⟩) 16 c2] w fun e w' => e = .returned (.tuple #[]) ∧ Upd w w' b1 l1 := by
 have hk1 := (List.getElem?_eq_some_iff.1 i1).1
 have hset : l1.set k1 x = l1 := by
   refine List.ext_getElem? fun i => ?_
   by_cases hi : i = k1
   · subst hi; rw [List.getElem?_set_self hk1, i1]
   · rw [List.getElem?_set_ne (Ne.symm hi)]
 have hyc : ∀ i, i < 16 → w.cell? ⟨b2, o2 + i, none⟩ = some (byteV y i) := fun i hi => h2.cell i2 e2 i hi
 have hst : ∀ i, i < 16 → (fps l1).setIfInBounds (o1 + i) (byteV x i) = fps l1 := fun i hi => by
   have := fps_set_byte (x' := x) i1 hi (fun _ _ _ => rfl)
   rw [e1, this, hset]
 have hxc : ∀ (i : Nat), i < 16 → l1[k1]? = some x := fun _ _ => i1
 have hdis : ∀ i j, i < 16 → j < 16 → b2 ≠ b1 ∨ o2 + i ≠ o1 + j := fun i j hi hj => by rcases hne with h | h; exact .inl h; exact .inr (by omega)
 have HYC := Lib.hid hyc; have HST := Lib.hid hst; have HXC := Lib.hid hxc; have HD := Lib.hid hdis; have HE1 := Lib.hid e1
 have HLT := Lib.hid h2.lt; have HLT1 := Lib.hid h1.lt
 clear hyc hst hxc hdis e1 e2 i1 i2 hne hk1 h2 hset
 have hmask : bits .xor .i64 (-1) (-1) = 0 := by rfl
 go_enter Tryd.func131, Tryd.ntmps131
 go_wp2_with fail
 go_loopw [8] (fun iv wr => ∃ i : Nat, i ≤ 16 ∧ iv = .int .i64 i ∧ Hid (Upd w wr b1 l1) ∧ Hid (∀ j, j < 16 → wr.cell? ⟨b2, o2 + j, none⟩ = some (byteV y j))) (fun i _ => 16 - (intOf i).toNat)
 case atStart => exact ⟨0, Nat.zero_le _, rfl, Lib.hid (Upd.same h1 (Below.refl _ _)), Lib.hid HYC.out⟩
 case round =>
   obtain ⟨i, hi, rfl, hu, hyr⟩ := hrel
   by_cases hlt : i < 16
   · have hcx := hu.out.blk.cell (HXC.out i hlt) HE1.out i hlt
     have hcy := hyr.out i hlt
     have hfree := hu.out.blk.free (o1 + i)
     have hbx : x / 256 ^ i % 256 < 256 := Nat.mod_lt _ (by decide)
     have hby : y / 256 ^ i % 256 < 256 := Nat.mod_lt _ (by decide)
     have hbyte : byteV x i = .int .u8 ((x / 256 ^ i % 256 : Nat) : Int) := rfl
     unfold byteV at hcx hcy
     generalize hxv : x / 256 ^ i % 256 = u at hcx hbx hbyte
     generalize hyv : y / 256 ^ i % 256 = v at hcy hby
     have a1 := and255 u hbx
     have a2 := and0 v hby
     have a3 := or0r u hbx
     have HBY := Lib.hid hbyte
     have hI : (i : Int) < 16 := by omega
     clear hyv hxv hbyte
     go_wp2_with fail
     go_still_tail 16, (by kernel_rfl)
     change wpList _ _ _ _ _ wr.drew
     go_wp2_with fail
     refine ⟨⟨i + 1, by omega, by go_num, Lib.hid ?_, Lib.hid ?_⟩, by simp [intOf]; omega⟩
     · rw [← HBY.out]; exact updPut hu.out (HST.out i hlt)
     · intro j hj
       refine Eq.trans ?_ (hyr.out j hj)
       refine Eq.trans (b := (wr.setCell ⟨b1, o1 + i, none⟩ (.int .u8 (u : Int))).cell? ⟨b2, o2 + j, none⟩) rfl ?_
       have hne : (⟨b1, o1 + i, none⟩ : Addr) ≠ ⟨b2, o2 + j, none⟩ := by have := HD.out j i hj hlt; intro e; injection e with e1 e2; omega
       exact World.cell?_setCell_other _ _ _ _ hne
   · have hi16 : i = 16 := by omega
     have hfin : Upd w wr b1 l1 := hu.out
     have HFIN := Lib.hid hfin
     clear hfin
     go_wp2_with fail
     go_end0
     exact ⟨rfl, HFIN.out⟩
theorem ctZ1 {L1 : List Zp} {y : Zp} (h1 : FpsZ w b1 L1) (h2 : At w b2 o2 y) (e1 : o1 = 16 * k1) (i1 : k1 < L1.length) (hne : b2 ≠ b1 ∨ o2 ≠ o1) :
   Calls Tryd.prog 106 #[.int .i64 1, .slice (some ⟨b1, o1, none⟩) 16 16, .slice (some ⟨b2, o2, none⟩) 16 16] w fun e w' => e = .returned (.tuple #[]) ∧ UpdZ w w' b1 (L1.set k1 y) := by
 obtain ⟨L2, k2, g2, e2, i2⟩ := h2
 obtain ⟨l1, f1, m1, n1⟩ := h1
 obtain ⟨l2, v, f2, m2, n2, g2, q2, r2⟩ := g2.get i2
 have i1' : k1 < l1.length := by rwa [← m1, List.length_map] at i1
 have C := Lib.hid (ctCopy1 (c1 := 16) (c2 := 16) f1 f2 e1 e2 (List.getElem?_eq_getElem i1') g2 (low16' (n1 _ (List.getElem_mem i1'))) (low16' r2) (hne.imp id (fun h e => h (by omega))))
 have D : ∀ w', Upd w w' b1 (l1.set k1 v) → UpdZ w w' b1 (L1.set k1 y) := fun w' u => UpdZ.of u m1 n1 r2 q2
 have HD := Lib.hid D
 clear D e1 e2 i1 i2 m1 n1 f1 f2 m2 n2 g2 q2 r2 hne
 go_enter Tryd.func106, Tryd.ntmps106
 go_wp2_with fail
 refine C.out.mono ?_
 rintro e w' ⟨rfl, u⟩
 have HU := Lib.hid (HD.out _ u)
 clear u
 go_wp2_with fail
 go_end0
 exact ⟨rfl, HU.out⟩
theorem ctZ0 {L1 : List Zp} {y : Zp} (h1 : FpsZ w b1 L1) (h2 : At w b2 o2 y) (e1 : o1 = 16 * k1) (i1 : k1 < L1.length) (hne : b2 ≠ b1 ∨ o2 ≠ o1) :
   Calls Tryd.prog 106 #[.int .i64 0, .slice (some ⟨b1, o1, none⟩) 16 16, .slice (some ⟨b2, o2, none⟩) 16 16] w fun e w' => e = .returned (.tuple #[]) ∧ UpdZ w w' b1 L1 := by
 obtain ⟨L2, k2, g2, e2, i2⟩ := h2
 obtain ⟨l1, f1, m1, n1⟩ := h1
 obtain ⟨l2, v, f2, m2, n2, g2, q2, r2⟩ := g2.get i2
 have i1' : k1 < l1.length := by rwa [← m1, List.length_map] at i1
 have C := Lib.hid (ctCopy0 (c1 := 16) (c2 := 16) f1 f2 e1 e2 (List.getElem?_eq_getElem i1') g2 (hne.imp id (fun h e => h (by omega))))
 have D : ∀ w', Upd w w' b1 l1 → UpdZ w w' b1 L1 := fun w' u => ⟨u.os, u.tape, u.output, u.size, ⟨l1, u.blk, m1, n1⟩, u.other⟩
 have HD := Lib.hid D
 clear D e1 e2 i1 i2 m1 n1 f1 f2 m2 n2 g2 q2 r2 hne
 go_enter Tryd.func106, Tryd.ntmps106
 go_wp2_with fail
 refine C.out.mono ?_
 rintro e w' ⟨rfl, u⟩
 have HU := Lib.hid (HD.out _ u)
 clear u
 go_wp2_with fail
 go_end0
 exact ⟨rfl, HU.out⟩
end
end Go.Proofs.YtfkfljohhabldaaDoor
namespace Go.FourQ
open Go.RowKit in
/-- A block whose elements stay. -/
theorem At.keepSame {w w' : World} {b b1 o : Nat} {x : Zp} {L1 : List Zp} (h : At w b o x) (f : FpsZ w b1 L1) (u : UpdZ w w' b1 L1) : At w' b o x := by
 by_cases hb : b = b1
 · subst hb
   obtain ⟨L, k, g, e, hk⟩ := h
   exact ⟨L1, k, u.blk, e, g.uniq f hk⟩
 · exact h.upd u hb
theorem len_sets {L : List Zp} {k : Nat} (h : k + 1 < L.length) : k < L.length := Nat.lt_of_succ_lt h
end Go.FourQ
namespace Go.Proofs.YtfkfljohhabldaaDoor
open Go.RowKit Go.FourQ
/-- The sign of a pair. -/
def sgnQ (x0 x1 : Zp) : Int := if x0.val = 0 then sgnN x1.val else sgnN x0.val
section
variable {w : World} {b1 b2 o1 o2 k1 : Nat} {L1 : List Zp} {x0 x1 : Zp}
set_option maxRecDepth 100000 in
set_option maxHeartbeats 1000000 in
theorem fqCmov1 (h1 : FpsZ w b1 L1) (hA : AtQ w b2 o2 x0 x1) (e1 : o1 = 16 * k1) (i1 : k1 + 1 < L1.length) (d0 : b2 ≠ b1 ∨ o2 ≠ o1) (d1 : b2 ≠ b1 ∨ o2 + 16 ≠ o1) (d2 : b2 ≠ b1 ∨ o2 + 16 ≠ o1 + 16) :
   Calls Tryd.prog 110 #[.pointer (some ⟨b1, o1, none⟩), .pointer (some ⟨b2, o2, none⟩), .int .i64 1] w fun e w' => e = .returned (.tuple #[]) ∧ UpdZ w w' b1 ((L1.set k1 x0).set (k1 + 1) x1) := by
 have E1 := Lib.hid e1
 clear e1
 go_enter Tryd.func110, Tryd.ntmps110
 go_upto_region 0 with (fail)
 refine wrA (opsAt Tryd.f110 0) ((true, 0) :: (true, 1) :: (true, 2) :: (true, 3) :: (true, 4) :: (true, 5) :: (true, 6) :: (true, 7) :: (true, 8) :: (false, 9) :: []) (fun _ => True) trivial ?_
 refine kp (d := some 6) (v := .int .i64 1) ?_
 refine kp (d := some 7) (v := .pointer (some ⟨b1, o1, none⟩)) ?_
 refine kp (d := some 8) (v := .pointer (some ⟨b1, o1, none⟩)) ?_
 refine kp (d := some 9) (v := .pointer (some ⟨b1, o1, none⟩)) ?_
 refine kp (d := some 10) (v := .slice (some ⟨b1, o1, none⟩) 16 16) ?_
 refine kp (d := some 11) (v := .pointer (some ⟨b2, o2, none⟩)) ?_
 refine kp (d := some 12) (v := .pointer (some ⟨b2, o2, none⟩)) ?_
 refine kp (d := some 13) (v := .pointer (some ⟨b2, o2, none⟩)) ?_
 refine kp (d := some 14) (v := .slice (some ⟨b2, o2, none⟩) 16 16) ?_
 refine kd (d := some 15) (f := 106) (args := #[.int .i64 1, .slice (some ⟨b1, o1, none⟩) 16 16, .slice (some ⟨b2, o2, none⟩) 16 16]) (ctZ1 h1.drew hA.fst.drew E1.out (len_sets i1) d0) (fun _ w1 q1 => ⟨.tuple #[], q1.1, trivial, ?_⟩)
 have u1 := q1.2.ofDrew
 clear q1
 refine k_end ?_
 go_simp
 go_upto_region 1 with (fail)
 refine wrA (opsAt Tryd.f110 1) ((true, 0) :: (true, 1) :: (true, 2) :: (true, 3) :: (true, 4) :: (true, 5) :: (true, 6) :: (true, 7) :: (true, 8) :: (false, 9) :: []) (fun _ => True) trivial ?_
 refine kp (d := some 16) (v := .int .i64 1) ?_
 refine kp (d := some 17) (v := .pointer (some ⟨b1, o1, none⟩)) ?_
 refine kp (d := some 18) (v := .pointer (some ⟨b1, o1, none⟩)) ?_
 refine kp (d := some 19) (v := .pointer (some ⟨b1, o1 + 16, none⟩)) ?_
 refine kp (d := some 20) (v := .slice (some ⟨b1, o1 + 16, none⟩) 16 16) ?_
 refine kp (d := some 21) (v := .pointer (some ⟨b2, o2, none⟩)) ?_
 refine kp (d := some 22) (v := .pointer (some ⟨b2, o2, none⟩)) ?_
 refine kp (d := some 23) (v := .pointer (some ⟨b2, o2 + 16, none⟩)) ?_
 refine kp (d := some 24) (v := .slice (some ⟨b2, o2 + 16, none⟩) 16 16) ?_
 refine kd (d := some 25) (f := 106) (args := #[.int .i64 1, .slice (some ⟨b1, o1 + 16, none⟩) 16 16, .slice (some ⟨b2, o2 + 16, none⟩) 16 16]) (ctZ1 u1.blk.drew (hA.snd.set h1 E1.out u1 d1).drew (e16 E1.out) (len_set i1) d2) (fun _ w2 q2 => ⟨.tuple #[], q2.1, trivial, ?_⟩)
 have u2 := q2.2.ofDrew
 clear q2
 refine k_end ?_
 go_simp
 go_wp2_with fail
 go_end0
 exact ⟨rfl, u1.trans u2⟩
set_option maxRecDepth 100000 in
set_option maxHeartbeats 1000000 in
theorem fqCmov0 (h1 : FpsZ w b1 L1) (hA : AtQ w b2 o2 x0 x1) (e1 : o1 = 16 * k1) (i1 : k1 + 1 < L1.length) (d0 : b2 ≠ b1 ∨ o2 ≠ o1) (d2 : b2 ≠ b1 ∨ o2 + 16 ≠ o1 + 16) :
   Calls Tryd.prog 110 #[.pointer (some ⟨b1, o1, none⟩), .pointer (some ⟨b2, o2, none⟩), .int .i64 0] w fun e w' => e = .returned (.tuple #[]) ∧ UpdZ w w' b1 L1 := by
 have E1 := Lib.hid e1
 clear e1
 go_enter Tryd.func110, Tryd.ntmps110
 go_upto_region 0 with (fail)
 refine wrA (opsAt Tryd.f110 0) ((true, 0) :: (true, 1) :: (true, 2) :: (true, 3) :: (true, 4) :: (true, 5) :: (true, 6) :: (true, 7) :: (true, 8) :: (false, 9) :: []) (fun _ => True) trivial ?_
 refine kp (d := some 6) (v := .int .i64 0) ?_
 refine kp (d := some 7) (v := .pointer (some ⟨b1, o1, none⟩)) ?_
 refine kp (d := some 8) (v := .pointer (some ⟨b1, o1, none⟩)) ?_
 refine kp (d := some 9) (v := .pointer (some ⟨b1, o1, none⟩)) ?_
 refine kp (d := some 10) (v := .slice (some ⟨b1, o1, none⟩) 16 16) ?_
 refine kp (d := some 11) (v := .pointer (some ⟨b2, o2, none⟩)) ?_
 refine kp (d := some 12) (v := .pointer (some ⟨b2, o2, none⟩)) ?_
 refine kp (d := some 13) (v := .pointer (some ⟨b2, o2, none⟩)) ?_
 refine kp (d := some 14) (v := .slice (some ⟨b2, o2, none⟩) 16 16) ?_
 refine kd (d := some 15) (f := 106) (args := #[.int .i64 0, .slice (some ⟨b1, o1, none⟩) 16 16, .slice (some ⟨b2, o2, none⟩) 16 16]) (ctZ0 h1.drew hA.fst.drew E1.out (len_sets i1) d0) (fun _ w1 q1 => ⟨.tuple #[], q1.1, trivial, ?_⟩)
 have u1 := q1.2.ofDrew
 clear q1
 refine k_end ?_
 go_simp
 go_upto_region 1 with (fail)
 refine wrA (opsAt Tryd.f110 1) ((true, 0) :: (true, 1) :: (true, 2) :: (true, 3) :: (true, 4) :: (true, 5) :: (true, 6) :: (true, 7) :: (true, 8) :: (false, 9) :: []) (fun _ => True) trivial ?_
 refine kp (d := some 16) (v := .int .i64 0) ?_
 refine kp (d := some 17) (v := .pointer (some ⟨b1, o1, none⟩)) ?_
 refine kp (d := some 18) (v := .pointer (some ⟨b1, o1, none⟩)) ?_
 refine kp (d := some 19) (v := .pointer (some ⟨b1, o1 + 16, none⟩)) ?_
 refine kp (d := some 20) (v := .slice (some ⟨b1, o1 + 16, none⟩) 16 16) ?_
 refine kp (d := some 21) (v := .pointer (some ⟨b2, o2, none⟩)) ?_
 refine kp (d := some 22) (v := .pointer (some ⟨b2, o2, none⟩)) ?_
 refine kp (d := some 23) (v := .pointer (some ⟨b2, o2 + 16, none⟩)) ?_
 refine kp (d := some 24) (v := .slice (some ⟨b2, o2 + 16, none⟩) 16 16) ?_
 refine kd (d := some 25) (f := 106) (args := #[.int .i64 0, .slice (some ⟨b1, o1 + 16, none⟩) 16 16, .slice (some ⟨b2, o2 + 16, none⟩) 16 16]) (ctZ0 u1.blk.drew (hA.snd.keepSame h1 u1).drew (e16 E1.out) i1 d2) (fun _ w2 q2 => ⟨.tuple #[], q2.1, trivial, ?_⟩)
 have u2 := q2.2.ofDrew
 clear q2
 refine k_end ?_
 go_simp
 go_wp2_with fail
 go_end0
 exact ⟨rfl, u1.trans u2⟩
theorem sgn_zero {z : Nat} : sgnN z = 0 ↔ z = 0 := by
 unfold sgnN
 by_cases h : z = 0
 · rw [if_pos h]; exact ⟨fun _ => h, fun _ => rfl⟩
 · rw [if_neg h]; constructor
   · intro e; omega
   · intro e; exact absurd e h
set_option maxRecDepth 100000 in
set_option maxHeartbeats 1000000 in
theorem fqSgn (hm : ModW w) (hg : 4 < b1) (h1 : FpsZ w b1 L1) (e1 : o1 = 16 * k1) (i0 : L1[k1]? = some x0) (i1 : L1[k1 + 1]? = some x1) :
   Calls Tryd.prog 86 #[.pointer (some ⟨b1, o1, none⟩)] w fun e w' => e = .returned (.int .i64 (sgnQ x0 x1)) ∧ UpdZ w w' b1 L1 := by
 have C1 := Lib.hid (zSgn hm h1 e1 i0)
 have C2 : ∀ w', UpdZ w w' b1 L1 → _ := fun w' u => zSgn (hm.updZ hg u) u.blk (e16 e1) i1
 have HC2 := Lib.hid C2
 clear hm hg h1 e1 i0 i1 C2
 have hq : sgnQ x0 x1 = if sgnN x0.val = 0 then sgnN x1.val else sgnN x0.val := by
   unfold sgnQ
   by_cases h : x0.val = 0
   · rw [if_pos h, if_pos (sgn_zero.2 h)]
   · rw [if_neg h, if_neg (fun e => h (sgn_zero.1 e))]
 rw [hq]
 clear hq
 have g0 := sgnN_sg x0.val
 have g1 := sgnN_sg x1.val
 generalize sgnN x0.val = s at *
 generalize sgnN x1.val = t at *
 have G1 := Lib.hid g1
 clear g1
 rcases g0 with rfl | rfl | rfl
 · have hA : bits .and .i64 0 1 = 0 := by rfl
   have hA1 : bits .and .i64 1 1 = 1 := by rfl
   have hA2 : bits .and .i64 (-1) 1 = 1 := by rfl
   go_enter Tryd.func86, Tryd.ntmps86
   go_wp2_with fail
   refine C1.out.mono ?_
   rintro e w1 ⟨rfl, u1⟩
   have U1 := Lib.hid u1
   clear u1
   go_wp2_with fail
   refine (HC2.out _ U1.out).mono ?_
   rintro e w2 ⟨rfl, u2⟩
   have U2 := Lib.hid (U1.out.trans u2)
   clear u2
   go_wp2_with fail
   refine (ctSelect (v := 1) (x := 1) (.inl rfl) (.inl rfl) G1.out _).mono ?_
   rintro e w3 ⟨rfl, rfl⟩
   go_wp2_with fail
   go_ret
   exact ⟨by simp, U2.out⟩
 · have hA : bits .and .i64 0 1 = 0 := by rfl
   have hA1 : bits .and .i64 1 1 = 1 := by rfl
   have hA2 : bits .and .i64 (-1) 1 = 1 := by rfl
   go_enter Tryd.func86, Tryd.ntmps86
   go_wp2_with fail
   refine C1.out.mono ?_
   rintro e w1 ⟨rfl, u1⟩
   have U1 := Lib.hid u1
   clear u1
   go_wp2_with fail
   refine (HC2.out _ U1.out).mono ?_
   rintro e w2 ⟨rfl, u2⟩
   have U2 := Lib.hid (U1.out.trans u2)
   clear u2
   go_wp2_with fail
   refine (ctSelect (v := 0) (x := 0) (.inr rfl) (.inr (.inl rfl)) G1.out _).mono ?_
   rintro e w3 ⟨rfl, rfl⟩
   go_wp2_with fail
   go_ret
   exact ⟨by simp, U2.out⟩
 · have hA : bits .and .i64 0 1 = 0 := by rfl
   have hA1 : bits .and .i64 1 1 = 1 := by rfl
   have hA2 : bits .and .i64 (-1) 1 = 1 := by rfl
   go_enter Tryd.func86, Tryd.ntmps86
   go_wp2_with fail
   refine C1.out.mono ?_
   rintro e w1 ⟨rfl, u1⟩
   have U1 := Lib.hid u1
   clear u1
   go_wp2_with fail
   refine (HC2.out _ U1.out).mono ?_
   rintro e w2 ⟨rfl, u2⟩
   have U2 := Lib.hid (U1.out.trans u2)
   clear u2
   go_wp2_with fail
   refine (ctSelect (v := 1) (x := -1) (.inl rfl) (.inr (.inr rfl)) G1.out _).mono ?_
   rintro e w3 ⟨rfl, rfl⟩
   go_wp2_with fail
   go_ret
   exact ⟨by simp, U2.out⟩
end
end Go.Proofs.YtfkfljohhabldaaDoor
namespace Go.FourQ
open Go.RowKit
/-- wr is w, but that these blocks hold these elements; there may be new blocks. -/
structure Sto (w : World) (s : List (Nat × List Zp)) (wr : World) : Prop where
 os : wr.os = w.os
 tape : wr.tape = w.tape
 output : wr.output = w.output
 size : w.heap.size ≤ wr.heap.size
 blk : ∀ (i b : Nat) (L : List Zp), s[i]? = some (b, L) → FpsZ wr b L
 ne : ∀ (i j b c : Nat) (L M : List Zp), s[i]? = some (b, L) → s[j]? = some (c, M) → i ≠ j → b ≠ c
 other : ∀ k, k < w.heap.size → (∀ p ∈ s, p.1 ≠ k) → wr.heap[k]? = w.heap[k]?
variable {w wr w' : World} {s : List (Nat × List Zp)} {i b : Nat} {L M : List Zp}
theorem Sto.one (h : FpsZ w b L) : Sto w [(b, L)] w where
 os := rfl
 tape := rfl
 output := rfl
 size := Nat.le_refl _
 blk := fun i c M hi => by
   rcases i with _ | i
   · obtain ⟨rfl, rfl⟩ : b = c ∧ L = M := by simpa using hi
     exact h
   · simp at hi
 ne := fun i j c d M N hi hj hij => by
   rcases i with _ | i
   · rcases j with _ | j
     · exact absurd rfl hij
     · simp at hj
   · simp at hi
 other := fun _ _ _ => rfl
theorem Sto.zero (w : World) : Sto w [] w where
 os := rfl
 tape := rfl
 output := rfl
 size := Nat.le_refl _
 blk := fun i c M hi => by simp at hi
 ne := fun i j c d M N hi => by simp at hi
 other := fun _ _ _ => rfl
theorem Sto.at (h : Sto w s wr) (i k : Nat) {o : Nat} {x : Zp} (hi : s[i]? = some (b, L)) (hk : L[k]? = some x) (ho : o = 16 * k) : At wr b o x := (h.blk i b L hi).atK ho hk
/-- A block is written. -/
theorem Sto.upd (h : Sto w s wr) (hi : s[i]? = some (b, L)) (u : UpdZ wr w' b M) : Sto w (s.set i (b, M)) w' where
 os := u.os.trans h.os
 tape := u.tape.trans h.tape
 output := u.output.trans h.output
 size := Nat.le_trans h.size u.size
 blk := fun j c N hj => by
   have hl := (List.getElem?_eq_some_iff.1 hi).1
   by_cases hji : j = i
   · subst hji
     rw [List.getElem?_set_self hl] at hj
     obtain ⟨rfl, rfl⟩ : b = c ∧ M = N := by simpa using hj
     exact u.blk
   · rw [List.getElem?_set_ne (Ne.symm hji)] at hj
     exact u.keep (h.blk j c N hj) (h.ne j i c b N L hj hi hji)
 ne := fun j k c d N O hj hk hjk => by
   have key : ∀ (m e : Nat) (Q : List Zp), (s.set i (b, M))[m]? = some (e, Q) → ∃ Q', s[m]? = some (e, Q') := fun m e Q hm => by
     have hl := (List.getElem?_eq_some_iff.1 hi).1
     by_cases hmi : m = i
     · subst hmi
       rw [List.getElem?_set_self hl] at hm
       obtain ⟨rfl, rfl⟩ : b = e ∧ M = Q := by simpa using hm
       exact ⟨L, hi⟩
     · rw [List.getElem?_set_ne (Ne.symm hmi)] at hm
       exact ⟨Q, hm⟩
   obtain ⟨N', hj'⟩ := key j c N hj
   obtain ⟨O', hk'⟩ := key k d O hk
   exact h.ne j k c d N' O' hj' hk' hjk
 other := fun k hk hp => by
   have hl := (List.getElem?_eq_some_iff.1 hi).1
   have hkb : k ≠ b := fun e => hp (b, M) (List.mem_of_getElem? (List.getElem?_set_self hl)) e.symm
   refine (u.other k (Nat.lt_of_lt_of_le hk h.size) hkb).trans (h.other k hk fun p hm => ?_)
   obtain ⟨m, hm'⟩ := List.getElem?_of_mem hm
   by_cases hmi : m = i
   · subst hmi
     obtain rfl : (b, L) = p := Option.some.inj (hi.symm.trans hm')
     exact Ne.symm hkb
   · exact hp p (List.mem_of_getElem? (by rw [List.getElem?_set_ne (Ne.symm hmi)]; exact hm'))
/-- New memory of others. -/
theorem Sto.go (h : Sto w s wr) (v : Below wr.heap.size wr w') : Sto w s w' where
 os := v.os.trans h.os
 tape := v.tape.trans h.tape
 output := v.output.trans h.output
 size := Nat.le_trans h.size v.size
 blk := fun j c N hj => (h.blk j c N hj).nb v
 ne := h.ne
 other := fun k hk hp => (v.block k (Nat.lt_of_lt_of_le hk h.size)).trans (h.other k hk hp)
theorem Sto.drew (h : Sto w s wr) : Sto w s wr.drew := h.go (Below.refl _ _).drew
/-- A new block. -/
theorem Sto.new (h : Sto w s wr) {c : Array Value} {T : TypeId} {l : List Nat} (hb : b = wr.heap.size) (hc : c = fps l) (hl : ∀ v ∈ l, LowB v) (hL : l.map zp = L) : Sto w (s ++ [(b, L)]) (wr.alloc (.cells c T)) where
 os := h.os
 tape := h.tape
 output := h.output
 size := Nat.le_trans h.size (by simp)
 blk := fun j d N hj => by
   rcases Nat.lt_or_ge j s.length with hl' | hl'
   · rw [List.getElem?_append_left hl'] at hj
     exact (h.blk j d N hj).alloc _
   · rw [List.getElem?_append_right hl'] at hj
     obtain ⟨h0, rfl, rfl⟩ : j - s.length = 0 ∧ b = d ∧ L = N := by
       rcases Nat.eq_zero_or_pos (j - s.length) with h0 | h0
       · rw [h0] at hj; exact ⟨h0, by simpa using hj⟩
       · rw [List.getElem?_eq_none (by simp only [List.length_cons, List.length_nil]; omega)] at hj; cases hj
     rw [← hL]
     exact FpsZ.ofFps (Fps.new wr l c T b hb hc) hl
 ne := fun j k d e N O hj hk hjk => by
   have old : ∀ (m f : Nat) (Q : List Zp), m < s.length → (s ++ [(b, L)])[m]? = some (f, Q) → s[m]? = some (f, Q) ∧ f < wr.heap.size := fun m f Q hm hq => by
     rw [List.getElem?_append_left hm] at hq
     exact ⟨hq, (h.blk m f Q hq).lt⟩
   have new : ∀ (m f : Nat) (Q : List Zp), ¬ m < s.length → (s ++ [(b, L)])[m]? = some (f, Q) → m = s.length ∧ f = wr.heap.size := fun m f Q hm hq => by
     rw [List.getElem?_append_right (by omega)] at hq
     rcases Nat.eq_zero_or_pos (m - s.length) with h0 | h0
     · rw [h0] at hq
       obtain ⟨rfl, rfl⟩ : b = f ∧ L = Q := by simpa using hq
       exact ⟨by omega, hb⟩
     · rw [List.getElem?_eq_none (by simp only [List.length_cons, List.length_nil]; omega)] at hq; cases hq
   by_cases hj' : j < s.length
   · obtain ⟨qj, lj⟩ := old j d N hj' hj
     by_cases hk' : k < s.length
     · exact h.ne j k d e N O qj (old k e O hk' hk).1 hjk
     · have := (new k e O hk' hk).2; omega
   · have nj := new j d N hj' hj
     by_cases hk' : k < s.length
     · have := (old k e O hk' hk).2; omega
     · have := (new k e O hk' hk).1; omega
 other := fun k hk hp => (Below.heap_alloc _ _ _ (Nat.lt_of_lt_of_le hk h.size)).trans (h.other k hk fun p hm => hp p (List.mem_append_left _ hm))
/-- A place that nobody writes. -/
theorem At.sto {c o : Nat} {x : Zp} (h : At w c o x) (g : Sto w s wr) (hc : ∀ p ∈ s, p.1 ≠ c) : At wr c o x := by
 obtain ⟨N, k, f, r⟩ := h
 exact ⟨N, k, f.of_heap (g.other c f.lt hc), r⟩
/-- The first block alone is of before. -/
theorem Sto.end1 {t : List (Nat × List Zp)} (h : Sto w ((b, L) :: t) wr) (ht : ∀ p ∈ t, w.heap.size ≤ p.1) : UpdZ w wr b L :=
 ⟨h.os, h.tape, h.output, h.size, h.blk 0 b L rfl, fun k hk hb => h.other k hk fun p hp => by
   rcases List.mem_cons.1 hp with rfl | hp
   · exact Ne.symm hb
   · have := ht p hp; omega⟩
end Go.FourQ
namespace Go.Proofs.YtfkfljohhabldaaDoor
open Go.RowKit Go.FourQ
section
variable {w wr : World} {s : List (Nat × List Zp)} {i b1 b2 b3 o1 o2 o3 k1 : Nat} {L1 : List Zp} {x y z : Zp}
theorem stMul (h : Sto w s wr) (hi : s[i]? = some (b1, L1)) (e1 : o1 = 16 * k1) (i1 : k1 < L1.length) (h2 : At wr b2 o2 x) (h3 : At wr b3 o3 y) (hz : x * y = z) :
   Calls Tryd.prog 102 #[.pointer (some ⟨b1, o1, none⟩), .pointer (some ⟨b2, o2, none⟩), .pointer (some ⟨b3, o3, none⟩)] wr fun e w' => e = .returned (.tuple #[]) ∧ Sto w (s.set i (b1, L1.set k1 z)) w' :=
 (atMul (h.blk i b1 L1 hi) h2 h3 e1 i1 hz).mono fun _ _ q => ⟨q.1, h.upd hi q.2⟩
theorem stAdd (h : Sto w s wr) (hi : s[i]? = some (b1, L1)) (e1 : o1 = 16 * k1) (i1 : k1 < L1.length) (h2 : At wr b2 o2 x) (h3 : At wr b3 o3 y) (hz : x + y = z) :
   Calls Tryd.prog 103 #[.pointer (some ⟨b1, o1, none⟩), .pointer (some ⟨b2, o2, none⟩), .pointer (some ⟨b3, o3, none⟩)] wr fun e w' => e = .returned (.tuple #[]) ∧ Sto w (s.set i (b1, L1.set k1 z)) w' :=
 (atAdd (h.blk i b1 L1 hi) h2 h3 e1 i1 hz).mono fun _ _ q => ⟨q.1, h.upd hi q.2⟩
theorem stSub (h : Sto w s wr) (hi : s[i]? = some (b1, L1)) (e1 : o1 = 16 * k1) (i1 : k1 < L1.length) (h2 : At wr b2 o2 x) (h3 : At wr b3 o3 y) (hz : x - y = z) :
   Calls Tryd.prog 105 #[.pointer (some ⟨b1, o1, none⟩), .pointer (some ⟨b2, o2, none⟩), .pointer (some ⟨b3, o3, none⟩)] wr fun e w' => e = .returned (.tuple #[]) ∧ Sto w (s.set i (b1, L1.set k1 z)) w' :=
 (atSub (h.blk i b1 L1 hi) h2 h3 e1 i1 hz).mono fun _ _ q => ⟨q.1, h.upd hi q.2⟩
theorem stSqr (h : Sto w s wr) (hi : s[i]? = some (b1, L1)) (e1 : o1 = 16 * k1) (i1 : k1 < L1.length) (h2 : At wr b2 o2 x) (hz : x * x = z) :
   Calls Tryd.prog 104 #[.pointer (some ⟨b1, o1, none⟩), .pointer (some ⟨b2, o2, none⟩)] wr fun e w' => e = .returned (.tuple #[]) ∧ Sto w (s.set i (b1, L1.set k1 z)) w' :=
 (atSqr (h.blk i b1 L1 hi) h2 e1 i1 hz).mono fun _ _ q => ⟨q.1, h.upd hi q.2⟩
theorem stHlf (h : Sto w s wr) (hi : s[i]? = some (b1, L1)) (e1 : o1 = 16 * k1) (i1 : k1 < L1.length) (h2 : At wr b2 o2 x) (hz : x * half = z) :
   Calls Tryd.prog 109 #[.pointer (some ⟨b1, o1, none⟩), .pointer (some ⟨b2, o2, none⟩)] wr fun e w' => e = .returned (.tuple #[]) ∧ Sto w (s.set i (b1, L1.set k1 z)) w' := by
 obtain ⟨L2, k2, f2, e2, g2⟩ := h2
 exact (zHlf (h.blk i b1 L1 hi) f2 e1 e2 i1 g2 hz).mono fun _ _ q => ⟨q.1, h.upd hi q.2⟩
theorem stTwo (h : Sto w s wr) (hi : s[i]? = some (b1, L1)) (e1 : o1 = 16 * k1) (i1 : k1 < L1.length) (h2 : At wr b2 o2 x) (hz : x.pow 42535295865117307932921825928971026431 = z) :
   Calls Tryd.prog 108 #[.pointer (some ⟨b1, o1, none⟩), .pointer (some ⟨b2, o2, none⟩)] wr fun e w' => e = .returned (.tuple #[]) ∧ Sto w (s.set i (b1, L1.set k1 z)) w' :=
 (zTwo (h.blk i b1 L1 hi) h2 e1 i1).mono fun _ _ q => ⟨q.1, hz ▸ h.upd hi q.2⟩
theorem stZeroCT (hm : ModW wr) (h : Sto w s wr) (hi : s[i]? = some (b1, L1)) (e1 : o1 = 16 * k1) (i1 : L1[k1]? = some x) :
   Calls Tryd.prog 107 #[.pointer (some ⟨b1, o1, none⟩)] wr fun e w' => e = .returned (.int .i64 (isz x.val)) ∧ Sto w (s.set i (b1, L1)) w' :=
 (zIsZeroCT hm (h.blk i b1 L1 hi) e1 i1).mono fun _ _ q => ⟨q.1, h.upd hi q.2⟩
end
end Go.Proofs.YtfkfljohhabldaaDoor
namespace Go.FourQ
open Go.RowKit
/-- A list with two neighbours laid anew. -/
def cl (L : List Zp) (k : Nat) (p q : Zp) : List Zp := (L.set k p).set (k + 1) q
theorem cl_len (L : List Zp) (k : Nat) (p q : Zp) : (cl L k p q).length = L.length := by simp [cl]
theorem cl_self {L : List Zp} {k : Nat} {p q : Zp} (hp : L[k]? = some p) (hq : L[k + 1]? = some q) : cl L k p q = L := by
 unfold cl; rw [set_self hp, set_self hq]
theorem cl_fst {L : List Zp} {k : Nat} (p q p' : Zp) : (cl L k p q).set k p' = cl L k p' q := by
 unfold cl; rw [List.set_comm _ _ (by omega), List.set_set]
theorem cl_snd {L : List Zp} {k : Nat} (p q q' : Zp) : (cl L k p q).set (k + 1) q' = cl L k p q' := by
 unfold cl; rw [List.set_set]
theorem cl_get0 {L : List Zp} {k : Nat} (h : k + 1 < L.length) (p q : Zp) : (cl L k p q)[k]? = some p := by
 unfold cl; rw [List.getElem?_set_ne (by omega), List.getElem?_set_self (by omega)]
theorem cl_get1 {L : List Zp} {k : Nat} (h : k + 1 < L.length) (p q : Zp) : (cl L k p q)[k + 1]? = some q := by
 unfold cl; rw [List.getElem?_set_self (by rw [List.length_set]; exact h)]
theorem cl_lt0 {L : List Zp} {k : Nat} (h : k + 1 < L.length) (p q : Zp) : k < (cl L k p q).length := by rw [cl_len]; omega
theorem cl_lt1 {L : List Zp} {k : Nat} (h : k + 1 < L.length) (p q : Zp) : k + 1 < (cl L k p q).length := by rw [cl_len]; exact h
theorem FpsZ.two2 {w : World} {b k : Nat} {L : List Zp} {x y : Zp} (h : FpsZ w b L) (i0 : L[k]? = some x) (i1 : L[k + 1]? = some y) :
   ∃ l u v, Fps w b l ∧ l[k]? = some u ∧ l[k + 1]? = some v ∧ zp u = x ∧ zp v = y ∧ LowB u ∧ LowB v := by
 obtain ⟨l, hF, e, hl⟩ := h
 subst e
 rw [List.getElem?_map] at i0 i1
 obtain ⟨u, hu, rfl⟩ := Option.map_eq_some_iff.1 i0
 obtain ⟨v, hv, rfl⟩ := Option.map_eq_some_iff.1 i1
 exact ⟨l, u, v, hF, hu, hv, rfl, rfl, hl u (List.mem_of_getElem? hu), hl v (List.mem_of_getElem? hv)⟩
end Go.FourQ
namespace Go.Proofs.YtfkfljohhabldaaDoor
open Go.RowKit Go.FourQ
theorem ModW.sto {w wr : World} {s : List (Nat × List Zp)} (h : ModW w) (g : Sto w s wr) (hk : ∀ p ∈ s, p.1 ≠ 4) : ModW wr := h.of_heap (g.other _ h.lt hk)
section
variable {w wr : World} {s : List (Nat × List Zp)} {i b1 b2 o1 o2 k1 : Nat} {L1 : List Zp} {x y x0 x1 y0 y1 : Zp} {v : Int}
theorem stSel (hv : v = 0 ∨ v = 1) (h : Sto w s wr) (hi : s[i]? = some (b1, L1)) (e1 : o1 = 16 * k1) (i1 : L1[k1]? = some x) (h2 : At wr b2 o2 y) (hne : b2 ≠ b1 ∨ o2 ≠ o1) :
   Calls Tryd.prog 106 #[.int .i64 v, .slice (some ⟨b1, o1, none⟩) 16 16, .slice (some ⟨b2, o2, none⟩) 16 16] wr fun e w' => e = .returned (.tuple #[]) ∧ Sto w (s.set i (b1, L1.set k1 (if v = 1 then y else x))) w' := by
 have hk := (List.getElem?_eq_some_iff.1 i1).1
 rcases hv with rfl | rfl
 · rw [if_neg (by decide), set_self i1]
   exact (ctZ0 (h.blk i b1 L1 hi) h2 e1 hk hne).mono fun _ _ q => ⟨q.1, h.upd hi q.2⟩
 · rw [if_pos rfl]
   exact (ctZ1 (h.blk i b1 L1 hi) h2 e1 hk hne).mono fun _ _ q => ⟨q.1, h.upd hi q.2⟩
theorem stCmov (hv : v = 0 ∨ v = 1) (h : Sto w s wr) (hi : s[i]? = some (b1, L1)) (e1 : o1 = 16 * k1) (i0 : L1[k1]? = some x0) (i1 : L1[k1 + 1]? = some x1) (hA : AtQ wr b2 o2 y0 y1)
   (d0 : b2 ≠ b1 ∨ o2 ≠ o1) (d1 : b2 ≠ b1 ∨ o2 + 16 ≠ o1) (d2 : b2 ≠ b1 ∨ o2 + 16 ≠ o1 + 16) :
   Calls Tryd.prog 110 #[.pointer (some ⟨b1, o1, none⟩), .pointer (some ⟨b2, o2, none⟩), .int .i64 v] wr fun e w' => e = .returned (.tuple #[]) ∧ Sto w (s.set i (b1, (L1.set k1 (if v = 1 then y0 else x0)).set (k1 + 1) (if v = 1 then y1 else x1))) w' := by
 have hk := (List.getElem?_eq_some_iff.1 i1).1
 rcases hv with rfl | rfl
 · rw [if_neg (by decide), if_neg (by decide), set_self i0, set_self i1]
   exact (fqCmov0 (h.blk i b1 L1 hi) hA e1 hk d0 d2).mono fun _ _ q => ⟨q.1, h.upd hi q.2⟩
 · rw [if_pos rfl, if_pos rfl]
   exact (fqCmov1 (h.blk i b1 L1 hi) hA e1 hk d0 d1 d2).mono fun _ _ q => ⟨q.1, h.upd hi q.2⟩
theorem isz01 (z : Nat) : isz z = 0 ∨ isz z = 1 := by
 unfold isz
 by_cases h : z = 0
 · rw [if_pos h]; exact .inr rfl
 · rw [if_neg h]; exact .inl rfl
theorem stSgnQ (hm : ModW wr) (hg : 4 < b1) (h : Sto w s wr) (hi : s[i]? = some (b1, L1)) (e1 : o1 = 16 * k1) (i0 : L1[k1]? = some x0) (i1 : L1[k1 + 1]? = some x1) :
   Calls Tryd.prog 86 #[.pointer (some ⟨b1, o1, none⟩)] wr fun e w' => e = .returned (.int .i64 (sgnQ x0 x1)) ∧ Sto w (s.set i (b1, L1)) w' :=
 (fqSgn hm hg (h.blk i b1 L1 hi) e1 i0 i1).mono fun _ _ q => ⟨q.1, h.upd hi q.2⟩
theorem stNegQ (hm : ModW wr) (hg : 4 < b1) (h : Sto w s wr) (hi : s[i]? = some (b1, L1)) (e1 : o1 = 16 * k1) (i1 : k1 + 1 < L1.length) (hA : AtQ wr b2 o2 x0 x1) (dA : b2 ≠ b1 ∨ o2 + 16 ≠ o1) :
   Calls Tryd.prog 112 #[.pointer (some ⟨b1, o1, none⟩), .pointer (some ⟨b2, o2, none⟩)] wr fun e w' => e = .returned (.tuple #[]) ∧ Sto w (s.set i (b1, (L1.set k1 (-x0)).set (k1 + 1) (-x1))) w' :=
 (fqNeg hm hg (h.blk i b1 L1 hi) hA e1 i1 dA rfl rfl).mono fun _ _ q => ⟨q.1, h.upd hi q.2⟩
/-- 1 of what is not 0. -/
def nz (x : Nat) : Int := IntKind.i64.wrap (1 - isz x)
theorem nz_eq (x : Nat) : nz x = if x = 0 then 0 else 1 := by
 unfold nz isz
 by_cases h : x = 0
 · rw [if_pos h, if_pos h]; rfl
 · rw [if_neg h, if_neg h]; rfl
theorem nz01 (x : Nat) : nz x = 0 ∨ nz x = 1 := by
 rw [nz_eq]
 by_cases h : x = 0
 · rw [if_pos h]; exact .inl rfl
 · rw [if_neg h]; exact .inr rfl
/-- 1 of two equal numbers. -/
def ceq (x y : Int) : Int := if x = y then 1 else 0
/-- 1 of two different numbers. -/
def df (x y : Int) : Int := IntKind.i64.wrap (1 - (if IntKind.i32.wrap x = IntKind.i32.wrap y then 1 else 0))
theorem df_eq (x y : Int) : df x y = if IntKind.i32.wrap x = IntKind.i32.wrap y then 0 else 1 := by
 unfold df
 by_cases h : IntKind.i32.wrap x = IntKind.i32.wrap y
 · rw [if_pos h, if_pos h]; rfl
 · rw [if_neg h, if_neg h]; rfl
theorem df01 (x y : Int) : df x y = 0 ∨ df x y = 1 := by
 rw [df_eq]
 by_cases h : IntKind.i32.wrap x = IntKind.i32.wrap y
 · rw [if_pos h]; exact .inl rfl
 · rw [if_neg h]; exact .inr rfl
theorem ctEq (x y : Int) (w : World) :
   Calls Tryd.prog 111 #[.int .i32 x, .int .i32 y] w fun e w' => e = .returned (.int .i64 (if x = y then 1 else 0)) ∧ w = w' := by
 have c1 := boolU8 true
 have c2 := boolU8 false
 simp only [if_true, Bool.false_eq_true, if_false] at c1 c2
 by_cases h : x = y
 · rw [if_pos h]
   subst h
   go_enter Tryd.func111, Tryd.ntmps111
   go_wp2
   go_ret
   exact ⟨rfl, rfl⟩
 · have h' : (x == y) = false := by simp; exact h
   rw [if_neg h]
   clear h
   go_enter Tryd.func111, Tryd.ntmps111
   go_wp2
   go_ret
   exact ⟨rfl, rfl⟩
theorem ctEqS (x y : Int) (h : Sto w s wr) :
   Calls Tryd.prog 111 #[.int .i32 x, .int .i32 y] wr fun e w' => e = .returned (.int .i64 (ceq x y)) ∧ Sto w s w' :=
 (ctEq x y wr).mono fun _ _ q => ⟨q.1, q.2 ▸ h⟩
end
end Go.Proofs.YtfkfljohhabldaaDoor
namespace Go.FourQ
open Go.RowKit
theorem Boxes.rebase {n : Nat} {w wr w' : World} {zs : List Zp} {b : Nat} {L : List Zp} (h : Boxes n w zs wr) (u : UpdZ wr w' b L) (hb : b < n) : Boxes n w' zs w' where
 nb := Below.refl _ _
 size := Nat.le_trans h.size u.size
 blk := fun i z hi => u.keep (h.blk i z hi) (by omega)
theorem UpdZ.afterN {n : Nat} {w w' w'' : World} {b : Nat} {L : List Zp} (u : UpdZ w w' b L) (v : Below n w' w'') (hn : w.heap.size ≤ n) (hb : b < n) : UpdZ w w'' b L :=
 ⟨v.os.trans u.os, v.tape.trans u.tape, v.output.trans u.output, Nat.le_trans u.size v.size, u.blk.of_heap (v.block b hb),
   fun k hk hb => (v.block k (by omega)).trans (u.other k hk hb)⟩
end Go.FourQ
namespace Go.Proofs.YtfkfljohhabldaaDoor
open Go.RowKit Go.FourQ
theorem ModW.belowN {n : Nat} {w w' : World} (h : ModW w) (v : Below n w w') (hn : 4 < n) : ModW w' := h.of_heap (v.block _ hn)
section
variable {w : World} {b1 b2 o1 o2 k1 : Nat} {L1 : List Zp} {x0 x1 z0 z1 : Zp}
set_option maxRecDepth 100000 in
set_option maxHeartbeats 1000000 in
theorem fqInv (hm : ModW w) (hg : 4 < b1) (h1 : FpsZ w b1 L1) (hA : AtQ w b2 o2 x0 x1) (e1 : o1 = 16 * k1) (i1 : k1 + 1 < L1.length) (dA : b2 ≠ b1 ∨ o2 + 16 ≠ o1) (hz0 : x0 * (x0 * x0 + x1 * x1).inv = z0) (hz1 : x1 * -(x0 * x0 + x1 * x1).inv = z1) :
   Calls Tryd.prog 126 #[.pointer (some ⟨b1, o1, none⟩), .pointer (some ⟨b2, o2, none⟩)] w fun e w' => e = .returned (.tuple #[]) ∧ UpdZ w w' b1 ((L1.set k1 z0).set (k1 + 1) z1) := by
 have E1 := Lib.hid e1
 have HZ0 := Lib.hid hz0
 have HZ1 := Lib.hid hz1
 clear e1 hz0 hz1
 go_enter Tryd.func126, Tryd.ntmps126
 go_upto_region 1 with (fail)
 have HN := h1.lt
 have HN2 := hA.fst.lt
 have HG := hm.lt
 have H0 : Boxes w.heap.size w [0, 0] ((w.alloc (.cells #[.int .u8 0, .int .u8 0, .int .u8 0, .int .u8 0, .int .u8 0, .int .u8 0, .int .u8 0, .int .u8 0, .int .u8 0, .int .u8 0, .int .u8 0, .int .u8 0, .int .u8 0, .int .u8 0, .int .u8 0, .int .u8 0] 73)).alloc (.cells #[.int .u8 0, .int .u8 0, .int .u8 0, .int .u8 0, .int .u8 0, .int .u8 0, .int .u8 0, .int .u8 0, .int .u8 0, .int .u8 0, .int .u8 0, .int .u8 0, .int .u8 0, .int .u8 0, .int .u8 0, .int .u8 0] 73)) := ((Boxes.start w).new rfl zero_fps.symm low_zero zp_zero).new (by simp) zero_fps.symm low_zero zp_zero
 obtain ⟨W0, hW⟩ : ∃ W0 : World, W0 = ((w.alloc (.cells #[.int .u8 0, .int .u8 0, .int .u8 0, .int .u8 0, .int .u8 0, .int .u8 0, .int .u8 0, .int .u8 0, .int .u8 0, .int .u8 0, .int .u8 0, .int .u8 0, .int .u8 0, .int .u8 0, .int .u8 0, .int .u8 0] 73)).alloc (.cells #[.int .u8 0, .int .u8 0, .int .u8 0, .int .u8 0, .int .u8 0, .int .u8 0, .int .u8 0, .int .u8 0, .int .u8 0, .int .u8 0, .int .u8 0, .int .u8 0, .int .u8 0, .int .u8 0, .int .u8 0, .int .u8 0] 73)) := ⟨_, rfl⟩
 rw [← hW] at H0 ⊢
 clear hW
 obtain ⟨n, hn⟩ : ∃ n, w.heap.size = n := ⟨_, rfl⟩
 rw [hn] at H0 HN HN2 HG ⊢
 replace hn := Lib.hid hn
 refine wsA (opsAt Tryd.f126 1) ((true, 0) :: (true, 1) :: (true, 2) :: (true, 3) :: (false, 4) :: []) (fun _ => True) trivial ?_
 refine kp (d := some 10) (v := .pointer (some ⟨n, 0, none⟩)) ?_
 refine kp (d := some 11) (v := .pointer (some ⟨b2, o2, none⟩)) ?_
 refine kp (d := some 12) (v := .pointer (some ⟨b2, o2, none⟩)) ?_
 refine kp (d := some 13) (v := .pointer (some ⟨b2, o2, none⟩)) ?_
 refine kd (d := some 14) (f := 104) (args := #[.pointer (some ⟨n, 0, none⟩), .pointer (some ⟨b2, o2, none⟩)]) (locSqr H0 (i := 0) rfl rfl (hA.fst.below H0.nb HN2) rfl) (fun _ w1 q1 => ⟨.tuple #[], q1.1, trivial, ?_⟩)
 have u1 := q1.2
 clear q1
 refine k_end ?_
 go_simp
 go_upto_region 2 with (fail)
 have H1 : Boxes n w [x0 * x0, 0] w1 := u1
 refine wsA (opsAt Tryd.f126 2) ((true, 0) :: (true, 1) :: (true, 2) :: (true, 3) :: (false, 4) :: []) (fun _ => True) trivial ?_
 refine kp (d := some 15) (v := .pointer (some ⟨n + 1, 0, none⟩)) ?_
 refine kp (d := some 16) (v := .pointer (some ⟨b2, o2, none⟩)) ?_
 refine kp (d := some 17) (v := .pointer (some ⟨b2, o2, none⟩)) ?_
 refine kp (d := some 18) (v := .pointer (some ⟨b2, o2 + 16, none⟩)) ?_
 refine kd (d := some 19) (f := 104) (args := #[.pointer (some ⟨n + 1, 0, none⟩), .pointer (some ⟨b2, o2 + 16, none⟩)]) (locSqr H1 (i := 1) rfl rfl (hA.snd.below H1.nb HN2) rfl) (fun _ w2 q2 => ⟨.tuple #[], q2.1, trivial, ?_⟩)
 have u2 := q2.2
 clear q2
 refine k_end ?_
 go_simp
 go_upto_region 3 with (fail)
 have H2 : Boxes n w [x0 * x0, x1 * x1] w2 := u2
 refine wsA (opsAt Tryd.f126 3) ((true, 0) :: (true, 1) :: (true, 2) :: (false, 3) :: []) (fun _ => True) trivial ?_
 refine kp (d := some 20) (v := .pointer (some ⟨n, 0, none⟩)) ?_
 refine kp (d := some 21) (v := .pointer (some ⟨n, 0, none⟩)) ?_
 refine kp (d := some 22) (v := .pointer (some ⟨n + 1, 0, none⟩)) ?_
 refine kd (d := some 23) (f := 103) (args := #[.pointer (some ⟨n, 0, none⟩), .pointer (some ⟨n, 0, none⟩), .pointer (some ⟨n + 1, 0, none⟩)]) (locAdd H2 (i := 0) rfl rfl (H2.at 0 rfl rfl) (H2.at 1 rfl rfl) rfl) (fun _ w3 q3 => ⟨.tuple #[], q3.1, trivial, ?_⟩)
 have u3 := q3.2
 clear q3
 refine k_end ?_
 go_simp
 go_upto_region 4 with (fail)
 have H3 : Boxes n w [x0 * x0 + x1 * x1, x1 * x1] w3 := u3
 refine wsA (opsAt Tryd.f126 4) ((true, 0) :: (true, 1) :: (false, 2) :: []) (fun _ => True) trivial ?_
 refine kp (d := some 24) (v := .pointer (some ⟨n, 0, none⟩)) ?_
 refine kp (d := some 25) (v := .pointer (some ⟨n, 0, none⟩)) ?_
 refine kd (d := some 26) (f := 143) (args := #[.pointer (some ⟨n, 0, none⟩), .pointer (some ⟨n, 0, none⟩)]) (zInv (H3.blk 0 _ rfl) (H3.at 0 rfl rfl) (k1 := 0) rfl (by simp)) (fun _ w4 q4 => ⟨.tuple #[], q4.1, trivial, ?_⟩)
 have u4 := q4.2
 clear q4
 refine k_end ?_
 go_simp
 go_upto_region 5 with (fail)
 have H4 : Boxes n w [(x0 * x0 + x1 * x1).inv, x1 * x1] w4 := H3.upd (i := 0) (y := x0 * x0 + x1 * x1) u4
 refine wrA (opsAt Tryd.f126 5) ((true, 0) :: (true, 1) :: (true, 2) :: (true, 3) :: (true, 4) :: (true, 5) :: (true, 6) :: (false, 7) :: []) (fun _ => True) trivial ?_
 refine kp (d := some 27) (v := .pointer (some ⟨b1, o1, none⟩)) ?_
 refine kp (d := some 28) (v := .pointer (some ⟨b1, o1, none⟩)) ?_
 refine kp (d := some 29) (v := .pointer (some ⟨b1, o1, none⟩)) ?_
 refine kp (d := some 30) (v := .pointer (some ⟨b2, o2, none⟩)) ?_
 refine kp (d := some 31) (v := .pointer (some ⟨b2, o2, none⟩)) ?_
 refine kp (d := some 32) (v := .pointer (some ⟨b2, o2, none⟩)) ?_
 refine kp (d := some 33) (v := .pointer (some ⟨n, 0, none⟩)) ?_
 refine kd (d := some 34) (f := 102) (args := #[.pointer (some ⟨b1, o1, none⟩), .pointer (some ⟨b2, o2, none⟩), .pointer (some ⟨n, 0, none⟩)]) (atMul (h1.of_heap (H4.nb.block _ HN)).drew (hA.fst.below H4.nb HN2).drew (H4.at 0 rfl rfl).drew E1.out (Nat.lt_of_succ_lt i1) HZ0.out) (fun _ w5 q5 => ⟨.tuple #[], q5.1, trivial, ?_⟩)
 have u5 := q5.2.ofDrew
 clear q5
 refine k_end ?_
 go_simp
 go_upto_region 6 with (fail)
 have H5 : Boxes n w5 [(x0 * x0 + x1 * x1).inv, x1 * x1] w5 := H4.rebase u5 HN
 have hm5 : ModW w5 := (hm.belowN H4.nb HG).updZ hg u5
 have HA5 : At w5 b2 (o2 + 16) x1 := (hA.snd.below H4.nb HN2).set (h1.of_heap (H4.nb.block _ HN)) E1.out u5 dA
 refine wsA (opsAt Tryd.f126 6) ((true, 0) :: (true, 1) :: (false, 2) :: []) (fun _ => True) trivial ?_
 refine kp (d := some 35) (v := .pointer (some ⟨n, 0, none⟩)) ?_
 refine kp (d := some 36) (v := .pointer (some ⟨n, 0, none⟩)) ?_
 refine kd (d := some 37) (f := 93) (args := #[.pointer (some ⟨n, 0, none⟩), .pointer (some ⟨n, 0, none⟩)]) (locNeg hm5 H5 (i := 0) rfl rfl (H5.at 0 rfl rfl) rfl) (fun _ w6 q6 => ⟨.tuple #[], q6.1, trivial, ?_⟩)
 have u6 := q6.2
 clear q6
 refine k_end ?_
 go_simp
 go_upto_region 7 with (fail)
 have H6 : Boxes n w5 [-(x0 * x0 + x1 * x1).inv, x1 * x1] w6 := u6
 refine wrA (opsAt Tryd.f126 7) ((true, 0) :: (true, 1) :: (true, 2) :: (true, 3) :: (true, 4) :: (true, 5) :: (true, 6) :: (false, 7) :: []) (fun _ => True) trivial ?_
 refine kp (d := some 38) (v := .pointer (some ⟨b1, o1, none⟩)) ?_
 refine kp (d := some 39) (v := .pointer (some ⟨b1, o1, none⟩)) ?_
 refine kp (d := some 40) (v := .pointer (some ⟨b1, o1 + 16, none⟩)) ?_
 refine kp (d := some 41) (v := .pointer (some ⟨b2, o2, none⟩)) ?_
 refine kp (d := some 42) (v := .pointer (some ⟨b2, o2, none⟩)) ?_
 refine kp (d := some 43) (v := .pointer (some ⟨b2, o2 + 16, none⟩)) ?_
 refine kp (d := some 44) (v := .pointer (some ⟨n, 0, none⟩)) ?_
 refine kd (d := some 45) (f := 102) (args := #[.pointer (some ⟨b1, o1 + 16, none⟩), .pointer (some ⟨b2, o2 + 16, none⟩), .pointer (some ⟨n, 0, none⟩)]) (atMul (u5.blk.of_heap (H6.nb.block _ HN)).drew (HA5.below H6.nb HN2).drew (H6.at 0 rfl rfl).drew (e16 E1.out) (len_set i1) HZ1.out) (fun _ w7 q7 => ⟨.tuple #[], q7.1, trivial, ?_⟩)
 have u7 := q7.2.ofDrew
 clear q7
 refine k_end ?_
 go_simp
 have HU := Lib.hid (((UpdZ.ahead (hn.out ▸ H4.nb) u5).afterN H6.nb (Nat.le_of_eq hn.out) HN).trans u7)
 clear u1 u2 u3 u4 u5 u6 u7
 go_wp2_with fail
 go_end0
 exact ⟨rfl, HU.out⟩
end
end Go.Proofs.YtfkfljohhabldaaDoor
namespace Go.FourQ
open Go.RowKit
/-- The elements' parts in order. -/
def flat : List Zq → List Zp
 | [] => []
 | x :: l => x.re :: x.im :: flat l
theorem flat_length : ∀ L : List Zq, (flat L).length = 2 * L.length
 | [] => rfl
 | x :: l => by simp only [flat, List.length_cons, flat_length l]; omega
theorem flat_get0 : ∀ {L : List Zq} {k : Nat} {x : Zq}, L[k]? = some x → (flat L)[2 * k]? = some x.re
 | [], k, x, h => by simp at h
 | y :: l, 0, x, h => by
   obtain rfl : y = x := by simpa using h
   rfl
 | y :: l, k + 1, x, h => by
   have := flat_get0 (L := l) (k := k) (x := x) (by simpa using h)
   rw [show 2 * (k + 1) = 2 * k + 1 + 1 by omega]
   exact this
theorem flat_get1 : ∀ {L : List Zq} {k : Nat} {x : Zq}, L[k]? = some x → (flat L)[2 * k + 1]? = some x.im
 | [], k, x, h => by simp at h
 | y :: l, 0, x, h => by
   obtain rfl : y = x := by simpa using h
   rfl
 | y :: l, k + 1, x, h => by
   have := flat_get1 (L := l) (k := k) (x := x) (by simpa using h)
   rw [show 2 * (k + 1) + 1 = 2 * k + 1 + 1 + 1 by omega]
   exact this
theorem flat_set : ∀ (L : List Zq) (k : Nat) (x : Zq), ((flat L).set (2 * k) x.re).set (2 * k + 1) x.im = flat (L.set k x)
 | [], k, x => rfl
 | y :: l, 0, x => rfl
 | y :: l, k + 1, x => by
   have := flat_set l k x
   rw [show 2 * (k + 1) + 1 = 2 * k + 1 + 1 + 1 by omega, show 2 * (k + 1) = 2 * k + 1 + 1 by omega]
   simp only [flat, List.set_cons_succ]
   rw [this]
theorem flat_lt {L : List Zq} {k : Nat} (h : k < L.length) : 2 * k + 1 < (flat L).length := by rw [flat_length]; omega
/-- At this place stands this element. -/
structure AtZ (w : World) (b o : Nat) (z : Zq) : Prop where
 q : AtQ w b o z.re z.im
 al : ∃ k, o = 32 * k
theorem AtZ.drew {w : World} {b o : Nat} {z : Zq} (h : AtZ w b o z) : AtZ w.drew b o z := ⟨⟨h.q.fst, h.q.snd⟩, h.al⟩
theorem AtZ.below {w w' : World} {b o n : Nat} {z : Zq} (h : AtZ w b o z) (v : Below n w w') (hb : b < n) : AtZ w' b o z := ⟨h.q.below v hb, h.al⟩
theorem AtZ.nb {w w' : World} {b o : Nat} {z : Zq} (h : AtZ w b o z) (v : Below w.heap.size w w') : AtZ w' b o z := ⟨h.q.nb v, h.al⟩
theorem FpsZ.atz {w : World} {b o k : Nat} {L : List Zq} {x : Zq} (h : FpsZ w b (flat L)) (hk : L[k]? = some x) (ho : o = 32 * k) : AtZ w b o x :=
 ⟨⟨h.atK (k := 2 * k) (by omega) (flat_get0 hk), h.atK (k := 2 * k + 1) (by omega) (flat_get1 hk)⟩, k, ho⟩
section
variable {w wr w' : World} {s : List (Nat × List Zp)} {i b : Nat} {L M : List Zq}
theorem Sto.atz (h : Sto w s wr) (i k : Nat) {o : Nat} {x : Zq} (hi : s[i]? = some (b, flat L)) (hk : L[k]? = some x) (ho : o = 32 * k) : AtZ wr b o x := (h.blk i b _ hi).atz hk ho
theorem AtZ.sto {c o : Nat} {x : Zq} (h : AtZ w c o x) (g : Sto w s wr) (hc : ∀ p ∈ s, p.1 ≠ c) : AtZ wr c o x := ⟨⟨h.q.fst.sto g hc, h.q.snd.sto g hc⟩, h.al⟩
/-- A call that writes one of the blocks. -/
theorem up1 {P : Program} {f : FuncId} {args : Array Value} {v : Value} {l m : List Zp} (h : Sto w s wr) (hi : s[i]? = some (b, l)) (C : Calls P f args wr fun e w' => e = .returned v ∧ UpdZ wr w' b m) :
   Calls P f args wr fun e w' => e = .returned v ∧ Sto w (s.set i (b, m)) w' := C.mono fun _ _ q => ⟨q.1, h.upd hi q.2⟩
/-- Two blocks of before. -/
theorem Sto.two {c : Nat} {l m : List Zp} (h1 : FpsZ w b l) (h2 : FpsZ w c m) (hne : b ≠ c) : Sto w [(b, l), (c, m)] w where
 os := rfl
 tape := rfl
 output := rfl
 size := Nat.le_refl _
 blk := fun i d N hi => by
   rcases i with _ | _ | i
   · obtain ⟨rfl, rfl⟩ : b = d ∧ l = N := by simpa using hi
     exact h1
   · obtain ⟨rfl, rfl⟩ : c = d ∧ m = N := by simpa using hi
     exact h2
   · simp at hi
 ne := fun i j d e N O hi hj hij => by
   rcases i with _ | _ | i
   · rcases j with _ | _ | j
     · exact absurd rfl hij
     · obtain ⟨rfl, rfl⟩ : b = d ∧ l = N := by simpa using hi
       obtain ⟨rfl, rfl⟩ : c = e ∧ m = O := by simpa using hj
       exact hne
     · simp at hj
   · rcases j with _ | _ | j
     · obtain ⟨rfl, rfl⟩ : c = d ∧ m = N := by simpa using hi
       obtain ⟨rfl, rfl⟩ : b = e ∧ l = O := by simpa using hj
       exact Ne.symm hne
     · exact absurd rfl hij
     · simp at hj
   · simp at hi
 other := fun _ _ _ => rfl
/-- All blocks that are written are new. -/
theorem Sto.below (h : Sto w s wr) (ht : ∀ p ∈ s, w.heap.size ≤ p.1) : Below w.heap.size w wr :=
 ⟨h.os, h.tape, h.output, h.size, fun k hk => h.other k hk fun p hp e => by have := ht p hp; omega⟩
/-- A call that writes two of the blocks. -/
theorem Sto.upd2 {j c : Nat} {l m M N : List Zp} (h : Sto w s wr) (hi : s[i]? = some (b, l)) (hj : s[j]? = some (c, m)) (hij : i ≠ j) (u : Sto wr [(b, M), (c, N)] w') : Sto w ((s.set i (b, M)).set j (c, N)) w' := by
 have hli := (List.getElem?_eq_some_iff.1 hi).1
 have hlj := (List.getElem?_eq_some_iff.1 hj).1
 have key : ∀ (n e : Nat) (O : List Zp), ((s.set i (b, M)).set j (c, N))[n]? = some (e, O) → (n = j ∧ e = c ∧ O = N) ∨ (n = i ∧ n ≠ j ∧ e = b ∧ O = M) ∨ (n ≠ i ∧ n ≠ j ∧ s[n]? = some (e, O)) := fun n e O hn => by
   by_cases hnj : n = j
   · subst hnj
     rw [List.getElem?_set_self (by rw [List.length_set]; exact hlj)] at hn
     obtain ⟨rfl, rfl⟩ : c = e ∧ N = O := by simpa using hn
     exact .inl ⟨rfl, rfl, rfl⟩
   · rw [List.getElem?_set_ne (Ne.symm hnj)] at hn
     by_cases hni : n = i
     · subst hni
       rw [List.getElem?_set_self hli] at hn
       obtain ⟨rfl, rfl⟩ : b = e ∧ M = O := by simpa using hn
       exact .inr (.inl ⟨rfl, hnj, rfl, rfl⟩)
     · rw [List.getElem?_set_ne (Ne.symm hni)] at hn
       exact .inr (.inr ⟨hni, hnj, hn⟩)
 have old : ∀ (n e : Nat) (O : List Zp), ((s.set i (b, M)).set j (c, N))[n]? = some (e, O) → ∃ O', s[n]? = some (e, O') := fun n e O hn => by
   rcases key n e O hn with ⟨rfl, rfl, rfl⟩ | ⟨rfl, _, rfl, rfl⟩ | ⟨_, _, h3⟩
   · exact ⟨m, hj⟩
   · exact ⟨l, hi⟩
   · exact ⟨O, h3⟩
 exact {
   os := u.os.trans h.os
   tape := u.tape.trans h.tape
   output := u.output.trans h.output
   size := Nat.le_trans h.size u.size
   blk := fun n e O hn => by
     rcases key n e O hn with ⟨rfl, rfl, rfl⟩ | ⟨rfl, _, rfl, rfl⟩ | ⟨h1, h2, h3⟩
     · exact u.blk 1 _ _ rfl
     · exact u.blk 0 _ _ rfl
     · have f := h.blk n e O h3
       refine f.of_heap (u.other e f.lt fun p hp => ?_)
       rcases List.mem_cons.1 hp with rfl | hp
       · exact h.ne i n b e l O hi h3 (Ne.symm h1)
       · obtain rfl : p = (c, N) := by simpa using hp
         exact h.ne j n c e m O hj h3 (Ne.symm h2)
   ne := fun n k e f O R hn hk hnk => by
     obtain ⟨O', hn'⟩ := old n e O hn
     obtain ⟨R', hk'⟩ := old k f R hk
     exact h.ne n k e f O' R' hn' hk' hnk
   other := fun k hk hp => by
     have hb : b ≠ k := hp (b, M) (List.mem_of_getElem? (i := i) (by rw [List.getElem?_set_ne (Ne.symm hij), List.getElem?_set_self hli]))
     have hc : c ≠ k := hp (c, N) (List.mem_of_getElem? (i := j) (by rw [List.getElem?_set_self (by rw [List.length_set]; exact hlj)]))
     refine (u.other k (Nat.lt_of_lt_of_le hk h.size) fun p hp => ?_).trans (h.other k hk fun p hm => ?_)
     · rcases List.mem_cons.1 hp with rfl | hp
       · exact hb
       · obtain rfl : p = (c, N) := by simpa using hp
         exact hc
     · obtain ⟨n, hn⟩ := List.getElem?_of_mem hm
       by_cases hni : n = i
       · subst hni
         obtain rfl : (b, l) = p := Option.some.inj (hi.symm.trans hn)
         exact hb
       · by_cases hnj : n = j
         · subst hnj
           obtain rfl : (c, m) = p := Option.some.inj (hj.symm.trans hn)
           exact hc
         · exact hp p (List.mem_of_getElem? (i := n) (by rw [List.getElem?_set_ne (Ne.symm hnj), List.getElem?_set_ne (Ne.symm hni)]; exact hn)) }
/-- A variable of the package. -/
def GV (w : World) (c : Nat) (cs : Array Value) : Prop := ∃ T, w.heap[c]? = some (.cells cs T (0, 0))
theorem GV.lt {c : Nat} {cs : Array Value} (h : GV w c cs) : c < w.heap.size := by obtain ⟨T, hT⟩ := h; exact lt_of_heap hT
theorem GV.of_heap {c : Nat} {cs : Array Value} (h : GV w c cs) (e : w'.heap[c]? = w.heap[c]?) : GV w' c cs := by obtain ⟨T, hT⟩ := h; exact ⟨T, e.trans hT⟩
theorem GV.sto {c : Nat} {cs : Array Value} (h : GV w c cs) (g : Sto w s wr) (hk : ∀ p ∈ s, p.1 ≠ c) : GV wr c cs := h.of_heap (g.other _ h.lt hk)
theorem GV.nb {c : Nat} {cs : Array Value} (h : GV w c cs) (v : Below w.heap.size w w') : GV w' c cs := h.of_heap (v.block _ h.lt)
theorem GV.alloc {c : Nat} {cs : Array Value} (h : GV w c cs) (o : Obj) : GV (w.alloc o) c cs := h.of_heap (Below.heap_alloc _ _ _ h.lt)
theorem GV.fps {c : Nat} {l : List Nat} (h : GV w c (fps l)) : Fps w c l := h
theorem ks0 {c : Nat} : ∀ p ∈ ([] : List (Nat × List Zp)), p.1 ≠ c := fun _ hp => by simp at hp
theorem ksC {c : Nat} {l : List Zp} (h : b ≠ c) (r : ∀ p ∈ s, p.1 ≠ c) : ∀ p ∈ (b, l) :: s, p.1 ≠ c := fun p hp => by
 rcases List.mem_cons.1 hp with rfl | hp
 · exact h
 · exact r p hp
theorem ts0 {n : Nat} : ∀ p ∈ ([] : List (Nat × List Zp)), n ≤ p.1 := fun _ hp => by simp at hp
theorem tsC {n : Nat} {l : List Zp} (h : n ≤ b) (r : ∀ p ∈ s, n ≤ p.1) : ∀ p ∈ (b, l) :: s, n ≤ p.1 := fun p hp => by
 rcases List.mem_cons.1 hp with rfl | hp
 · exact h
 · exact r p hp
theorem k2 {o k : Nat} (h : o = 32 * k) : o = 16 * (2 * k) := by omega
section
variable {P : Program} {ops : Array Oper} {Q : Exit → Act → World → Prop} {S : World → Prop} {a : Act} {r : List (Bool × Nat)} {d : Option Tmp} {v : Value}
/-- An element is read, in the text's order. -/
theorem k_loadZ (hw : wantN ops i a = some true) (hd : (opN ops i).dst = d) {ty : TypeId} {x : Operand} (hop : (opN ops i).op = .load ty x) {b o : Nat} {z : Zq} (hx : a.eval x = .pointer (some ⟨b, o, none⟩)) (hA : AtZ w b o z) {t : TypeDesc}
   (hu : P.underlying ty = some t) (ht : (match t with | .struct _ | .array _ _ => true | _ => false) = true) (hi : (P.info? ty).map (·.size) = some 32) (hS : S w)
   (h : ∀ x y, LowB x → LowB y → zp x = z.re → zp y = z.im → PlanG P ops Q S r (a.put d (.agg (fps [x, y]))) w) : PlanG P ops Q S ((false, i) :: r) a w := by
 subst hd
 obtain ⟨L0, k0, f0, e0, g0⟩ := hA.q.fst
 obtain ⟨L1, k1, f1, e1, g1⟩ := hA.q.snd
 obtain ⟨l0, x, p0, m0, n0, q0, z0, y0⟩ := f0.get g0
 obtain ⟨l1, y, p1, m1, n1, q1, z1, y1⟩ := f1.get g1
 refine ⟨?_⟩
 show wpOp P ops Q i _ a w
 have hw' := wantN_some hw
 unfold wpOp
 simp only [hw'.1, hw'.2, if_true]
 refine .inl ?_
 unfold Oper.wp
 have hc : ∀ j v, (fps [x, y])[j]? = some v → w.cell? ⟨b, o + j, none⟩ = some v := fun j v hj => by
   obtain ⟨u, hu, rfl⟩ := fps_getElem hj
   rcases hq : j / 16 with _ | q
   · rw [hq] at hu
     obtain rfl : x = u := by simpa using hu
     have := p0.cell q0 e0 (j % 16) (Nat.mod_lt _ (by decide))
     rwa [show o + j % 16 = o + j by omega] at this
   · rw [hq] at hu
     have hq0 : q = 0 := by
       rcases Nat.eq_zero_or_pos q with h0 | h0
       · exact h0
       · rw [List.getElem?_eq_none (by simp only [List.length_cons, List.length_nil]; omega)] at hu; cases hu
     subst hq0
     obtain rfl : y = u := by simpa using hu
     have := p1.cell q1 e1 (j % 16) (Nat.mod_lt _ (by decide))
     rwa [show o + 16 + j % 16 = o + j by omega] at this
 have hsz : (P.info? ty).map (·.size) = some (fps [x, y]).size := by rw [hi, size_fps]; rfl
 have hrun : (execOp a.eval (opN ops i)).run P w = .ok (.value (.agg (fps [x, y]))) w := by
   unfold execOp
   simp only [hop, hx, Instr.loadAt, Instr.sureAddr, Sem.run_bind, Sem.run_pure, Result.andThen_ok, run_loadVar_at w b o ty (fps [x, y]) t hc hu ht hsz]
 rw [hrun]
 exact ⟨hS, (h x y y0 y1 z0 z1).out⟩
theorem run_storeVar_at (w : World) (g o : Nat) (t ty : TypeId) (old cells : Array Value) (hg : w.heap[g]? = some (.cells old t (0, 0))) (hi : (P.info? ty).map (·.size) = some cells.size)
   (ho : o + cells.size ≤ old.size) (h1 : cells.all (·.oneCell') = true) :
   (storeVar ty ⟨g, o, none⟩ (.agg cells)).run P w = .ok () (w.setRow g (old.toList.take o ++ cells.toList ++ old.toList.drop (o + cells.size)).toArray) := by
 have := run_storeCells_at (P := P) g o t cells.toList 0 old w hg (by simp; omega) (fun v hv => (Array.all_eq_true_iff_forall_mem.1 h1) v (by simpa using hv))
 cases hq : P.info? ty with
 | none => simp [hq] at hi
 | some i =>
   have hs : cells.size = i.size := by simp [hq] at hi; omega
   simp [storeVar, sizeOf, typeInfo, hq, Value.cells, hs, this]
theorem take_fps : ∀ (l : List Nat) (k : Nat), (fps l).toList.take (16 * k) = (fps (l.take k)).toList
 | [], k => by simp [fps]
 | x :: l, 0 => by simp [fps]
 | x :: l, k + 1 => by
   have e : (fps (x :: l)).toList = (fpC x).toList ++ (fps l).toList := by rw [fps]; simp
   have e2 : (fps ((x :: l).take (k + 1))).toList = (fpC x).toList ++ (fps (l.take k)).toList := by rw [List.take_succ_cons, fps]; simp
   have hl : (fpC x).toList.length = 16 := by have := size_fpC x; simpa using this
   rw [e, e2, List.take_append, hl, show 16 * (k + 1) - 16 = 16 * k by omega, take_fps l k, List.take_of_length_le (by rw [hl]; omega)]
theorem drop_fps : ∀ (l : List Nat) (k : Nat), (fps l).toList.drop (16 * k) = (fps (l.drop k)).toList
 | [], k => by simp [fps]
 | x :: l, 0 => by simp
 | x :: l, k + 1 => by
   have e : (fps (x :: l)).toList = (fpC x).toList ++ (fps l).toList := by rw [fps]; simp
   have hl : (fpC x).toList.length = 16 := by have := size_fpC x; simpa using this
   rw [e, List.drop_succ_cons, List.drop_append, hl, show 16 * (k + 1) - 16 = 16 * k by omega, drop_fps l k, List.drop_of_length_le (by rw [hl]; omega), List.nil_append]
theorem fps_app : ∀ l m : List Nat, fps (l ++ m) = fps l ++ fps m
 | [], m => by simp [fps]
 | x :: l, m => by rw [List.cons_append, fps, fps_app l m, fps, Array.append_assoc]
theorem set2_eq {α : Type} : ∀ (l : List α) (k : Nat) (x y : α), k + 1 < l.length → (l.set k x).set (k + 1) y = l.take k ++ [x, y] ++ l.drop (k + 2)
 | [], k, x, y, h => by simp at h
 | [a], k, x, y, h => by simp at h
 | a :: b :: l, 0, x, y, h => by simp
 | a :: b :: l, k + 1, x, y, h => by
   have := set2_eq (b :: l) k x y (by simp at h ⊢; omega)
   simp only [List.set_cons_succ, this, List.take_succ_cons, List.drop_succ_cons, List.cons_append]
/-- A pair is written into a block. -/
theorem store_pair {l : List Nat} {k x y : Nat} (h : k + 1 < l.length) : ((fps l).toList.take (16 * k) ++ (fps [x, y]).toList ++ (fps l).toList.drop (16 * k + (fps [x, y]).size)).toArray = fps ((l.set k x).set (k + 1) y) := by
 rw [size_fps, show 16 * k + 16 * [x, y].length = 16 * (k + 2) by simp only [List.length_cons, List.length_nil]; omega, take_fps, drop_fps, set2_eq l k x y h, fps_app, fps_app]
 apply Array.ext'
 simp
theorem upd_setRow {b : Nat} {m : List Nat} {c : Array Value} {T : TypeId} (hg : w.heap[b]? = some (.cells c T (0, 0))) : Upd w (w.setRow b (fps m)) b m where
 os := rfl
 tape := rfl
 output := rfl
 size := by simp
 blk := ⟨T, setRow_heap _ _ _ _ _ _ hg⟩
 other := fun k _ hb => setRow_other _ _ _ _ hb
/-- An element is written. -/
theorem k_storeZ (hw : wantN ops i a = some true) (hd : (opN ops i).dst = d) {ty : TypeId} {x y : Operand} (hop : (opN ops i).op = .store ty x y) {b o k u v : Nat} {L : List Zp} {z0 z1 : Zp} (hx : a.eval x = .pointer (some ⟨b, o, none⟩)) (hy : a.eval y = .agg (fps [u, v]))
   (h1 : FpsZ w b L) (e1 : o = 16 * k) (i1 : k + 1 < L.length) (hu : LowB u) (hv : LowB v) (hz0 : zp u = z0) (hz1 : zp v = z1) (hi : (P.info? ty).map (·.size) = some 32)
   (h : ∀ w', UpdZ w w' b ((L.set k z0).set (k + 1) z1) → S w' ∧ PlanG P ops Q S r (a.put d undef) w') : PlanG P ops Q S ((false, i) :: r) a w := by
 subst hd e1
 obtain ⟨l, ⟨T, hT⟩, e, hl⟩ := h1
 have hk : k + 1 < l.length := by rwa [← e, List.length_map] at i1
 have U := upd_setRow (m := (l.set k u).set (k + 1) v) hT
 have UZ : UpdZ w (w.setRow b (fps ((l.set k u).set (k + 1) v))) b ((L.set k z0).set (k + 1) z1) :=
   ⟨U.os, U.tape, U.output, U.size, ⟨_, U.blk, by rw [List.map_set, List.map_set, e, hz0, hz1], fun q hq => by
     rcases List.mem_or_eq_of_mem_set hq with h | h
     · rcases List.mem_or_eq_of_mem_set h with h | h
       · exact hl q h
       · rw [h]; exact hu
     · rw [h]; exact hv⟩, U.other⟩
 obtain ⟨hS, hn⟩ := h _ UZ
 refine ⟨?_⟩
 show wpOp P ops Q i _ a w
 have hw' := wantN_some hw
 unfold wpOp
 simp only [hw'.1, hw'.2, if_true]
 refine .inl ?_
 unfold Oper.wp
 have hsz : (P.info? ty).map (·.size) = some (fps [u, v]).size := by rw [hi, size_fps]; rfl
 have hrun : (execOp a.eval (opN ops i)).run P w = .ok .skip (w.setRow b (fps ((l.set k u).set (k + 1) v))) := by
   unfold execOp
   simp only [hop, hx, hy, Instr.storeAt, Instr.sureAddr, Sem.run_bind, Sem.run_pure, Result.andThen_ok]
   rw [run_storeVar_at w b (16 * k) T ty (fps l) (fps [u, v]) hT hsz (by rw [size_fps, size_fps]; simp only [List.length_cons, List.length_nil]; omega) (all_fps2 u v), store_pair hk]
   rfl
 rw [hrun]
 exact ⟨hS, hn.out⟩
end
end
end Go.FourQ
namespace Go.Proofs.YtfkfljohhabldaaDoor
open Go.RowKit Go.FourQ
section
variable {w wr : World} {s : List (Nat × List Zp)} {i b1 b2 b3 o1 o2 o3 k1 : Nat} {L1 : List Zq} {x y z : Zq}
theorem al_ne {b1 b2 o1 o2 k : Nat} (h : ∃ k, o2 = 32 * k) (e : o1 = 32 * k) : b2 ≠ b1 ∨ o2 + 16 ≠ o1 := by obtain ⟨j, rfl⟩ := h; exact .inr (by omega)
theorem sqAdd (h : Sto w s wr) (hi : s[i]? = some (b1, flat L1)) (e1 : o1 = 32 * k1) (i1 : k1 < L1.length) (h2 : AtZ wr b2 o2 x) (h3 : AtZ wr b3 o3 y) (hz : x + y = z) :
   Calls Tryd.prog 92 #[.pointer (some ⟨b1, o1, none⟩), .pointer (some ⟨b2, o2, none⟩), .pointer (some ⟨b3, o3, none⟩)] wr fun e w' => e = .returned (.tuple #[]) ∧ Sto w (s.set i (b1, flat (L1.set k1 z))) w' := by
 subst hz
 have := fqAdd (h.blk i b1 _ hi) h2.q h3.q (k2 e1) (flat_lt i1) (al_ne h2.al e1) (al_ne h3.al e1) (z0 := (x + y).re) (z1 := (x + y).im) rfl rfl
 rw [flat_set] at this
 exact up1 h hi this
theorem sqSub (h : Sto w s wr) (hi : s[i]? = some (b1, flat L1)) (e1 : o1 = 32 * k1) (i1 : k1 < L1.length) (h2 : AtZ wr b2 o2 x) (h3 : AtZ wr b3 o3 y) (hz : x - y = z) :
   Calls Tryd.prog 91 #[.pointer (some ⟨b1, o1, none⟩), .pointer (some ⟨b2, o2, none⟩), .pointer (some ⟨b3, o3, none⟩)] wr fun e w' => e = .returned (.tuple #[]) ∧ Sto w (s.set i (b1, flat (L1.set k1 z))) w' := by
 subst hz
 have := fqSub (h.blk i b1 _ hi) h2.q h3.q (k2 e1) (flat_lt i1) (al_ne h2.al e1) (al_ne h3.al e1) (z0 := (x - y).re) (z1 := (x - y).im) rfl rfl
 rw [flat_set] at this
 exact up1 h hi this
theorem sqMul (h : Sto w s wr) (hi : s[i]? = some (b1, flat L1)) (e1 : o1 = 32 * k1) (i1 : k1 < L1.length) (h2 : AtZ wr b2 o2 x) (h3 : AtZ wr b3 o3 y) (hz : x * y = z) :
   Calls Tryd.prog 90 #[.pointer (some ⟨b1, o1, none⟩), .pointer (some ⟨b2, o2, none⟩), .pointer (some ⟨b3, o3, none⟩)] wr fun e w' => e = .returned (.tuple #[]) ∧ Sto w (s.set i (b1, flat (L1.set k1 z))) w' := by
 subst hz
 have := fqMul (h.blk i b1 _ hi) h2.q h3.q (k2 e1) (flat_lt i1) (z0 := (x * y).re) (z1 := (x * y).im) rfl rfl
 rw [flat_set] at this
 exact up1 h hi this
theorem sqSqr (h : Sto w s wr) (hi : s[i]? = some (b1, flat L1)) (e1 : o1 = 32 * k1) (i1 : k1 < L1.length) (h2 : AtZ wr b2 o2 x) (hz : x * x = z) :
   Calls Tryd.prog 89 #[.pointer (some ⟨b1, o1, none⟩), .pointer (some ⟨b2, o2, none⟩)] wr fun e w' => e = .returned (.tuple #[]) ∧ Sto w (s.set i (b1, flat (L1.set k1 z))) w' := by
 subst hz
 have := fqSqr (h.blk i b1 _ hi) h2.q (k2 e1) (flat_lt i1) (z0 := (x * x).re) (z1 := (x * x).im) rfl sqrN
 rw [flat_set] at this
 exact up1 h hi this
theorem sqNeg (hm : ModW wr) (hg : 4 < b1) (h : Sto w s wr) (hi : s[i]? = some (b1, flat L1)) (e1 : o1 = 32 * k1) (i1 : k1 < L1.length) (h2 : AtZ wr b2 o2 x) (hz : -x = z) :
   Calls Tryd.prog 112 #[.pointer (some ⟨b1, o1, none⟩), .pointer (some ⟨b2, o2, none⟩)] wr fun e w' => e = .returned (.tuple #[]) ∧ Sto w (s.set i (b1, flat (L1.set k1 z))) w' := by
 subst hz
 have := fqNeg hm hg (h.blk i b1 _ hi) h2.q (k2 e1) (flat_lt i1) (al_ne h2.al e1) (z0 := (-x).re) (z1 := (-x).im) rfl rfl
 rw [flat_set] at this
 exact up1 h hi this
theorem sqInv (hm : ModW wr) (hg : 4 < b1) (h : Sto w s wr) (hi : s[i]? = some (b1, flat L1)) (e1 : o1 = 32 * k1) (i1 : k1 < L1.length) (h2 : AtZ wr b2 o2 x) (hz : x.inv = z) :
   Calls Tryd.prog 126 #[.pointer (some ⟨b1, o1, none⟩), .pointer (some ⟨b2, o2, none⟩)] wr fun e w' => e = .returned (.tuple #[]) ∧ Sto w (s.set i (b1, flat (L1.set k1 z))) w' := by
 subst hz
 have := fqInv hm hg (h.blk i b1 _ hi) h2.q (k2 e1) (flat_lt i1) (al_ne h2.al e1) (z0 := x.inv.re) (z1 := x.inv.im) rfl rfl
 rw [flat_set] at this
 exact up1 h hi this
theorem sqCmov {v : Int} (hv : v = 0 ∨ v = 1) (h : Sto w s wr) (hi : s[i]? = some (b1, flat L1)) (e1 : o1 = 32 * k1) (i1 : L1[k1]? = some x) (h2 : AtZ wr b2 o2 y) (hne : b2 ≠ b1 ∨ o2 ≠ o1) (hz : (if v = 1 then y else x) = z) :
   Calls Tryd.prog 110 #[.pointer (some ⟨b1, o1, none⟩), .pointer (some ⟨b2, o2, none⟩), .int .i64 v] wr fun e w' => e = .returned (.tuple #[]) ∧ Sto w (s.set i (b1, flat (L1.set k1 z))) w' := by
 have := stCmov hv h hi (k2 e1) (flat_get0 i1) (flat_get1 i1) h2.q hne (al_ne h2.al e1) (by rcases hne with q | q; exact .inl q; exact .inr (by omega))
 rw [← flat_set, ← hz]
 rcases hv with rfl | rfl
 · rw [if_neg (by decide)]
   rw [if_neg (by decide), if_neg (by decide)] at this
   exact this
 · rw [if_pos rfl]
   rw [if_pos rfl, if_pos rfl] at this
   exact this
end
end Go.Proofs.YtfkfljohhabldaaDoor
namespace Go.FourQ
open Go.RowKit
theorem set1_eq {α : Type} : ∀ (l : List α) (k : Nat) (x : α), k < l.length → l.set k x = l.take k ++ [x] ++ l.drop (k + 1)
 | [], k, x, h => by simp at h
 | a :: l, 0, x, h => by simp
 | a :: l, k + 1, x, h => by
   have := set1_eq l k x (by simpa using h)
   simp only [List.set_cons_succ, this, List.take_succ_cons, List.drop_succ_cons, List.cons_append]
theorem store_one {l : List Nat} {k x : Nat} (h : k < l.length) : ((fps l).toList.take (16 * k) ++ (fpC x).toList ++ (fps l).toList.drop (16 * k + (fpC x).size)).toArray = fps (l.set k x) := by
 rw [size_fpC, show 16 * k + 16 = 16 * (k + 1) by omega, take_fps, drop_fps, set1_eq l k x h, fps_app, fps_app, fps_one]
 apply Array.ext'
 simp
section
variable {P : Program} {ops : Array Oper} {Q : Exit → Act → World → Prop} {S : World → Prop} {a : Act} {w : World} {r : List (Bool × Nat)} {i : Nat} {d : Option Tmp}
/-- Bytes of one part are written. -/
theorem k_storeN (hw : wantN ops i a = some true) (hd : (opN ops i).dst = d) {ty : TypeId} {x y : Operand} (hop : (opN ops i).op = .store ty x y) {b o k u : Nat} {l : List Nat} (hx : a.eval x = .pointer (some ⟨b, o, none⟩)) (hy : a.eval y = .agg (fpC u))
   (h1 : Fps w b l) (e1 : o = 16 * k) (i1 : k < l.length) (hi : (P.info? ty).map (·.size) = some 16)
   (h : ∀ w', Upd w w' b (l.set k u) → S w' ∧ PlanG P ops Q S r (a.put d undef) w') : PlanG P ops Q S ((false, i) :: r) a w := by
 subst hd e1
 obtain ⟨T, hT⟩ := h1
 have U := upd_setRow (m := l.set k u) hT
 obtain ⟨hS, hn⟩ := h _ U
 refine ⟨?_⟩
 show wpOp P ops Q i _ a w
 have hw' := wantN_some hw
 unfold wpOp
 simp only [hw'.1, hw'.2, if_true]
 refine .inl ?_
 unfold Oper.wp
 have hsz : (P.info? ty).map (·.size) = some (fpC u).size := by rw [hi, size_fpC]
 have hrun : (execOp a.eval (opN ops i)).run P w = .ok .skip (w.setRow b (fps (l.set k u))) := by
   unfold execOp
   simp only [hop, hx, hy, Instr.storeAt, Instr.sureAddr, Sem.run_bind, Sem.run_pure, Result.andThen_ok]
   rw [run_storeVar_at w b (16 * k) T ty (fps l) (fpC u) hT hsz (by rw [size_fps, size_fpC]; omega) (all_fpC u), store_one i1]
   rfl
 rw [hrun]
 exact ⟨hS, hn.out⟩
end
theorem one_byte (j : Nat) (hj : j < 16) (h : j ≠ 0) : byteV 1 j = byteV 0 j := by
 unfold byteV
 have : 1 / 256 ^ j = 0 := Nat.div_eq_of_lt (by
   obtain ⟨i, rfl⟩ : ∃ i, j = i + 1 := ⟨j - 1, by omega⟩
   calc 1 < 256 := by decide
     _ ≤ 256 ^ (i + 1) := Nat.le_self_pow (by omega) 256)
 rw [this, Nat.zero_div]
end Go.FourQ
namespace Go.Proofs.YtfkfljohhabldaaDoor
open Go.RowKit Go.FourQ
section
variable {w : World} {b1 b2 o1 o2 k1 : Nat} {l : List Nat}
set_option maxRecDepth 100000 in
set_option maxHeartbeats 1000000 in
theorem setZeroN (h1 : Fps w b1 l) (e1 : o1 = 16 * k1) (i1 : k1 + 1 < l.length) :
   Calls Tryd.prog 98 #[.pointer (some ⟨b1, o1, none⟩)] w fun e w' => e = .returned (.tuple #[]) ∧ Upd w w' b1 ((l.set k1 0).set (k1 + 1) 0) := by
 have E1 := Lib.hid e1
 have I1 := Lib.hid i1
 clear e1 i1
 go_enter Tryd.func98, Tryd.ntmps98
 go_upto_region 1 with (fail)
 have HN := h1.lt
 have F0 : Fps (w.alloc (.cells #[.int .u8 0, .int .u8 0, .int .u8 0, .int .u8 0, .int .u8 0, .int .u8 0, .int .u8 0, .int .u8 0, .int .u8 0, .int .u8 0, .int .u8 0, .int .u8 0, .int .u8 0, .int .u8 0, .int .u8 0, .int .u8 0] 73)) b1 l := h1.alloc _
 have Z0 : Fps (w.alloc (.cells #[.int .u8 0, .int .u8 0, .int .u8 0, .int .u8 0, .int .u8 0, .int .u8 0, .int .u8 0, .int .u8 0, .int .u8 0, .int .u8 0, .int .u8 0, .int .u8 0, .int .u8 0, .int .u8 0, .int .u8 0, .int .u8 0] 73)) w.heap.size [0] := Fps.new _ [0] _ _ _ rfl zero_fps.symm
 have B0 : Below w.heap.size w (w.alloc (.cells #[.int .u8 0, .int .u8 0, .int .u8 0, .int .u8 0, .int .u8 0, .int .u8 0, .int .u8 0, .int .u8 0, .int .u8 0, .int .u8 0, .int .u8 0, .int .u8 0, .int .u8 0, .int .u8 0, .int .u8 0, .int .u8 0] 73)) := nb_alloc (Below.refl _ _) _
 obtain ⟨W0, hW⟩ : ∃ W0 : World, W0 = (w.alloc (.cells #[.int .u8 0, .int .u8 0, .int .u8 0, .int .u8 0, .int .u8 0, .int .u8 0, .int .u8 0, .int .u8 0, .int .u8 0, .int .u8 0, .int .u8 0, .int .u8 0, .int .u8 0, .int .u8 0, .int .u8 0, .int .u8 0] 73)) := ⟨_, rfl⟩
 rw [← hW] at F0 Z0 B0 ⊢
 clear hW
 obtain ⟨n, hn⟩ : ∃ n, w.heap.size = n := ⟨_, rfl⟩
 rw [hn] at Z0 HN ⊢
 replace hn := Lib.hid hn
 refine wrA (opsAt Tryd.f98 1) ((true, 0) :: (true, 1) :: (true, 2) :: (true, 3) :: (false, 4) :: []) (fun w' => Fps w' n [0]) Z0 ?_
 refine kp (d := some 3) (v := .pointer (some ⟨b1, o1, none⟩)) ?_
 refine k_load (by kernel_rfl) (d := (some 4)) (by kernel_rfl) (ty := 73) (x := (.tmp 2)) (by kernel_rfl) (b := n) (off := 0) (by kernel_rfl) (cs := fpC 0) (fun w' hs => hs.cells1 (k := 0) rfl rfl) Tryd.underlying73 rfl (by kernel_rfl) ?_
 refine kp (d := some 5) (v := .pointer (some ⟨b1, o1, none⟩)) ?_
 refine kp (d := some 6) (v := .pointer (some ⟨b1, o1, none⟩)) ?_
 refine k_storeN (by kernel_rfl) (d := none) (by kernel_rfl) (ty := 73) (x := (.tmp 6)) (y := (.tmp 4)) (by kernel_rfl) (b := b1) (o := o1) (u := 0) (by kernel_rfl) (by kernel_rfl) F0 E1.out (Nat.lt_of_succ_lt I1.out) (by kernel_rfl) (fun w1 u1 => ⟨Z0.of_heap (u1.other n Z0.lt (Nat.ne_of_gt HN)), ?_⟩)
 refine k_end ?_
 go_simp
 go_upto_region 2 with (fail)
 have Z1 := Z0.of_heap (u1.other n Z0.lt (Nat.ne_of_gt HN))
 refine wrA (opsAt Tryd.f98 2) ((true, 0) :: (true, 1) :: (true, 2) :: (true, 3) :: (false, 4) :: []) (fun w' => Fps w' n [0]) Z1 ?_
 refine kp (d := some 7) (v := .pointer (some ⟨b1, o1, none⟩)) ?_
 refine k_load (by kernel_rfl) (d := (some 8)) (by kernel_rfl) (ty := 73) (x := (.tmp 2)) (by kernel_rfl) (b := n) (off := 0) (by kernel_rfl) (cs := fpC 0) (fun w' hs => hs.cells1 (k := 0) rfl rfl) Tryd.underlying73 rfl (by kernel_rfl) ?_
 refine kp (d := some 9) (v := .pointer (some ⟨b1, o1, none⟩)) ?_
 refine kp (d := some 10) (v := .pointer (some ⟨b1, o1 + 16, none⟩)) ?_
 refine k_storeN (by kernel_rfl) (d := none) (by kernel_rfl) (ty := 73) (x := (.tmp 10)) (y := (.tmp 8)) (by kernel_rfl) (b := b1) (o := o1 + 16) (u := 0) (by kernel_rfl) (by kernel_rfl) u1.blk (e16 E1.out) (by rw [List.length_set]; exact I1.out) (by kernel_rfl) (fun w2 u2 => ⟨Z1.of_heap (u2.other n Z1.lt (Nat.ne_of_gt HN)), ?_⟩)
 refine k_end ?_
 go_simp
 have HU : Hid (Upd w w2 b1 ((l.set k1 0).set (k1 + 1) 0)) := Lib.hid (by
   have u := u1.ofDrew.trans u2.ofDrew
   exact ⟨u.os.trans B0.os, u.tape.trans B0.tape, u.output.trans B0.output, Nat.le_trans B0.size u.size, u.blk, fun k hk hb => (u.other k (Nat.lt_of_lt_of_le hk B0.size) hb).trans (B0.block k hk)⟩)
 clear u1 u2 Z1 F0 Z0
 go_wp2_with fail
 go_end0
 exact ⟨rfl, HU.out⟩
set_option maxRecDepth 100000 in
set_option maxHeartbeats 1000000 in
theorem setOneN (h1 : Fps w b1 l) (e1 : o1 = 16 * k1) (i1 : k1 + 1 < l.length) :
   Calls Tryd.prog 88 #[.pointer (some ⟨b1, o1, none⟩)] w fun e w' => e = .returned (.tuple #[]) ∧ Upd w w' b1 ((l.set k1 1).set (k1 + 1) 0) := by
 have C := Lib.hid (setZeroN h1 e1 i1)
 have i0 := Nat.lt_of_succ_lt i1
 have hst : (fps ((l.set k1 0).set (k1 + 1) 0)).setIfInBounds o1 (byteV 1 0) = fps ((l.set k1 1).set (k1 + 1) 0) := by
   have hk : ((l.set k1 0).set (k1 + 1) 0)[k1]? = some 0 := by rw [List.getElem?_set_ne (by omega), List.getElem?_set_self i0]
   have := fps_set_byte (x' := 1) (i := 0) hk (by decide) (fun j hj hne => one_byte j hj hne)
   rw [← e1] at this
   refine Eq.trans (b := fps (((l.set k1 0).set (k1 + 1) 0).set k1 1)) this ?_
   rw [List.set_comm _ _ (by omega), List.set_set]
 have HST := Lib.hid hst
 have hc : ∀ w', Upd w w' b1 ((l.set k1 0).set (k1 + 1) 0) → w'.cell? ⟨b1, o1, none⟩ = some (byteV 0 0) := fun w' u => by
   have hk : ((l.set k1 0).set (k1 + 1) 0)[k1]? = some 0 := by rw [List.getElem?_set_ne (by omega), List.getElem?_set_self i0]
   exact u.blk.cell hk e1 0 (by decide)
 have HC := Lib.hid hc
 clear h1 e1 i1 i0 hst hc
 have hb : byteV 1 0 = .int .u8 1 := rfl
 have HB := Lib.hid hb
 clear hb
 go_enter Tryd.func88, Tryd.ntmps88
 go_wp2_with fail
 refine C.out.mono ?_
 rintro e w' ⟨rfl, u⟩
 have hcell := HC.out _ u
 have hfree := u.blk.free o1
 unfold byteV at hcell
 have HU := Lib.hid u
 clear u
 go_wp2_with fail
 go_end0
 refine ⟨rfl, ?_⟩
 rw [← HB.out]
 exact HU.out.trans ⟨rfl, rfl, rfl, by simp, setCell_fps HU.out.blk HST.out, fun j hj hb => heap_setCell_other _ ⟨b1, o1, none⟩ j _ hb⟩
theorem qZero {L : List Zq} (h1 : FpsZ w b1 (flat L)) (e1 : o1 = 32 * k1) (i1 : k1 < L.length) :
   Calls Tryd.prog 98 #[.pointer (some ⟨b1, o1, none⟩)] w fun e w' => e = .returned (.tuple #[]) ∧ UpdZ w w' b1 (flat (L.set k1 0)) := by
 obtain ⟨l, f1, m1, n1⟩ := h1
 have i1' : 2 * k1 + 1 < l.length := by have := flat_lt i1; rwa [← m1, List.length_map] at this
 refine (setZeroN f1 (k2 e1) i1').mono fun _ _ q => ⟨q.1, ?_⟩
 have u := q.2
 rw [← flat_set]
 exact ⟨u.os, u.tape, u.output, u.size, ⟨_, u.blk, by rw [List.map_set, List.map_set, m1]; rfl, fun v hv => by
   rcases List.mem_or_eq_of_mem_set hv with h | h
   · rcases List.mem_or_eq_of_mem_set h with h | h
     · exact n1 v h
     · rw [h]; exact low_zero
   · rw [h]; exact low_zero⟩, u.other⟩
theorem qOne {L : List Zq} (h1 : FpsZ w b1 (flat L)) (e1 : o1 = 32 * k1) (i1 : k1 < L.length) :
   Calls Tryd.prog 88 #[.pointer (some ⟨b1, o1, none⟩)] w fun e w' => e = .returned (.tuple #[]) ∧ UpdZ w w' b1 (flat (L.set k1 1)) := by
 obtain ⟨l, f1, m1, n1⟩ := h1
 have i1' : 2 * k1 + 1 < l.length := by have := flat_lt i1; rwa [← m1, List.length_map] at this
 refine (setOneN f1 (k2 e1) i1').mono fun _ _ q => ⟨q.1, ?_⟩
 have u := q.2
 rw [← flat_set]
 exact ⟨u.os, u.tape, u.output, u.size, ⟨_, u.blk, by rw [List.map_set, List.map_set, m1]; rfl, fun v hv => by
   rcases List.mem_or_eq_of_mem_set hv with h | h
   · rcases List.mem_or_eq_of_mem_set h with h | h
     · exact n1 v h
     · rw [h]; show 1 < _; decide +kernel
   · rw [h]; exact low_zero⟩, u.other⟩
section
variable {wr : World} {s : List (Nat × List Zp)} {i : Nat} {L1 : List Zq} {x : Zq}
theorem sqSet0 (h : Sto w s wr) (hi : s[i]? = some (b1, flat L1)) (e1 : o1 = 32 * k1) (i1 : k1 < L1.length) :
   Calls Tryd.prog 98 #[.pointer (some ⟨b1, o1, none⟩)] wr fun e w' => e = .returned (.tuple #[]) ∧ Sto w (s.set i (b1, flat (L1.set k1 0))) w' := up1 h hi (qZero (h.blk i b1 _ hi) e1 i1)
theorem sqSet1 (h : Sto w s wr) (hi : s[i]? = some (b1, flat L1)) (e1 : o1 = 32 * k1) (i1 : k1 < L1.length) :
   Calls Tryd.prog 88 #[.pointer (some ⟨b1, o1, none⟩)] wr fun e w' => e = .returned (.tuple #[]) ∧ Sto w (s.set i (b1, flat (L1.set k1 1))) w' := up1 h hi (qOne (h.blk i b1 _ hi) e1 i1)
end
end
end Go.Proofs.YtfkfljohhabldaaDoor
